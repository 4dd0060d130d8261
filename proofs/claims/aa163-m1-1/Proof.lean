import JvmDerived
import JvmDerived.Pilot.@@N@@Statement
import JvmDerived.Pilot.@@N@@Code
set_option linter.unusedVariables false
set_option linter.unusedSimpArgs false
namespace Jvm.Pilot.@@N@@
open Jvm Jvm.ClassFile Sem Op Lib Jvm.Free Jvm.Stand Jvm.LawKit Jvm.RoadKit Bundle Jvm.Pilot.@@N@@.Jvm.D
section Own
variable {p : Program} {l : Launch} {e : Env} {R : Room} {s : State} {m : MethodId} {args : Array Value} {below : List Frame} {meth : Method} {c : Code} {T : State} {locs : List Loc} {cells slots : Nat}
/-- from the state A on the run comes to a return of the body that s was about to invoke, with Q of the value, the heap and the places written -/
def Go (En : State → Outcome → State → List Loc → Nat → Nat → Prop) (p : Program) (e : Env) (below : List Frame) (s : State) (C S : Nat) (Q : Option Value → Heap → List Loc → Prop) (A : State) : Prop :=
  ∃ s₂ o, Steps p.tables e below A s₂ ∧ s₂.status = .running ∧ Ended s₂ below o ∧ ∃ v L, o = .returned v ∧ Q v s₂.heap L ∧ En s o s₂ L C S
variable {En : State → Outcome → State → List Loc → Nat → Nat → Prop} {C S : Nat} {Q : Option Value → Heap → List Loc → Prop} {A B : State} {h : Heap}
theorem Go.step (h : ∀ t, Steps p.tables e below B t → Steps p.tables e below A t) (g : Go En p e below s C S Q B) : Go En p e below s C S Q A := by
  obtain ⟨s₂, o, h1, r⟩ := g
  exact ⟨s₂, o, h _ h1, r⟩
theorem Go.hop (h : Steps p.tables e below A B) (g : Go En p e below s C S Q B) : Go En p e below s C S Q A := Go.step (fun _ k => h.trans k) g
theorem Go.out (X : Stand p l e R s m args below meth c T locs cells slots) {v : Option Value} (hv : meth.sig.returnType = none → v = none) (hl : meth.locks = false) (eT : T.heap = h) (hc : cells ≤ C) (hs : slots ≤ S) (q : Q v h locs)
    (st : ∀ fs, (∀ (f : JFrame) (acts : List Action), f.method = m → f.locked = none → f.entered = [] → (doReturn e (T.setTop f) acts v).1 = T.setFrames fs) → Steps p.tables e below A (T.setFrames fs)) : Go FrameEnd p e below s C S Q A := by
  obtain ⟨fs, hr, hrun, hended, hW, hsame⟩ := X.leave (v := v) hv hl
  refine ⟨_, _, st fs hr, hrun, hended, _, _, rfl, ?_, ⟨_, rfl⟩, hW, hsame.mono hc hs⟩
  show Q v T.heap locs
  rw [eT]
  exact q
theorem Go.retN (X : Stand p l e R s m args below meth c T locs cells slots) (hx : p.tables.exec = Jvm.exec) {pc : Nat} {Ls : Array Slot} {z : Int32} {t : FieldType} {rest : List Value} (hret : meth.sig.returnType = some t) (ht : t = .boolean ∨ t = .byte ∨ t = .char ∨ t = .short)
    (hz : nar t z = z) (hd : decode c.code pc = .ok (.ireturn, 1)) (hl : meth.locks = false) (eT : T.heap = h) (hc : cells ≤ C) (hs : slots ≤ S) (q : Q (some (.int z)) h locs) : Go FrameEnd p e below s C S Q (T.setTop (mkF m pc Ls (.int z :: rest))) :=
  Go.out X (v := some (.int z)) (fun k => by rw [hret] at k; cases k) hl eT hc hs q fun fs hr => Jvm.RoadKit.retN X hx (t := t) hret ht hd (by rw [hz]; exact hr)
theorem Go.retI (X : Stand p l e R s m args below meth c T locs cells slots) (hx : p.tables.exec = Jvm.exec) {pc : Nat} {Ls : Array Slot} {z : Int32} {rest : List Value} (hret : meth.sig.returnType = some .int)
    (hd : decode c.code pc = .ok (.ireturn, 1)) (hl : meth.locks = false) (eT : T.heap = h) (hc : cells ≤ C) (hs : slots ≤ S) (q : Q (some (.int z)) h locs) : Go FrameEnd p e below s C S Q (T.setTop (mkF m pc Ls (.int z :: rest))) :=
  Go.out X (v := some (.int z)) (fun k => by rw [hret] at k; cases k) hl eT hc hs q fun fs hr => retOut X hx hret rfl (Or.inl ⟨rfl, Or.inl rfl, z, rfl⟩) hd hr
theorem Go.retJ (X : Stand p l e R s m args below meth c T locs cells slots) (hx : p.tables.exec = Jvm.exec) {pc : Nat} {Ls : Array Slot} {z : Int64} {rest : List Value} (hret : meth.sig.returnType = some .long)
    (hd : decode c.code pc = .ok (.lreturn, 1)) (hl : meth.locks = false) (eT : T.heap = h) (hc : cells ≤ C) (hs : slots ≤ S) (q : Q (some (.long z)) h locs) : Go FrameEnd p e below s C S Q (T.setTop (mkF m pc Ls (.long z :: rest))) :=
  Go.out X (v := some (.long z)) (fun k => by rw [hret] at k; cases k) hl eT hc hs q fun fs hr => retOut X hx hret rfl (Or.inr (Or.inl ⟨rfl, rfl, z, rfl⟩)) hd hr
theorem own_narR {t : FieldType} {v : Value} (hv : v.isRef = true) : narrow t v = v := by cases v <;> first | (cases hv; done) | (cases t <;> rfl)
theorem Go.retR (X : Stand p l e R s m args below meth c T locs cells slots) (hx : p.tables.exec = Jvm.exec) {pc : Nat} {Ls : Array Slot} {v : Value} {t : FieldType} {rest : List Value} (hret : meth.sig.returnType = some t) (ht : t.isReference = true) (hv : v.isRef = true)
    (hd : decode c.code pc = .ok (.areturn, 1)) (hl : meth.locks = false) (eT : T.heap = h) (hc : cells ≤ C) (hs : slots ≤ S) (q : Q (some v) h locs) : Go FrameEnd p e below s C S Q (T.setTop (mkF m pc Ls (v :: rest))) :=
  Go.out X (v := some v) (fun k => by rw [hret] at k; cases k) hl eT hc hs q fun fs hr => retOut X hx hret (own_narR hv) (Or.inr (Or.inr (Or.inr (Or.inr ⟨rfl, ht, hv⟩)))) hd hr
theorem Go.ret0 (X : Stand p l e R s m args below meth c T locs cells slots) (hx : p.tables.exec = Jvm.exec) {pc : Nat} {Ls : Array Slot} (hret : meth.sig.returnType = none)
    (hd : decode c.code pc = .ok (.return_, 1)) (hl : meth.locks = false) (eT : T.heap = h) (hc : cells ≤ C) (hs : slots ≤ S) (q : Q none h locs) : Go FrameEnd p e below s C S Q (T.setTop (mkF m pc Ls [])) :=
  Go.out X (v := none) (fun _ => rfl) hl eT hc hs q fun fs hr => X.returnOut hx hret hd hr
theorem Go.outW {vm0 : Vm} {k0 : Nat} (X : Stand p l e R (s.setVm vm0) m args below meth c T locs cells slots) (hS : s.Since vm0 k0) (hk : k0 ≤ h.size) {v : Option Value} (hv : meth.sig.returnType = none → v = none) (hl : meth.locks = false) (eT : T.heap = h) (hc : cells ≤ C) (hs : slots ≤ S) (q : Q v h locs)
    (st : ∀ fs, (∀ (f : JFrame) (acts : List Action), f.method = m → f.locked = none → f.entered = [] → (doReturn e (T.setTop f) acts v).1 = T.setFrames fs) → Steps p.tables e below A (T.setFrames fs)) : Go ReturnedEndW p e below s C S Q A := by
  obtain ⟨fs, hr, hrun, hended, hq1, hq2, hq3, hq4⟩ := X.leaveW hS (by rw [eT]; exact hk) (v := v) hv hl
  refine ⟨_, _, st fs hr, hrun, hended, _, _, rfl, ?_, hq1, hq2, hq3, hq4.mono hc hs⟩
  show Q v T.heap locs
  rw [eT]
  exact q
theorem Go.retNW {vm0 : Vm} {k0 : Nat} (X : Stand p l e R (s.setVm vm0) m args below meth c T locs cells slots) (hS : s.Since vm0 k0) (hk : k0 ≤ h.size) (hx : p.tables.exec = Jvm.exec) {pc : Nat} {Ls : Array Slot} {z : Int32} {t : FieldType} {rest : List Value} (hret : meth.sig.returnType = some t) (ht : t = .boolean ∨ t = .byte ∨ t = .char ∨ t = .short)
    (hz : nar t z = z) (hd : decode c.code pc = .ok (.ireturn, 1)) (hl : meth.locks = false) (eT : T.heap = h) (hc : cells ≤ C) (hs : slots ≤ S) (q : Q (some (.int z)) h locs) : Go ReturnedEndW p e below s C S Q (T.setTop (mkF m pc Ls (.int z :: rest))) :=
  Go.outW X hS hk (v := some (.int z)) (fun k => by rw [hret] at k; cases k) hl eT hc hs q fun fs hr => Jvm.RoadKit.retN X hx (t := t) hret ht hd (by rw [hz]; exact hr)
theorem Go.retIW {vm0 : Vm} {k0 : Nat} (X : Stand p l e R (s.setVm vm0) m args below meth c T locs cells slots) (hS : s.Since vm0 k0) (hk : k0 ≤ h.size) (hx : p.tables.exec = Jvm.exec) {pc : Nat} {Ls : Array Slot} {z : Int32} {rest : List Value} (hret : meth.sig.returnType = some .int)
    (hd : decode c.code pc = .ok (.ireturn, 1)) (hl : meth.locks = false) (eT : T.heap = h) (hc : cells ≤ C) (hs : slots ≤ S) (q : Q (some (.int z)) h locs) : Go ReturnedEndW p e below s C S Q (T.setTop (mkF m pc Ls (.int z :: rest))) :=
  Go.outW X hS hk (v := some (.int z)) (fun k => by rw [hret] at k; cases k) hl eT hc hs q fun fs hr => retOut X hx hret rfl (Or.inl ⟨rfl, Or.inl rfl, z, rfl⟩) hd hr
theorem Go.retJW {vm0 : Vm} {k0 : Nat} (X : Stand p l e R (s.setVm vm0) m args below meth c T locs cells slots) (hS : s.Since vm0 k0) (hk : k0 ≤ h.size) (hx : p.tables.exec = Jvm.exec) {pc : Nat} {Ls : Array Slot} {z : Int64} {rest : List Value} (hret : meth.sig.returnType = some .long)
    (hd : decode c.code pc = .ok (.lreturn, 1)) (hl : meth.locks = false) (eT : T.heap = h) (hc : cells ≤ C) (hs : slots ≤ S) (q : Q (some (.long z)) h locs) : Go ReturnedEndW p e below s C S Q (T.setTop (mkF m pc Ls (.long z :: rest))) :=
  Go.outW X hS hk (v := some (.long z)) (fun k => by rw [hret] at k; cases k) hl eT hc hs q fun fs hr => retOut X hx hret rfl (Or.inr (Or.inl ⟨rfl, rfl, z, rfl⟩)) hd hr
theorem Go.retRW {vm0 : Vm} {k0 : Nat} (X : Stand p l e R (s.setVm vm0) m args below meth c T locs cells slots) (hS : s.Since vm0 k0) (hk : k0 ≤ h.size) (hx : p.tables.exec = Jvm.exec) {pc : Nat} {Ls : Array Slot} {v : Value} {t : FieldType} {rest : List Value} (hret : meth.sig.returnType = some t) (ht : t.isReference = true) (hv : v.isRef = true)
    (hd : decode c.code pc = .ok (.areturn, 1)) (hl : meth.locks = false) (eT : T.heap = h) (hc : cells ≤ C) (hs : slots ≤ S) (q : Q (some v) h locs) : Go ReturnedEndW p e below s C S Q (T.setTop (mkF m pc Ls (v :: rest))) :=
  Go.outW X hS hk (v := some v) (fun k => by rw [hret] at k; cases k) hl eT hc hs q fun fs hr => retOut X hx hret (own_narR hv) (Or.inr (Or.inr (Or.inr (Or.inr ⟨rfl, ht, hv⟩)))) hd hr
theorem Go.ret0W {vm0 : Vm} {k0 : Nat} (X : Stand p l e R (s.setVm vm0) m args below meth c T locs cells slots) (hS : s.Since vm0 k0) (hk : k0 ≤ h.size) (hx : p.tables.exec = Jvm.exec) {pc : Nat} {Ls : Array Slot} (hret : meth.sig.returnType = none)
    (hd : decode c.code pc = .ok (.return_, 1)) (hl : meth.locks = false) (eT : T.heap = h) (hc : cells ≤ C) (hs : slots ≤ S) (q : Q none h locs) : Go ReturnedEndW p e below s C S Q (T.setTop (mkF m pc Ls [])) :=
  Go.outW X hS hk (v := none) (fun _ => rfl) hl eT hc hs q fun fs hr => X.returnOut hx hret hd hr
theorem own_lrem {g : JFrame} {target : State} (X : Stand p l e R s m args below meth c T locs cells slots) (hx : p.tables.exec = Jvm.exec) (hg : g.method = m) {x y : Int64} {rest : List Value} (hd : decode c.code g.pc = .ok (.lrem, 1)) (hs : g.stack = .long y :: .long x :: rest) (hy : y ≠ 0)
    (hr : Steps p.tables e below (T.setTop { g with pc := g.pc + 1, stack := .long (x % y) :: rest }) target) : Steps p.tables e below (T.setTop g) target := by
  have q : x - x / y * y = x % y := lrem_mod x y
  exact XS.lrem X.here hx hg hd hs hy (by rw [q]; exact hr)
theorem own_fitR {t : FieldType} {v : Value} (ht : t.isReference = true) (hv : v.isRef = true) : fits t v = true := by cases v <;> first | (cases hv; done) | (cases t <;> first | rfl | cases ht)
variable {Z : State} {h' : Heap} {a b : Addr} {ty : FieldType} {n i sl : Nat} {f : Nat → Value} {v w : Value} {cl : Cell} {j z : Int32} {k : ClassId} {ws : List Addr}
/-- the array at a has n places; place j holds f j -/
def Av (Z : State) (h : Heap) (a : Addr) (ty : FieldType) (n : Nat) (f : Nat → Value) : Prop := ∃ c : Cell, Arr Z h a c ty ∧ c.slots.size = n ∧ n < 2147483648 ∧ ∀ j, j < n → c.slots[j]? = some (f j)
def aset (f : Nat → Value) (i : Nat) (v : Value) : Nat → Value := fun j => if j = i then v else f j
theorem Av.lt (F : Av Z h a ty n f) : a < h.size := by obtain ⟨c, A, -⟩ := F; exact A.lt
theorem Av.ext (F : Av Z h a ty n f) (E : Ext h h') : Av Z h' a ty n f := by obtain ⟨c, A, r⟩ := F; exact ⟨c, A.ext E, r⟩
theorem Av.other (F : Av Z h b ty n f) (W : Wr h h' a sl v) (q : b ≠ a) : Av Z h' b ty n f := by obtain ⟨c, A, r⟩ := F; exact ⟨c, A.other W q, r⟩
theorem Av.keep (F : Av Z h a ty n f) (K : Keep h h' ws) (q : a ∉ ws) : Av Z h' a ty n f := by obtain ⟨c, A, r⟩ := F; exact ⟨c, ⟨K.2.1 a c A.1 q, A.2⟩, r⟩
theorem Av.eq (F : Av Z h a ty n f) {g : Nat → Value} (q : ∀ j, j < n → f j = g j) : Av Z h a ty n g := by obtain ⟨c, A, r1, r2, r3⟩ := F; exact ⟨c, A, r1, r2, fun j hj => by rw [← q j hj]; exact r3 j hj⟩
theorem own_clamp (q : ¬ z < 0) : z.toNatClampNeg < 2147483648 := (back32 q).2
theorem Av.new (A : Arr Z h a (newA k ty z) ty) (q : ¬ z < 0) (e : z.toNatClampNeg = n) : Av Z h a ty n (fun _ => defaultValue ty) := by
  refine ⟨_, A, by rw [sz_new, e], by rw [← e]; exact own_clamp q, fun j hj => ?_⟩
  have q2 : (newA k ty z).slots = Array.replicate z.toNatClampNeg (defaultValue ty) := rfl
  rw [q2, Array.getElem?_replicate, e, if_pos hj]
theorem own_in {c : Cell} (S : c.slots.size = n) (h0 : ¬ j < 0) (h : j.toNatClampNeg < n) : ¬ (j < 0 ∨ c.slots.size ≤ j.toNatClampNeg) := by
  rw [S]; exact fun q => q.elim h0 (Nat.not_le.mpr h)
theorem Av.at {c : Cell} (G : ∀ j, j < n → c.slots[j]? = some (f j)) (e : j.toNatClampNeg = i) (hi : i < n) (w : f i = v) : c.slots[j.toNatClampNeg]? = some v := by rw [e, G i hi, w]
theorem own_slots (c : Cell) (i : Nat) (v : Value) : (c.setSlot i v).slots = c.slots.setIfInBounds i v := rfl
theorem Av.set {c : Cell} (A : Arr Z h a c ty) (S : c.slots.size = n) (M : n < 2147483648) (G : ∀ j, j < n → c.slots[j]? = some (f j)) (W : Wr h h' a j.toNatClampNeg v) (e : j.toNatClampNeg = i) (hin : ¬ (j < 0 ∨ c.slots.size ≤ j.toNatClampNeg)) : Av Z h' a ty n (aset f i v) := by
  have hi : i < c.slots.size := by rw [← e]; exact Nat.lt_of_not_le fun q => hin (Or.inr q)
  refine ⟨_, A.same W, by rw [sz_set]; exact S, M, fun q hq => ?_⟩
  rw [own_slots, e, Array.getElem?_setIfInBounds]
  by_cases r : i = q
  · subst r
    rw [if_pos rfl, if_pos hi]; simp [aset]
  · rw [if_neg r, G q hq]
    show some (f q) = some (if q = i then v else f q)
    rw [if_neg (Ne.symm r)]
theorem own_int_v {aa : Array Value} {t : Term} {k : Int32} (he : (Cond.eq t (.int k)).value aa Z none Z [] = some true) : t.eval aa Z none [] Z = some (.int k) := by
  have hk : (Term.int k).eval aa Z none [] Z = some (.int k) := Term.int_eval k
  cases ht : t.eval aa Z none [] Z with
  | none => simp [Cond.value, ht] at he
  | some x => cases x <;> simp_all [Cond.value]
theorem own_enum {aa : Array Value} {t : Term} {C D n d : String} {k : Int32} (hx : (Cond.exactly t C).value aa Z none Z [] = some true) (he : (Cond.eq (.field t D n d) (.int k)).value aa Z none Z [] = some true) :
    ∃ x : Addr, t.eval aa Z none [] Z = some (.ref x) ∧ Exa Z Z.heap x C ∧ Fld Z Z.heap x D n d (.int k) := by
  obtain ⟨x, hv⟩ := exa_v hx
  exact ⟨x, hv, Exa.start hv hx, Fld.start (by rw [← fld_at hv]; exact own_int_v he)⟩
theorem own_self {y z : MethodName} (hz : (Cond.selects z.cls z z).before args s = true) (e : z.cls = y.cls) (hp : s.PrivateAt y) (hi : (Cond.instanceMethod y).before args s = true) (hy : y.cls ≠ "java/lang/invoke/MethodHandle" ∧ y.cls ≠ "java/lang/invoke/VarHandle") : (Cond.selects y.cls y y).before args s = true := by
  obtain ⟨c2, r2, m2, q1, -, q3, -, kP, hkP, hkPi⟩ := Cond.selects_spec hz
  have q := findClass_of_methodNamed q3
  rw [e] at q
  exact selects_self_of_private q hkP hkPi hp hi hy
def ushI (x y : Int32) : Int32 := (x.toUInt32 >>> (y &&& 31).toUInt32).toInt32
def ushL (x : Int64) (y : Int32) : Int64 := (x.toUInt64 >>> (y &&& 0x3f).toInt64.toUInt64).toInt64
theorem own_nar8 (a : Int32) : nar .byte a.toInt8.toInt32 = a.toInt8.toInt32 := by show a.toInt8.toInt32.toInt8.toInt32 = _; simp
theorem own_nar16 (a : Int32) : nar .char a.toUInt32.toUInt16.toUInt32.toInt32 = a.toUInt32.toUInt16.toUInt32.toInt32 := by
  show a.toUInt32.toUInt16.toUInt32.toInt32.toUInt32.toUInt16.toUInt32.toInt32 = _
  rw [show a.toUInt32.toUInt16.toUInt32.toInt32.toUInt32 = a.toUInt32.toUInt16.toUInt32 from rfl, UInt16.toUInt16_toUInt32]
theorem own_sta_keep {C d nm : String} (F : Sta Z h C nm d w) (K : Keep h h' []) : Sta Z h' C nm d w := by
  obtain ⟨cf, i, k, f, st, cell, h1, h2, h3, h4, h5, r⟩ := F
  exact ⟨cf, i, k, f, st, cell, h1, h2, h3, h4, K.2.1 _ _ h5 nin0, r⟩
theorem own_ext_keep (E : Ext h h') : Keep h h' [] := (Keep.refl h []).ext E
theorem own_keep_eq (e : h' = h) (ws : List Addr) : Keep h h' ws := by rw [e]; exact Keep.refl _ _
end Own
theorem pn_example_zedbox_PeriodsOfEachPrefixPinLaw : plainName "example/zedbox/PeriodsOfEachPrefixPinLaw" = true := by first | (simp [plainName, overriddenIn]; done) | decide +kernel
theorem d_method_4_code_0 : decode method_4_code 0 = .ok (.iconst 1, 1) := by decide +kernel
theorem d_method_4_code_16 : decode method_4_code 16 = .ok (.iconst 2, 1) := by decide +kernel
theorem d_method_4_code_32 : decode method_4_code 32 = .ok (.iconst 3, 1) := by decide +kernel
theorem d_method_4_code_48 : decode method_4_code 48 = .ok (.iconst 4, 1) := by decide +kernel
theorem d_method_4_code_64 : decode method_4_code 64 = .ok (.iconst 5, 1) := by decide +kernel
theorem d_method_4_code_80 : decode method_4_code 80 = .ok (.iload_n 1, 1) := by decide +kernel
theorem d_method_4_code_81 : decode method_4_code 81 = .ok (.ireturn, 1) := by decide +kernel
theorem d_method_4_code_65 : decode method_4_code 65 = .ok (.iload_n 1, 1) := by decide +kernel
theorem d_method_4_code_66 : decode method_4_code 66 = .ok (.if_icmp .ge 14, 3) := by decide +kernel
theorem d_method_4_code_69 : decode method_4_code 69 = .ok (.iconst 5, 1) := by decide +kernel
theorem d_method_4_code_70 : decode method_4_code 70 = .ok (.aload_n 0, 1) := by decide +kernel
theorem d_method_4_code_71 : decode method_4_code 71 = .ok (.iconst 5, 1) := by decide +kernel
theorem d_method_4_code_72 : decode method_4_code 72 = .ok (.iaload, 1) := by decide +kernel
theorem d_method_4_code_73 : decode method_4_code 73 = .ok (.iadd, 1) := by decide +kernel
theorem d_method_4_code_74 : decode method_4_code 74 = .ok (.iload_n 1, 1) := by decide +kernel
theorem d_method_4_code_75 : decode method_4_code 75 = .ok (.if_icmp .lt 5, 3) := by decide +kernel
theorem d_method_4_code_78 : decode method_4_code 78 = .ok (.iconst 5, 1) := by decide +kernel
theorem d_method_4_code_79 : decode method_4_code 79 = .ok (.ireturn, 1) := by decide +kernel
theorem d_method_4_code_49 : decode method_4_code 49 = .ok (.iload_n 1, 1) := by decide +kernel
theorem d_method_4_code_50 : decode method_4_code 50 = .ok (.if_icmp .ge 14, 3) := by decide +kernel
theorem d_method_4_code_53 : decode method_4_code 53 = .ok (.iconst 4, 1) := by decide +kernel
theorem d_method_4_code_54 : decode method_4_code 54 = .ok (.aload_n 0, 1) := by decide +kernel
theorem d_method_4_code_55 : decode method_4_code 55 = .ok (.iconst 4, 1) := by decide +kernel
theorem d_method_4_code_56 : decode method_4_code 56 = .ok (.iaload, 1) := by decide +kernel
theorem d_method_4_code_57 : decode method_4_code 57 = .ok (.iadd, 1) := by decide +kernel
theorem d_method_4_code_58 : decode method_4_code 58 = .ok (.iload_n 1, 1) := by decide +kernel
theorem d_method_4_code_59 : decode method_4_code 59 = .ok (.if_icmp .lt 5, 3) := by decide +kernel
theorem d_method_4_code_62 : decode method_4_code 62 = .ok (.iconst 4, 1) := by decide +kernel
theorem d_method_4_code_63 : decode method_4_code 63 = .ok (.ireturn, 1) := by decide +kernel
theorem d_method_4_code_33 : decode method_4_code 33 = .ok (.iload_n 1, 1) := by decide +kernel
theorem d_method_4_code_34 : decode method_4_code 34 = .ok (.if_icmp .ge 14, 3) := by decide +kernel
theorem d_method_4_code_37 : decode method_4_code 37 = .ok (.iconst 3, 1) := by decide +kernel
theorem d_method_4_code_38 : decode method_4_code 38 = .ok (.aload_n 0, 1) := by decide +kernel
theorem d_method_4_code_39 : decode method_4_code 39 = .ok (.iconst 3, 1) := by decide +kernel
theorem d_method_4_code_40 : decode method_4_code 40 = .ok (.iaload, 1) := by decide +kernel
theorem d_method_4_code_41 : decode method_4_code 41 = .ok (.iadd, 1) := by decide +kernel
theorem d_method_4_code_42 : decode method_4_code 42 = .ok (.iload_n 1, 1) := by decide +kernel
theorem d_method_4_code_43 : decode method_4_code 43 = .ok (.if_icmp .lt 5, 3) := by decide +kernel
theorem d_method_4_code_46 : decode method_4_code 46 = .ok (.iconst 3, 1) := by decide +kernel
theorem d_method_4_code_47 : decode method_4_code 47 = .ok (.ireturn, 1) := by decide +kernel
theorem d_method_4_code_17 : decode method_4_code 17 = .ok (.iload_n 1, 1) := by decide +kernel
theorem d_method_4_code_18 : decode method_4_code 18 = .ok (.if_icmp .ge 14, 3) := by decide +kernel
theorem d_method_4_code_21 : decode method_4_code 21 = .ok (.iconst 2, 1) := by decide +kernel
theorem d_method_4_code_22 : decode method_4_code 22 = .ok (.aload_n 0, 1) := by decide +kernel
theorem d_method_4_code_23 : decode method_4_code 23 = .ok (.iconst 2, 1) := by decide +kernel
theorem d_method_4_code_24 : decode method_4_code 24 = .ok (.iaload, 1) := by decide +kernel
theorem d_method_4_code_25 : decode method_4_code 25 = .ok (.iadd, 1) := by decide +kernel
theorem d_method_4_code_26 : decode method_4_code 26 = .ok (.iload_n 1, 1) := by decide +kernel
theorem d_method_4_code_27 : decode method_4_code 27 = .ok (.if_icmp .lt 5, 3) := by decide +kernel
theorem d_method_4_code_30 : decode method_4_code 30 = .ok (.iconst 2, 1) := by decide +kernel
theorem d_method_4_code_31 : decode method_4_code 31 = .ok (.ireturn, 1) := by decide +kernel
theorem d_method_4_code_1 : decode method_4_code 1 = .ok (.iload_n 1, 1) := by decide +kernel
theorem d_method_4_code_2 : decode method_4_code 2 = .ok (.if_icmp .ge 14, 3) := by decide +kernel
theorem d_method_4_code_5 : decode method_4_code 5 = .ok (.iconst 1, 1) := by decide +kernel
theorem d_method_4_code_6 : decode method_4_code 6 = .ok (.aload_n 0, 1) := by decide +kernel
theorem d_method_4_code_7 : decode method_4_code 7 = .ok (.iconst 1, 1) := by decide +kernel
theorem d_method_4_code_8 : decode method_4_code 8 = .ok (.iaload, 1) := by decide +kernel
theorem d_method_4_code_9 : decode method_4_code 9 = .ok (.iadd, 1) := by decide +kernel
theorem d_method_4_code_10 : decode method_4_code 10 = .ok (.iload_n 1, 1) := by decide +kernel
theorem d_method_4_code_11 : decode method_4_code 11 = .ok (.if_icmp .lt 5, 3) := by decide +kernel
theorem d_method_4_code_14 : decode method_4_code 14 = .ok (.iconst 1, 1) := by decide +kernel
theorem d_method_4_code_15 : decode method_4_code 15 = .ok (.ireturn, 1) := by decide +kernel
theorem d_method_3_code_0 : decode method_3_code 0 = .ok (.iload_n 2, 1) := by decide +kernel
theorem d_method_3_code_1 : decode method_3_code 1 = .ok (.aload_n 1, 1) := by decide +kernel
theorem d_method_3_code_2 : decode method_3_code 2 = .ok (.arraylength, 1) := by decide +kernel
theorem d_method_3_code_3 : decode method_3_code 3 = .ok (.if_icmp .le 5, 3) := by decide +kernel
theorem d_method_3_code_6 : decode method_3_code 6 = .ok (.iconst 1, 1) := by decide +kernel
theorem d_method_3_code_7 : decode method_3_code 7 = .ok (.ireturn, 1) := by decide +kernel
theorem d_method_3_code_8 : decode method_3_code 8 = .ok (.aload_n 0, 1) := by decide +kernel
theorem d_method_3_code_9 : decode method_3_code 9 = .ok (.iload_n 2, 1) := by decide +kernel
theorem d_method_3_code_10 : decode method_3_code 10 = .ok (.iaload, 1) := by decide +kernel
theorem d_method_3_code_11 : decode method_3_code 11 = .ok (.aload_n 1, 1) := by decide +kernel
theorem d_method_3_code_12 : decode method_3_code 12 = .ok (.iload_n 2, 1) := by decide +kernel
theorem d_method_3_code_13 : decode method_3_code 13 = .ok (.invokestatic 20, 3) := by decide +kernel
theorem pd___II_I : parseMethodDescriptor "([II)I" = some ⟨[(.array .int), .int], some .int⟩ := by decide +kernel
theorem d_method_3_code_16 : decode method_3_code 16 = .ok (.if_icmp .ne 7, 3) := by decide +kernel
theorem d_method_3_code_19 : decode method_3_code 19 = .ok (.iconst 1, 1) := by decide +kernel
theorem d_method_3_code_20 : decode method_3_code 20 = .ok (.goto 4, 3) := by decide +kernel
theorem d_method_3_code_24 : decode method_3_code 24 = .ok (.ireturn, 1) := by decide +kernel
theorem pn_example_zedbox_Periods : plainName "example/zedbox/Periods" = true := by first | (simp [plainName, overriddenIn]; done) | decide +kernel
theorem d_prog_7_method_4_code_0 : decode prog_7_method_4_code 0 = .ok (.aload_n 0, 1) := by decide +kernel
theorem d_prog_7_method_4_code_1 : decode prog_7_method_4_code 1 = .ok (.arraylength, 1) := by decide +kernel
theorem d_prog_7_method_4_code_2 : decode prog_7_method_4_code 2 = .ok (.istore_n 1, 1) := by decide +kernel
theorem d_prog_7_method_4_code_3 : decode prog_7_method_4_code 3 = .ok (.iload_n 1, 1) := by decide +kernel
theorem d_prog_7_method_4_code_4 : decode prog_7_method_4_code 4 = .ok (.iconst 1, 1) := by decide +kernel
theorem d_prog_7_method_4_code_5 : decode prog_7_method_4_code 5 = .ok (.iadd, 1) := by decide +kernel
theorem d_prog_7_method_4_code_6 : decode prog_7_method_4_code 6 = .ok (.newarray .int, 2) := by decide +kernel
theorem d_prog_7_method_4_code_8 : decode prog_7_method_4_code 8 = .ok (.astore_n 2, 1) := by decide +kernel
theorem d_prog_7_method_4_code_9 : decode prog_7_method_4_code 9 = .ok (.iconst 1, 1) := by decide +kernel
theorem d_prog_7_method_4_code_10 : decode prog_7_method_4_code 10 = .ok (.istore_n 3, 1) := by decide +kernel
theorem d_prog_7_method_4_code_11 : decode prog_7_method_4_code 11 = .ok (.iconst 1, 1) := by decide +kernel
theorem d_prog_7_method_4_code_12 : decode prog_7_method_4_code 12 = .ok (.istore 4, 2) := by decide +kernel
theorem d_prog_7_method_4_code_14 : decode prog_7_method_4_code 14 = .ok (.iload 4, 2) := by decide +kernel
theorem d_prog_7_method_4_code_16 : decode prog_7_method_4_code 16 = .ok (.iload_n 1, 1) := by decide +kernel
theorem d_prog_7_method_4_code_17 : decode prog_7_method_4_code 17 = .ok (.if_icmp .ge 47, 3) := by decide +kernel
theorem d_prog_7_method_4_code_64 : decode prog_7_method_4_code 64 = .ok (.iload_n 3, 1) := by decide +kernel
theorem d_prog_7_method_4_code_65 : decode prog_7_method_4_code 65 = .ok (.iload_n 1, 1) := by decide +kernel
theorem d_prog_7_method_4_code_66 : decode prog_7_method_4_code 66 = .ok (.if_icmp .gt 13, 3) := by decide +kernel
theorem d_prog_7_method_4_code_79 : decode prog_7_method_4_code 79 = .ok (.aload_n 2, 1) := by decide +kernel
theorem d_prog_7_method_4_code_80 : decode prog_7_method_4_code 80 = .ok (.areturn, 1) := by decide +kernel
theorem d_prog_7_method_4_code_69 : decode prog_7_method_4_code 69 = .ok (.aload_n 2, 1) := by decide +kernel
theorem d_prog_7_method_4_code_70 : decode prog_7_method_4_code 70 = .ok (.iload_n 3, 1) := by decide +kernel
theorem d_prog_7_method_4_code_71 : decode prog_7_method_4_code 71 = .ok (.iload_n 3, 1) := by decide +kernel
theorem d_prog_7_method_4_code_72 : decode prog_7_method_4_code 72 = .ok (.iastore, 1) := by decide +kernel
theorem d_prog_7_method_4_code_73 : decode prog_7_method_4_code 73 = .ok (.iinc 3 1, 3) := by decide +kernel
theorem d_prog_7_method_4_code_76 : decode prog_7_method_4_code 76 = .ok (.goto (-12), 3) := by decide +kernel
theorem d_prog_7_method_4_code_20 : decode prog_7_method_4_code 20 = .ok (.iload_n 3, 1) := by decide +kernel
theorem d_prog_7_method_4_code_21 : decode prog_7_method_4_code 21 = .ok (.iload 4, 2) := by decide +kernel
theorem d_prog_7_method_4_code_23 : decode prog_7_method_4_code 23 = .ok (.if_icmp .gt 13, 3) := by decide +kernel
theorem d_prog_7_method_4_code_36 : decode prog_7_method_4_code 36 = .ok (.iload_n 3, 1) := by decide +kernel
theorem d_prog_7_method_4_code_37 : decode prog_7_method_4_code 37 = .ok (.iload 4, 2) := by decide +kernel
theorem d_prog_7_method_4_code_39 : decode prog_7_method_4_code 39 = .ok (.aload_n 0, 1) := by decide +kernel
theorem d_prog_7_method_4_code_40 : decode prog_7_method_4_code 40 = .ok (.iload 4, 2) := by decide +kernel
theorem d_prog_7_method_4_code_42 : decode prog_7_method_4_code 42 = .ok (.iaload, 1) := by decide +kernel
theorem d_prog_7_method_4_code_43 : decode prog_7_method_4_code 43 = .ok (.iadd, 1) := by decide +kernel
theorem d_prog_7_method_4_code_44 : decode prog_7_method_4_code 44 = .ok (.if_icmp .gt 14, 3) := by decide +kernel
theorem d_prog_7_method_4_code_58 : decode prog_7_method_4_code 58 = .ok (.iinc 4 1, 3) := by decide +kernel
theorem d_prog_7_method_4_code_61 : decode prog_7_method_4_code 61 = .ok (.goto (-47), 3) := by decide +kernel
theorem d_prog_7_method_4_code_47 : decode prog_7_method_4_code 47 = .ok (.aload_n 2, 1) := by decide +kernel
theorem d_prog_7_method_4_code_48 : decode prog_7_method_4_code 48 = .ok (.iload_n 3, 1) := by decide +kernel
theorem d_prog_7_method_4_code_49 : decode prog_7_method_4_code 49 = .ok (.iload 4, 2) := by decide +kernel
theorem d_prog_7_method_4_code_51 : decode prog_7_method_4_code 51 = .ok (.iastore, 1) := by decide +kernel
theorem d_prog_7_method_4_code_52 : decode prog_7_method_4_code 52 = .ok (.iinc 3 1, 3) := by decide +kernel
theorem d_prog_7_method_4_code_55 : decode prog_7_method_4_code 55 = .ok (.goto (-19), 3) := by decide +kernel
theorem d_prog_7_method_4_code_26 : decode prog_7_method_4_code 26 = .ok (.aload_n 2, 1) := by decide +kernel
theorem d_prog_7_method_4_code_27 : decode prog_7_method_4_code 27 = .ok (.iload_n 3, 1) := by decide +kernel
theorem d_prog_7_method_4_code_28 : decode prog_7_method_4_code 28 = .ok (.iload_n 3, 1) := by decide +kernel
theorem d_prog_7_method_4_code_29 : decode prog_7_method_4_code 29 = .ok (.iastore, 1) := by decide +kernel
theorem d_prog_7_method_4_code_30 : decode prog_7_method_4_code 30 = .ok (.iinc 3 1, 3) := by decide +kernel
theorem d_prog_7_method_4_code_33 : decode prog_7_method_4_code 33 = .ok (.goto (-13), 3) := by decide +kernel
theorem pd___I__I : parseMethodDescriptor "([I)[I" = some ⟨[(.array .int)], some (.array .int)⟩ := by decide +kernel
theorem pd___I_II_Z : parseMethodDescriptor "([I[II)Z" = some ⟨[(.array .int), (.array .int), .int], some .boolean⟩ := by decide +kernel

theorem own_of1 (i : Nat) : Int32.ofNat i + (1 : Int32) = Int32.ofNat (i + 1) := by
  show Int32.ofNat i + Int32.ofNat 1 = _
  rw [← Int32.ofNat_add]
theorem own_ofa (i j : Nat) : Int32.ofNat i + Int32.ofNat j = Int32.ofNat (i + j) := by rw [← Int32.ofNat_add]
theorem own_ofI {i : Nat} (h : i < 2147483648) : (Int32.ofNat i).toInt = i := Int32.toInt_ofNat_of_lt (by omega)
theorem own_nn {i : Nat} (h : i < 2147483648) : ¬ Int32.ofNat i < 0 := by
  rw [Int32.lt_iff_toInt_lt, own_ofI h]; show ¬ (i : Int) < 0; omega
theorem own_cl {i : Nat} (h : i < 2147483648) : (Int32.ofNat i).toNatClampNeg = i := by
  show (Int32.ofNat i).toInt.toNat = i; rw [own_ofI h]; omega
theorem own_lt {i j : Nat} (hi : i < 2147483648) (hj : j < 2147483648) : Int32.ofNat i < Int32.ofNat j ↔ i < j := by
  rw [Int32.lt_iff_toInt_lt, own_ofI hi, own_ofI hj]; omega
def pg (z : Nat → Nat) (l : Nat) : Nat → Nat → Nat
  | 0, _ => l
  | k + 1, i => if l ≤ i + z i then i else pg z l k (i + 1)
def pq (z : Nat → Nat) (l i : Nat) : Nat := pg z l (l - i) i
def per (z : Nat → Nat) (l : Nat) : Nat := pq z l 1
theorem pq_stop {z : Nat → Nat} {l i : Nat} (h : ¬ i < l) : pq z l i = l := by
  unfold pq; rw [show l - i = 0 from by omega]; rfl
theorem pq_hit {z : Nat → Nat} {l i : Nat} (h : i < l) (h2 : l ≤ i + z i) : pq z l i = i := by
  unfold pq; rw [show l - i = (l - i - 1) + 1 from by omega]; show (if l ≤ i + z i then i else _) = i; rw [if_pos h2]
theorem pq_next {z : Nat → Nat} {l i : Nat} (h : i < l) (h2 : ¬ l ≤ i + z i) : pq z l i = pq z l (i + 1) := by
  unfold pq; rw [show l - i = (l - (i + 1)) + 1 from by omega]; show (if l ≤ i + z i then i else pg z l (l - (i + 1)) (i + 1)) = _; rw [if_neg h2]
theorem pq_skip {z : Nat → Nat} {l : Nat} : ∀ (d a : Nat), a + d ≤ l → (∀ j, a ≤ j → j < a + d → j + z j < l) → pq z l a = pq z l (a + d)
  | 0, a, _, _ => rfl
  | d + 1, a, h, q => by
    rw [pq_next (by omega) (by have := q a (by omega) (by omega); omega), pq_skip d (a + 1) (by omega) (fun j h1 h2 => q j (by omega) (by omega)), show a + 1 + d = a + (d + 1) from by omega]
theorem per_self {z : Nat → Nat} {l : Nat} (h : 1 ≤ l) (q : ∀ j, 1 ≤ j → j < l → j + z j < l) : per z l = l := by
  unfold per
  rw [pq_skip (l - 1) 1 (by omega) (fun j h1 h2 => q j h1 (by omega))]
  exact pq_stop (by omega)
theorem per_hit {z : Nat → Nat} {l i : Nat} (h : 1 ≤ i) (h1 : i < l) (h2 : l ≤ i + z i) (q : ∀ j, 1 ≤ j → j < i → j + z j < l) : per z l = i := by
  unfold per
  rw [pq_skip (i - 1) 1 (by omega) (fun j h1 h2 => q j h1 (by omega)), show 1 + (i - 1) = i from by omega]
  exact pq_hit h1 h2
/-- the answer's array when the places under l are written -/
def Rf (z : Nat → Nat) (l : Nat) : Nat → Value := fun j => .int (Int32.ofNat (if j < l then per z j else 0))
theorem own_Rf {z : Nat → Nat} {l v : Nat} (h : per z l = v) : ∀ j, aset (Rf z l) l (.int (Int32.ofNat v)) j = Rf z (l + 1) j := by
  intro j
  unfold aset Rf
  by_cases e : j = l
  · subst e; rw [if_pos rfl, if_pos (by omega), h]
  · rw [if_neg e]
    by_cases e2 : j < l
    · rw [if_pos e2, if_pos (by omega)]
    · rw [if_neg e2, if_neg (by omega)]
theorem own_rem (p c : Int32) (hc : 0 < c.toInt) : 0 ≤ ((p &&& (2147483647 : Int32)) % c).toInt ∧ ((p &&& (2147483647 : Int32)) % c).toInt < c.toInt := by
  have h := c_mask p 2147483647 31 (by decide) (by decide)
  have h2 := (c_iremV (p &&& 2147483647) c).1 (by omega) hc
  omega
theorem own_back {x : Int32} (h : 0 ≤ x.toInt) : Int32.ofNat x.toInt.toNat = x := by
  apply Int32.toInt_inj.mp
  have := rng32 x
  rw [own_ofI (by omega)]; omega
theorem own_mod7 (p : Int32) : (p &&& (2147483647 : Int32)) % (7 : Int32) = 0 ∨ (p &&& (2147483647 : Int32)) % (7 : Int32) = 1 ∨ (p &&& (2147483647 : Int32)) % (7 : Int32) = 2 ∨ (p &&& (2147483647 : Int32)) % (7 : Int32) = 3 ∨ (p &&& (2147483647 : Int32)) % (7 : Int32) = 4 ∨ (p &&& (2147483647 : Int32)) % (7 : Int32) = 5 ∨ (p &&& (2147483647 : Int32)) % (7 : Int32) = 6 := by
  have h := own_rem p 7 (by decide)
  rw [show (7 : Int32).toInt = 7 from by decide] at h
  rcases (by omega : ((p &&& (2147483647 : Int32)) % (7 : Int32)).toInt = 0 ∨ ((p &&& (2147483647 : Int32)) % (7 : Int32)).toInt = 1 ∨ ((p &&& (2147483647 : Int32)) % (7 : Int32)).toInt = 2 ∨ ((p &&& (2147483647 : Int32)) % (7 : Int32)).toInt = 3 ∨ ((p &&& (2147483647 : Int32)) % (7 : Int32)).toInt = 4 ∨ ((p &&& (2147483647 : Int32)) % (7 : Int32)).toInt = 5 ∨ ((p &&& (2147483647 : Int32)) % (7 : Int32)).toInt = 6) with q | q | q | q | q | q | q
  · exact Or.inl (Int32.toInt_inj.mp (by rw [q]; decide))
  · exact Or.inr (Or.inl (Int32.toInt_inj.mp (by rw [q]; decide)))
  · exact Or.inr (Or.inr (Or.inl (Int32.toInt_inj.mp (by rw [q]; decide))))
  · exact Or.inr (Or.inr (Or.inr (Or.inl (Int32.toInt_inj.mp (by rw [q]; decide)))))
  · exact Or.inr (Or.inr (Or.inr (Or.inr (Or.inl (Int32.toInt_inj.mp (by rw [q]; decide))))))
  · exact Or.inr (Or.inr (Or.inr (Or.inr (Or.inr (Or.inl (Int32.toInt_inj.mp (by rw [q]; decide)))))))
  · exact Or.inr (Or.inr (Or.inr (Or.inr (Or.inr (Or.inr ((Int32.toInt_inj.mp (by rw [q]; decide))))))))
def zsel (n : Nat) (x1 x2 x3 x4 x5 : Int32) : Nat → Nat := fun j => if j = 0 then n else if j = 1 then x1.toInt.toNat else if j = 2 then x2.toInt.toNat else if j = 3 then x3.toInt.toNat else if j = 4 then x4.toInt.toNat else x5.toInt.toNat

def Q1 (Z : State) (a1 : Addr) (z : Nat → Nat) (t : Nat) (n : Nat) (h0 : Heap) (v : Option Value) (h : Heap) (L : List Loc) : Prop := v = some (.int (Int32.ofNat (per z t))) ∧ L = [] ∧ h = h0
theorem ef_1 (m : MethodId) (a1 : Addr) (t : Nat) : entryFrame m #[(.ref a1), (.int (Int32.ofNat t))] 2 = mkF m 0 #[.val (.ref a1), .val (.int (Int32.ofNat t))] [] := by first | (simp [entryFrame, mkF, argsToLocals, Value.category]; done) | rfl
set_option maxRecDepth 65536 in
set_option maxHeartbeats 40000000 in
theorem rm1 (l : Launch) (Z : State) (a0 : Array Value) (hw : ∀ d ∈ tables_1, d.before a0 Z = true) (ws : List Jvm.Cond) (a1 : Addr) (z : Nat → Nat) (t : Nat) (n : Nat) (h0 : Heap) (V_a1 : Av Z h0 a1 .int n (fun j => .int (Int32.ofNat (z j)))) (hn : t ≤ n ∧ n ≤ 6) (hz : ∀ j, 1 ≤ j → j < n → j + z j ≤ n) :
    MetFree l (⟨"example/zedbox/PeriodsOfEachPrefixPinLaw", "expect", "([II)I"⟩ : MethodName) (head1 (Jvm.Cond.code (⟨"example/zedbox/PeriodsOfEachPrefixPinLaw", "expect", "([II)I"⟩ : MethodName) method_4_code 2 (some .int) :: ws) ({ frames := 0, cells := 0, slots := 0, locals := 0 } : Room)) (fun a U => a = #[(.ref a1), (.int (Int32.ofNat t))] ∧ Z.Warmed39 U.vm ∧ U.heap = h0) (fun _ _ _ _ _ => True) (fun _ U o U' => ∃ v L, o = .returned v ∧ (Q1 Z a1 z t n h0) v U'.heap L ∧ FrameEnd U o U' L 0 0) := by
  refine MetFree.of_bodySF (plainFor_of_name pn_example_zedbox_PeriodsOfEachPrefixPinLaw) hisR ?_
  intro p e s m args below meth c s₁ Bd hml0 hP hK
  obtain ⟨rfl, hZ, hh⟩ := hP
  have hx := Bd.exec
  have hby := Bd.bytes
  have hml : c.maxLocals = 2 := hml0
  have hown : s.vm.findClass "example/zedbox/PeriodsOfEachPrefixPinLaw" = some m.cls := findClass_of_methodNamed Bd.named
  have hnm := (name_of_methodNamed Bd.named Bd.method).1
  have X0 : Stand p l e ({ frames := 0, cells := 0, slots := 0, locals := 0 } : Room) s m #[(.ref a1), (.int (Int32.ofNat t))] below meth c s₁ [] 0 0 := Stand.of_body Bd
  have e0 : s₁.heap = h0 := by rw [← hh, Bd.state]; rfl
  show Go FrameEnd p e below s 0 0 (Q1 Z a1 z t n h0) _
  refine Go.step (fun _ k => castTop (ef_1 m a1 t) k) ?_
  have hj1 : per z t = pq z t 1 := rfl
  show Go FrameEnd p e below s 0 0 (Q1 Z a1 z t n h0) (s₁.setTop (mkF m 0 #[.val (.ref a1), .val (.int (Int32.ofNat t))] []))
  have J16_1 : (per z t = pq z t 2) → Go FrameEnd p e below s 0 0 (Q1 Z a1 z t n h0) (s₁.setTop (mkF m 16 #[.val (.ref a1), .val (.int (Int32.ofNat t))] [])) := by
    intro hj2
    show Go FrameEnd p e below s 0 0 (Q1 Z a1 z t n h0) (s₁.setTop (mkF m 16 #[.val (.ref a1), .val (.int (Int32.ofNat t))] []))
    have J32_2 : (per z t = pq z t 3) → Go FrameEnd p e below s 0 0 (Q1 Z a1 z t n h0) (s₁.setTop (mkF m 32 #[.val (.ref a1), .val (.int (Int32.ofNat t))] [])) := by
      intro hj3
      show Go FrameEnd p e below s 0 0 (Q1 Z a1 z t n h0) (s₁.setTop (mkF m 32 #[.val (.ref a1), .val (.int (Int32.ofNat t))] []))
      have J48_3 : (per z t = pq z t 4) → Go FrameEnd p e below s 0 0 (Q1 Z a1 z t n h0) (s₁.setTop (mkF m 48 #[.val (.ref a1), .val (.int (Int32.ofNat t))] [])) := by
        intro hj4
        show Go FrameEnd p e below s 0 0 (Q1 Z a1 z t n h0) (s₁.setTop (mkF m 48 #[.val (.ref a1), .val (.int (Int32.ofNat t))] []))
        have J64_4 : (per z t = pq z t 5) → Go FrameEnd p e below s 0 0 (Q1 Z a1 z t n h0) (s₁.setTop (mkF m 64 #[.val (.ref a1), .val (.int (Int32.ofNat t))] [])) := by
          intro hj5
          show Go FrameEnd p e below s 0 0 (Q1 Z a1 z t n h0) (s₁.setTop (mkF m 64 #[.val (.ref a1), .val (.int (Int32.ofNat t))] []))
          have J80_5 : (per z t = pq z t 6) → Go FrameEnd p e below s 0 0 (Q1 Z a1 z t n h0) (s₁.setTop (mkF m 80 #[.val (.ref a1), .val (.int (Int32.ofNat t))] [])) := by
            intro hj6
            show Go FrameEnd p e below s 0 0 (Q1 Z a1 z t n h0) (s₁.setTop (mkF m 80 #[.val (.ref a1), .val (.int (Int32.ofNat t))] []))
            refine Go.step (fun _ k => XS.iloadN X0.here hx rfl (hb hby d_method_4_code_80) rfl k) ?_
            show Go FrameEnd p e below s 0 0 (Q1 Z a1 z t n h0) (s₁.setTop (mkF m 81 #[.val (.ref a1), .val (.int (Int32.ofNat t))] [(.int (Int32.ofNat t))]))
            refine Go.retI X0 hx Bd.returns (hb hby d_method_4_code_81) (BodyLoose.notSynchronized Bd) e0 (by decide) (by decide) ?_
            exact ⟨by rw [hj6, pq_stop (by omega)], rfl, rfl⟩
          refine Go.step (fun _ k => XS.iconst X0.here hx rfl (hb hby d_method_4_code_64) k) ?_
          show Go FrameEnd p e below s 0 0 (Q1 Z a1 z t n h0) (s₁.setTop (mkF m 65 #[.val (.ref a1), .val (.int (Int32.ofNat t))] [(.int (5 : Int32))]))
          refine Go.step (fun _ k => XS.iloadN X0.here hx rfl (hb hby d_method_4_code_65) rfl k) ?_
          show Go FrameEnd p e below s 0 0 (Q1 Z a1 z t n h0) (s₁.setTop (mkF m 66 #[.val (.ref a1), .val (.int (Int32.ofNat t))] [(.int (Int32.ofNat t)), (.int (5 : Int32))]))
          by_cases h5a : 5 < t
          · skip
            refine Go.step (fun _ k => XS.icmpNo X0.here hx rfl (hb hby d_method_4_code_66) rfl (tlt ((own_lt (i := 5) (by omega) (by omega)).mpr h5a)).2.1 k) ?_
            show Go FrameEnd p e below s 0 0 (Q1 Z a1 z t n h0) (s₁.setTop (mkF m 69 #[.val (.ref a1), .val (.int (Int32.ofNat t))] []))
            refine Go.step (fun _ k => XS.iconst X0.here hx rfl (hb hby d_method_4_code_69) k) ?_
            show Go FrameEnd p e below s 0 0 (Q1 Z a1 z t n h0) (s₁.setTop (mkF m 70 #[.val (.ref a1), .val (.int (Int32.ofNat t))] [(.int (5 : Int32))]))
            refine Go.step (fun _ k => XS.aloadN X0.here hx rfl (hb hby d_method_4_code_70) rfl rfl k) ?_
            show Go FrameEnd p e below s 0 0 (Q1 Z a1 z t n h0) (s₁.setTop (mkF m 71 #[.val (.ref a1), .val (.int (Int32.ofNat t))] [(.ref a1), (.int (5 : Int32))]))
            refine Go.step (fun _ k => XS.iconst X0.here hx rfl (hb hby d_method_4_code_71) k) ?_
            show Go FrameEnd p e below s 0 0 (Q1 Z a1 z t n h0) (s₁.setTop (mkF m 72 #[.val (.ref a1), .val (.int (Int32.ofNat t))] [(.int (5 : Int32)), (.ref a1), (.int (5 : Int32))]))
            obtain ⟨c6, Ac6, Sc6, Mc6, Gc6⟩ := id V_a1
            refine Go.step (X0.iaload hx (j := (5 : Int32)) (v := (.int (Int32.ofNat (z 5)))) (by rw [e0]; exact Ac6.1) (State.isArrayOf_alike hZ.alike Ac6.2.1) Ac6.2.2 (own_in Sc6 (by decide) (by show 5 < n; omega)) (Av.at (i := 5) Gc6 rfl (by omega) rfl) (g := (mkF m 72 #[.val (.ref a1), .val (.int (Int32.ofNat t))] [(.int (5 : Int32)), (.ref a1), (.int (5 : Int32))])) rfl rfl (hb hby d_method_4_code_72)) ?_
            show Go FrameEnd p e below s 0 0 (Q1 Z a1 z t n h0) (s₁.setTop (mkF m 73 #[.val (.ref a1), .val (.int (Int32.ofNat t))] [(.int (Int32.ofNat (z 5))), (.int (5 : Int32))]))
            refine Go.step (fun _ k => XS.iadd X0.here hx rfl (hb hby d_method_4_code_73) rfl k) ?_
            show Go FrameEnd p e below s 0 0 (Q1 Z a1 z t n h0) (s₁.setTop (mkF m 74 #[.val (.ref a1), .val (.int (Int32.ofNat t))] [(.int ((5 : Int32) + (Int32.ofNat (z 5))))]))
            refine Go.step (fun _ k => XS.iloadN X0.here hx rfl (hb hby d_method_4_code_74) rfl k) ?_
            show Go FrameEnd p e below s 0 0 (Q1 Z a1 z t n h0) (s₁.setTop (mkF m 75 #[.val (.ref a1), .val (.int (Int32.ofNat t))] [(.int (Int32.ofNat t)), (.int ((5 : Int32) + (Int32.ofNat (z 5))))]))
            rw [show (5 : Int32) + Int32.ofNat (z 5) = Int32.ofNat (5 + z 5) from own_ofa _ _]
            have hzi5 := hz 5 (by omega) (by omega)
            by_cases h5b : t ≤ 5 + z 5
            · skip
              refine Go.step (fun _ k => XS.icmpNo X0.here hx rfl (hb hby d_method_4_code_75) rfl (flt (mt (own_lt (by omega) (by omega)).mp (by omega))).1 k) ?_
              show Go FrameEnd p e below s 0 0 (Q1 Z a1 z t n h0) (s₁.setTop (mkF m 78 #[.val (.ref a1), .val (.int (Int32.ofNat t))] []))
              refine Go.step (fun _ k => XS.iconst X0.here hx rfl (hb hby d_method_4_code_78) k) ?_
              show Go FrameEnd p e below s 0 0 (Q1 Z a1 z t n h0) (s₁.setTop (mkF m 79 #[.val (.ref a1), .val (.int (Int32.ofNat t))] [(.int (5 : Int32))]))
              refine Go.retI X0 hx Bd.returns (hb hby d_method_4_code_79) (BodyLoose.notSynchronized Bd) e0 (by decide) (by decide) ?_
              exact ⟨by rw [hj5, pq_hit h5a h5b]; rfl, rfl, rfl⟩
            · skip
              refine Go.step (fun _ k => XS.icmpYes X0.here hx rfl (pc0 := 75) (pc' := 80) rfl (hb hby d_method_4_code_75) rfl (tlt ((own_lt (by omega) (by omega)).mpr (by omega))).1 (by decide) (by decide) k) ?_
              show Go FrameEnd p e below s 0 0 (Q1 Z a1 z t n h0) (s₁.setTop (mkF m 80 #[.val (.ref a1), .val (.int (Int32.ofNat t))] []))
              exact J80_5  (by rw [hj5]; exact (pq_next h5a h5b))
          · skip
            refine Go.step (fun _ k => XS.icmpYes X0.here hx rfl (pc0 := 66) (pc' := 80) rfl (hb hby d_method_4_code_66) rfl (flt (mt (own_lt (i := 5) (by omega) (by omega)).mp h5a)).2.1 (by decide) (by decide) k) ?_
            show Go FrameEnd p e below s 0 0 (Q1 Z a1 z t n h0) (s₁.setTop (mkF m 80 #[.val (.ref a1), .val (.int (Int32.ofNat t))] []))
            exact J80_5  (by rw [hj5]; exact ((pq_stop h5a).trans (pq_stop (by omega)).symm))
        refine Go.step (fun _ k => XS.iconst X0.here hx rfl (hb hby d_method_4_code_48) k) ?_
        show Go FrameEnd p e below s 0 0 (Q1 Z a1 z t n h0) (s₁.setTop (mkF m 49 #[.val (.ref a1), .val (.int (Int32.ofNat t))] [(.int (4 : Int32))]))
        refine Go.step (fun _ k => XS.iloadN X0.here hx rfl (hb hby d_method_4_code_49) rfl k) ?_
        show Go FrameEnd p e below s 0 0 (Q1 Z a1 z t n h0) (s₁.setTop (mkF m 50 #[.val (.ref a1), .val (.int (Int32.ofNat t))] [(.int (Int32.ofNat t)), (.int (4 : Int32))]))
        by_cases h4a : 4 < t
        · skip
          refine Go.step (fun _ k => XS.icmpNo X0.here hx rfl (hb hby d_method_4_code_50) rfl (tlt ((own_lt (i := 4) (by omega) (by omega)).mpr h4a)).2.1 k) ?_
          show Go FrameEnd p e below s 0 0 (Q1 Z a1 z t n h0) (s₁.setTop (mkF m 53 #[.val (.ref a1), .val (.int (Int32.ofNat t))] []))
          refine Go.step (fun _ k => XS.iconst X0.here hx rfl (hb hby d_method_4_code_53) k) ?_
          show Go FrameEnd p e below s 0 0 (Q1 Z a1 z t n h0) (s₁.setTop (mkF m 54 #[.val (.ref a1), .val (.int (Int32.ofNat t))] [(.int (4 : Int32))]))
          refine Go.step (fun _ k => XS.aloadN X0.here hx rfl (hb hby d_method_4_code_54) rfl rfl k) ?_
          show Go FrameEnd p e below s 0 0 (Q1 Z a1 z t n h0) (s₁.setTop (mkF m 55 #[.val (.ref a1), .val (.int (Int32.ofNat t))] [(.ref a1), (.int (4 : Int32))]))
          refine Go.step (fun _ k => XS.iconst X0.here hx rfl (hb hby d_method_4_code_55) k) ?_
          show Go FrameEnd p e below s 0 0 (Q1 Z a1 z t n h0) (s₁.setTop (mkF m 56 #[.val (.ref a1), .val (.int (Int32.ofNat t))] [(.int (4 : Int32)), (.ref a1), (.int (4 : Int32))]))
          obtain ⟨c7, Ac7, Sc7, Mc7, Gc7⟩ := id V_a1
          refine Go.step (X0.iaload hx (j := (4 : Int32)) (v := (.int (Int32.ofNat (z 4)))) (by rw [e0]; exact Ac7.1) (State.isArrayOf_alike hZ.alike Ac7.2.1) Ac7.2.2 (own_in Sc7 (by decide) (by show 4 < n; omega)) (Av.at (i := 4) Gc7 rfl (by omega) rfl) (g := (mkF m 56 #[.val (.ref a1), .val (.int (Int32.ofNat t))] [(.int (4 : Int32)), (.ref a1), (.int (4 : Int32))])) rfl rfl (hb hby d_method_4_code_56)) ?_
          show Go FrameEnd p e below s 0 0 (Q1 Z a1 z t n h0) (s₁.setTop (mkF m 57 #[.val (.ref a1), .val (.int (Int32.ofNat t))] [(.int (Int32.ofNat (z 4))), (.int (4 : Int32))]))
          refine Go.step (fun _ k => XS.iadd X0.here hx rfl (hb hby d_method_4_code_57) rfl k) ?_
          show Go FrameEnd p e below s 0 0 (Q1 Z a1 z t n h0) (s₁.setTop (mkF m 58 #[.val (.ref a1), .val (.int (Int32.ofNat t))] [(.int ((4 : Int32) + (Int32.ofNat (z 4))))]))
          refine Go.step (fun _ k => XS.iloadN X0.here hx rfl (hb hby d_method_4_code_58) rfl k) ?_
          show Go FrameEnd p e below s 0 0 (Q1 Z a1 z t n h0) (s₁.setTop (mkF m 59 #[.val (.ref a1), .val (.int (Int32.ofNat t))] [(.int (Int32.ofNat t)), (.int ((4 : Int32) + (Int32.ofNat (z 4))))]))
          rw [show (4 : Int32) + Int32.ofNat (z 4) = Int32.ofNat (4 + z 4) from own_ofa _ _]
          have hzi4 := hz 4 (by omega) (by omega)
          by_cases h4b : t ≤ 4 + z 4
          · skip
            refine Go.step (fun _ k => XS.icmpNo X0.here hx rfl (hb hby d_method_4_code_59) rfl (flt (mt (own_lt (by omega) (by omega)).mp (by omega))).1 k) ?_
            show Go FrameEnd p e below s 0 0 (Q1 Z a1 z t n h0) (s₁.setTop (mkF m 62 #[.val (.ref a1), .val (.int (Int32.ofNat t))] []))
            refine Go.step (fun _ k => XS.iconst X0.here hx rfl (hb hby d_method_4_code_62) k) ?_
            show Go FrameEnd p e below s 0 0 (Q1 Z a1 z t n h0) (s₁.setTop (mkF m 63 #[.val (.ref a1), .val (.int (Int32.ofNat t))] [(.int (4 : Int32))]))
            refine Go.retI X0 hx Bd.returns (hb hby d_method_4_code_63) (BodyLoose.notSynchronized Bd) e0 (by decide) (by decide) ?_
            exact ⟨by rw [hj4, pq_hit h4a h4b]; rfl, rfl, rfl⟩
          · skip
            refine Go.step (fun _ k => XS.icmpYes X0.here hx rfl (pc0 := 59) (pc' := 64) rfl (hb hby d_method_4_code_59) rfl (tlt ((own_lt (by omega) (by omega)).mpr (by omega))).1 (by decide) (by decide) k) ?_
            show Go FrameEnd p e below s 0 0 (Q1 Z a1 z t n h0) (s₁.setTop (mkF m 64 #[.val (.ref a1), .val (.int (Int32.ofNat t))] []))
            exact J64_4  (by rw [hj4]; exact (pq_next h4a h4b))
        · skip
          refine Go.step (fun _ k => XS.icmpYes X0.here hx rfl (pc0 := 50) (pc' := 64) rfl (hb hby d_method_4_code_50) rfl (flt (mt (own_lt (i := 4) (by omega) (by omega)).mp h4a)).2.1 (by decide) (by decide) k) ?_
          show Go FrameEnd p e below s 0 0 (Q1 Z a1 z t n h0) (s₁.setTop (mkF m 64 #[.val (.ref a1), .val (.int (Int32.ofNat t))] []))
          exact J64_4  (by rw [hj4]; exact ((pq_stop h4a).trans (pq_stop (by omega)).symm))
      refine Go.step (fun _ k => XS.iconst X0.here hx rfl (hb hby d_method_4_code_32) k) ?_
      show Go FrameEnd p e below s 0 0 (Q1 Z a1 z t n h0) (s₁.setTop (mkF m 33 #[.val (.ref a1), .val (.int (Int32.ofNat t))] [(.int (3 : Int32))]))
      refine Go.step (fun _ k => XS.iloadN X0.here hx rfl (hb hby d_method_4_code_33) rfl k) ?_
      show Go FrameEnd p e below s 0 0 (Q1 Z a1 z t n h0) (s₁.setTop (mkF m 34 #[.val (.ref a1), .val (.int (Int32.ofNat t))] [(.int (Int32.ofNat t)), (.int (3 : Int32))]))
      by_cases h3a : 3 < t
      · skip
        refine Go.step (fun _ k => XS.icmpNo X0.here hx rfl (hb hby d_method_4_code_34) rfl (tlt ((own_lt (i := 3) (by omega) (by omega)).mpr h3a)).2.1 k) ?_
        show Go FrameEnd p e below s 0 0 (Q1 Z a1 z t n h0) (s₁.setTop (mkF m 37 #[.val (.ref a1), .val (.int (Int32.ofNat t))] []))
        refine Go.step (fun _ k => XS.iconst X0.here hx rfl (hb hby d_method_4_code_37) k) ?_
        show Go FrameEnd p e below s 0 0 (Q1 Z a1 z t n h0) (s₁.setTop (mkF m 38 #[.val (.ref a1), .val (.int (Int32.ofNat t))] [(.int (3 : Int32))]))
        refine Go.step (fun _ k => XS.aloadN X0.here hx rfl (hb hby d_method_4_code_38) rfl rfl k) ?_
        show Go FrameEnd p e below s 0 0 (Q1 Z a1 z t n h0) (s₁.setTop (mkF m 39 #[.val (.ref a1), .val (.int (Int32.ofNat t))] [(.ref a1), (.int (3 : Int32))]))
        refine Go.step (fun _ k => XS.iconst X0.here hx rfl (hb hby d_method_4_code_39) k) ?_
        show Go FrameEnd p e below s 0 0 (Q1 Z a1 z t n h0) (s₁.setTop (mkF m 40 #[.val (.ref a1), .val (.int (Int32.ofNat t))] [(.int (3 : Int32)), (.ref a1), (.int (3 : Int32))]))
        obtain ⟨c8, Ac8, Sc8, Mc8, Gc8⟩ := id V_a1
        refine Go.step (X0.iaload hx (j := (3 : Int32)) (v := (.int (Int32.ofNat (z 3)))) (by rw [e0]; exact Ac8.1) (State.isArrayOf_alike hZ.alike Ac8.2.1) Ac8.2.2 (own_in Sc8 (by decide) (by show 3 < n; omega)) (Av.at (i := 3) Gc8 rfl (by omega) rfl) (g := (mkF m 40 #[.val (.ref a1), .val (.int (Int32.ofNat t))] [(.int (3 : Int32)), (.ref a1), (.int (3 : Int32))])) rfl rfl (hb hby d_method_4_code_40)) ?_
        show Go FrameEnd p e below s 0 0 (Q1 Z a1 z t n h0) (s₁.setTop (mkF m 41 #[.val (.ref a1), .val (.int (Int32.ofNat t))] [(.int (Int32.ofNat (z 3))), (.int (3 : Int32))]))
        refine Go.step (fun _ k => XS.iadd X0.here hx rfl (hb hby d_method_4_code_41) rfl k) ?_
        show Go FrameEnd p e below s 0 0 (Q1 Z a1 z t n h0) (s₁.setTop (mkF m 42 #[.val (.ref a1), .val (.int (Int32.ofNat t))] [(.int ((3 : Int32) + (Int32.ofNat (z 3))))]))
        refine Go.step (fun _ k => XS.iloadN X0.here hx rfl (hb hby d_method_4_code_42) rfl k) ?_
        show Go FrameEnd p e below s 0 0 (Q1 Z a1 z t n h0) (s₁.setTop (mkF m 43 #[.val (.ref a1), .val (.int (Int32.ofNat t))] [(.int (Int32.ofNat t)), (.int ((3 : Int32) + (Int32.ofNat (z 3))))]))
        rw [show (3 : Int32) + Int32.ofNat (z 3) = Int32.ofNat (3 + z 3) from own_ofa _ _]
        have hzi3 := hz 3 (by omega) (by omega)
        by_cases h3b : t ≤ 3 + z 3
        · skip
          refine Go.step (fun _ k => XS.icmpNo X0.here hx rfl (hb hby d_method_4_code_43) rfl (flt (mt (own_lt (by omega) (by omega)).mp (by omega))).1 k) ?_
          show Go FrameEnd p e below s 0 0 (Q1 Z a1 z t n h0) (s₁.setTop (mkF m 46 #[.val (.ref a1), .val (.int (Int32.ofNat t))] []))
          refine Go.step (fun _ k => XS.iconst X0.here hx rfl (hb hby d_method_4_code_46) k) ?_
          show Go FrameEnd p e below s 0 0 (Q1 Z a1 z t n h0) (s₁.setTop (mkF m 47 #[.val (.ref a1), .val (.int (Int32.ofNat t))] [(.int (3 : Int32))]))
          refine Go.retI X0 hx Bd.returns (hb hby d_method_4_code_47) (BodyLoose.notSynchronized Bd) e0 (by decide) (by decide) ?_
          exact ⟨by rw [hj3, pq_hit h3a h3b]; rfl, rfl, rfl⟩
        · skip
          refine Go.step (fun _ k => XS.icmpYes X0.here hx rfl (pc0 := 43) (pc' := 48) rfl (hb hby d_method_4_code_43) rfl (tlt ((own_lt (by omega) (by omega)).mpr (by omega))).1 (by decide) (by decide) k) ?_
          show Go FrameEnd p e below s 0 0 (Q1 Z a1 z t n h0) (s₁.setTop (mkF m 48 #[.val (.ref a1), .val (.int (Int32.ofNat t))] []))
          exact J48_3  (by rw [hj3]; exact (pq_next h3a h3b))
      · skip
        refine Go.step (fun _ k => XS.icmpYes X0.here hx rfl (pc0 := 34) (pc' := 48) rfl (hb hby d_method_4_code_34) rfl (flt (mt (own_lt (i := 3) (by omega) (by omega)).mp h3a)).2.1 (by decide) (by decide) k) ?_
        show Go FrameEnd p e below s 0 0 (Q1 Z a1 z t n h0) (s₁.setTop (mkF m 48 #[.val (.ref a1), .val (.int (Int32.ofNat t))] []))
        exact J48_3  (by rw [hj3]; exact ((pq_stop h3a).trans (pq_stop (by omega)).symm))
    refine Go.step (fun _ k => XS.iconst X0.here hx rfl (hb hby d_method_4_code_16) k) ?_
    show Go FrameEnd p e below s 0 0 (Q1 Z a1 z t n h0) (s₁.setTop (mkF m 17 #[.val (.ref a1), .val (.int (Int32.ofNat t))] [(.int (2 : Int32))]))
    refine Go.step (fun _ k => XS.iloadN X0.here hx rfl (hb hby d_method_4_code_17) rfl k) ?_
    show Go FrameEnd p e below s 0 0 (Q1 Z a1 z t n h0) (s₁.setTop (mkF m 18 #[.val (.ref a1), .val (.int (Int32.ofNat t))] [(.int (Int32.ofNat t)), (.int (2 : Int32))]))
    by_cases h2a : 2 < t
    · skip
      refine Go.step (fun _ k => XS.icmpNo X0.here hx rfl (hb hby d_method_4_code_18) rfl (tlt ((own_lt (i := 2) (by omega) (by omega)).mpr h2a)).2.1 k) ?_
      show Go FrameEnd p e below s 0 0 (Q1 Z a1 z t n h0) (s₁.setTop (mkF m 21 #[.val (.ref a1), .val (.int (Int32.ofNat t))] []))
      refine Go.step (fun _ k => XS.iconst X0.here hx rfl (hb hby d_method_4_code_21) k) ?_
      show Go FrameEnd p e below s 0 0 (Q1 Z a1 z t n h0) (s₁.setTop (mkF m 22 #[.val (.ref a1), .val (.int (Int32.ofNat t))] [(.int (2 : Int32))]))
      refine Go.step (fun _ k => XS.aloadN X0.here hx rfl (hb hby d_method_4_code_22) rfl rfl k) ?_
      show Go FrameEnd p e below s 0 0 (Q1 Z a1 z t n h0) (s₁.setTop (mkF m 23 #[.val (.ref a1), .val (.int (Int32.ofNat t))] [(.ref a1), (.int (2 : Int32))]))
      refine Go.step (fun _ k => XS.iconst X0.here hx rfl (hb hby d_method_4_code_23) k) ?_
      show Go FrameEnd p e below s 0 0 (Q1 Z a1 z t n h0) (s₁.setTop (mkF m 24 #[.val (.ref a1), .val (.int (Int32.ofNat t))] [(.int (2 : Int32)), (.ref a1), (.int (2 : Int32))]))
      obtain ⟨c9, Ac9, Sc9, Mc9, Gc9⟩ := id V_a1
      refine Go.step (X0.iaload hx (j := (2 : Int32)) (v := (.int (Int32.ofNat (z 2)))) (by rw [e0]; exact Ac9.1) (State.isArrayOf_alike hZ.alike Ac9.2.1) Ac9.2.2 (own_in Sc9 (by decide) (by show 2 < n; omega)) (Av.at (i := 2) Gc9 rfl (by omega) rfl) (g := (mkF m 24 #[.val (.ref a1), .val (.int (Int32.ofNat t))] [(.int (2 : Int32)), (.ref a1), (.int (2 : Int32))])) rfl rfl (hb hby d_method_4_code_24)) ?_
      show Go FrameEnd p e below s 0 0 (Q1 Z a1 z t n h0) (s₁.setTop (mkF m 25 #[.val (.ref a1), .val (.int (Int32.ofNat t))] [(.int (Int32.ofNat (z 2))), (.int (2 : Int32))]))
      refine Go.step (fun _ k => XS.iadd X0.here hx rfl (hb hby d_method_4_code_25) rfl k) ?_
      show Go FrameEnd p e below s 0 0 (Q1 Z a1 z t n h0) (s₁.setTop (mkF m 26 #[.val (.ref a1), .val (.int (Int32.ofNat t))] [(.int ((2 : Int32) + (Int32.ofNat (z 2))))]))
      refine Go.step (fun _ k => XS.iloadN X0.here hx rfl (hb hby d_method_4_code_26) rfl k) ?_
      show Go FrameEnd p e below s 0 0 (Q1 Z a1 z t n h0) (s₁.setTop (mkF m 27 #[.val (.ref a1), .val (.int (Int32.ofNat t))] [(.int (Int32.ofNat t)), (.int ((2 : Int32) + (Int32.ofNat (z 2))))]))
      rw [show (2 : Int32) + Int32.ofNat (z 2) = Int32.ofNat (2 + z 2) from own_ofa _ _]
      have hzi2 := hz 2 (by omega) (by omega)
      by_cases h2b : t ≤ 2 + z 2
      · skip
        refine Go.step (fun _ k => XS.icmpNo X0.here hx rfl (hb hby d_method_4_code_27) rfl (flt (mt (own_lt (by omega) (by omega)).mp (by omega))).1 k) ?_
        show Go FrameEnd p e below s 0 0 (Q1 Z a1 z t n h0) (s₁.setTop (mkF m 30 #[.val (.ref a1), .val (.int (Int32.ofNat t))] []))
        refine Go.step (fun _ k => XS.iconst X0.here hx rfl (hb hby d_method_4_code_30) k) ?_
        show Go FrameEnd p e below s 0 0 (Q1 Z a1 z t n h0) (s₁.setTop (mkF m 31 #[.val (.ref a1), .val (.int (Int32.ofNat t))] [(.int (2 : Int32))]))
        refine Go.retI X0 hx Bd.returns (hb hby d_method_4_code_31) (BodyLoose.notSynchronized Bd) e0 (by decide) (by decide) ?_
        exact ⟨by rw [hj2, pq_hit h2a h2b]; rfl, rfl, rfl⟩
      · skip
        refine Go.step (fun _ k => XS.icmpYes X0.here hx rfl (pc0 := 27) (pc' := 32) rfl (hb hby d_method_4_code_27) rfl (tlt ((own_lt (by omega) (by omega)).mpr (by omega))).1 (by decide) (by decide) k) ?_
        show Go FrameEnd p e below s 0 0 (Q1 Z a1 z t n h0) (s₁.setTop (mkF m 32 #[.val (.ref a1), .val (.int (Int32.ofNat t))] []))
        exact J32_2  (by rw [hj2]; exact (pq_next h2a h2b))
    · skip
      refine Go.step (fun _ k => XS.icmpYes X0.here hx rfl (pc0 := 18) (pc' := 32) rfl (hb hby d_method_4_code_18) rfl (flt (mt (own_lt (i := 2) (by omega) (by omega)).mp h2a)).2.1 (by decide) (by decide) k) ?_
      show Go FrameEnd p e below s 0 0 (Q1 Z a1 z t n h0) (s₁.setTop (mkF m 32 #[.val (.ref a1), .val (.int (Int32.ofNat t))] []))
      exact J32_2  (by rw [hj2]; exact ((pq_stop h2a).trans (pq_stop (by omega)).symm))
  refine Go.step (fun _ k => XS.iconst X0.here hx rfl (hb hby d_method_4_code_0) k) ?_
  show Go FrameEnd p e below s 0 0 (Q1 Z a1 z t n h0) (s₁.setTop (mkF m 1 #[.val (.ref a1), .val (.int (Int32.ofNat t))] [(.int (1 : Int32))]))
  refine Go.step (fun _ k => XS.iloadN X0.here hx rfl (hb hby d_method_4_code_1) rfl k) ?_
  show Go FrameEnd p e below s 0 0 (Q1 Z a1 z t n h0) (s₁.setTop (mkF m 2 #[.val (.ref a1), .val (.int (Int32.ofNat t))] [(.int (Int32.ofNat t)), (.int (1 : Int32))]))
  by_cases h1a : 1 < t
  · skip
    refine Go.step (fun _ k => XS.icmpNo X0.here hx rfl (hb hby d_method_4_code_2) rfl (tlt ((own_lt (i := 1) (by omega) (by omega)).mpr h1a)).2.1 k) ?_
    show Go FrameEnd p e below s 0 0 (Q1 Z a1 z t n h0) (s₁.setTop (mkF m 5 #[.val (.ref a1), .val (.int (Int32.ofNat t))] []))
    refine Go.step (fun _ k => XS.iconst X0.here hx rfl (hb hby d_method_4_code_5) k) ?_
    show Go FrameEnd p e below s 0 0 (Q1 Z a1 z t n h0) (s₁.setTop (mkF m 6 #[.val (.ref a1), .val (.int (Int32.ofNat t))] [(.int (1 : Int32))]))
    refine Go.step (fun _ k => XS.aloadN X0.here hx rfl (hb hby d_method_4_code_6) rfl rfl k) ?_
    show Go FrameEnd p e below s 0 0 (Q1 Z a1 z t n h0) (s₁.setTop (mkF m 7 #[.val (.ref a1), .val (.int (Int32.ofNat t))] [(.ref a1), (.int (1 : Int32))]))
    refine Go.step (fun _ k => XS.iconst X0.here hx rfl (hb hby d_method_4_code_7) k) ?_
    show Go FrameEnd p e below s 0 0 (Q1 Z a1 z t n h0) (s₁.setTop (mkF m 8 #[.val (.ref a1), .val (.int (Int32.ofNat t))] [(.int (1 : Int32)), (.ref a1), (.int (1 : Int32))]))
    obtain ⟨c10, Ac10, Sc10, Mc10, Gc10⟩ := id V_a1
    refine Go.step (X0.iaload hx (j := (1 : Int32)) (v := (.int (Int32.ofNat (z 1)))) (by rw [e0]; exact Ac10.1) (State.isArrayOf_alike hZ.alike Ac10.2.1) Ac10.2.2 (own_in Sc10 (by decide) (by show 1 < n; omega)) (Av.at (i := 1) Gc10 rfl (by omega) rfl) (g := (mkF m 8 #[.val (.ref a1), .val (.int (Int32.ofNat t))] [(.int (1 : Int32)), (.ref a1), (.int (1 : Int32))])) rfl rfl (hb hby d_method_4_code_8)) ?_
    show Go FrameEnd p e below s 0 0 (Q1 Z a1 z t n h0) (s₁.setTop (mkF m 9 #[.val (.ref a1), .val (.int (Int32.ofNat t))] [(.int (Int32.ofNat (z 1))), (.int (1 : Int32))]))
    refine Go.step (fun _ k => XS.iadd X0.here hx rfl (hb hby d_method_4_code_9) rfl k) ?_
    show Go FrameEnd p e below s 0 0 (Q1 Z a1 z t n h0) (s₁.setTop (mkF m 10 #[.val (.ref a1), .val (.int (Int32.ofNat t))] [(.int ((1 : Int32) + (Int32.ofNat (z 1))))]))
    refine Go.step (fun _ k => XS.iloadN X0.here hx rfl (hb hby d_method_4_code_10) rfl k) ?_
    show Go FrameEnd p e below s 0 0 (Q1 Z a1 z t n h0) (s₁.setTop (mkF m 11 #[.val (.ref a1), .val (.int (Int32.ofNat t))] [(.int (Int32.ofNat t)), (.int ((1 : Int32) + (Int32.ofNat (z 1))))]))
    rw [show (1 : Int32) + Int32.ofNat (z 1) = Int32.ofNat (1 + z 1) from own_ofa _ _]
    have hzi1 := hz 1 (by omega) (by omega)
    by_cases h1b : t ≤ 1 + z 1
    · skip
      refine Go.step (fun _ k => XS.icmpNo X0.here hx rfl (hb hby d_method_4_code_11) rfl (flt (mt (own_lt (by omega) (by omega)).mp (by omega))).1 k) ?_
      show Go FrameEnd p e below s 0 0 (Q1 Z a1 z t n h0) (s₁.setTop (mkF m 14 #[.val (.ref a1), .val (.int (Int32.ofNat t))] []))
      refine Go.step (fun _ k => XS.iconst X0.here hx rfl (hb hby d_method_4_code_14) k) ?_
      show Go FrameEnd p e below s 0 0 (Q1 Z a1 z t n h0) (s₁.setTop (mkF m 15 #[.val (.ref a1), .val (.int (Int32.ofNat t))] [(.int (1 : Int32))]))
      refine Go.retI X0 hx Bd.returns (hb hby d_method_4_code_15) (BodyLoose.notSynchronized Bd) e0 (by decide) (by decide) ?_
      exact ⟨by rw [hj1, pq_hit h1a h1b]; rfl, rfl, rfl⟩
    · skip
      refine Go.step (fun _ k => XS.icmpYes X0.here hx rfl (pc0 := 11) (pc' := 16) rfl (hb hby d_method_4_code_11) rfl (tlt ((own_lt (by omega) (by omega)).mpr (by omega))).1 (by decide) (by decide) k) ?_
      show Go FrameEnd p e below s 0 0 (Q1 Z a1 z t n h0) (s₁.setTop (mkF m 16 #[.val (.ref a1), .val (.int (Int32.ofNat t))] []))
      exact J16_1  (by rw [hj1]; exact (pq_next h1a h1b))
  · skip
    refine Go.step (fun _ k => XS.icmpYes X0.here hx rfl (pc0 := 2) (pc' := 16) rfl (hb hby d_method_4_code_2) rfl (flt (mt (own_lt (i := 1) (by omega) (by omega)).mp h1a)).2.1 (by decide) (by decide) k) ?_
    show Go FrameEnd p e below s 0 0 (Q1 Z a1 z t n h0) (s₁.setTop (mkF m 16 #[.val (.ref a1), .val (.int (Int32.ofNat t))] []))
    exact J16_1  (by rw [hj1]; exact ((pq_stop h1a).trans (pq_stop (by omega)).symm))
def Q2 (Z : State) (a1 : Addr) (a2 : Addr) (z : Nat → Nat) (t : Nat) (n : Nat) (h0 : Heap) (v : Option Value) (h : Heap) (L : List Loc) : Prop := v = some (.int (1 : Int32)) ∧ L = [] ∧ h = h0
theorem ef_2 (m : MethodId) (a1 : Addr) (a2 : Addr) (t : Nat) : entryFrame m #[(.ref a1), (.ref a2), (.int (Int32.ofNat t))] 3 = mkF m 0 #[.val (.ref a1), .val (.ref a2), .val (.int (Int32.ofNat t))] [] := by first | (simp [entryFrame, mkF, argsToLocals, Value.category]; done) | rfl
set_option maxRecDepth 65536 in
set_option maxHeartbeats 40000000 in
theorem rm2 (l : Launch) (Z : State) (a0 : Array Value) (hw : ∀ d ∈ tables_1, d.before a0 Z = true) (ws : List Jvm.Cond) (a1 : Addr) (a2 : Addr) (z : Nat → Nat) (t : Nat) (n : Nat) (h0 : Heap) (V_a2 : Av Z h0 a2 .int n (fun j => .int (Int32.ofNat (z j)))) (V_a1 : Av Z h0 a1 .int (n + 1) (Rf z (n + 1))) (hn : t ≤ 6 ∧ n ≤ 6) (hz : ∀ j, 1 ≤ j → j < n → j + z j ≤ n) :
    MetFree l (⟨"example/zedbox/PeriodsOfEachPrefixPinLaw", "ok", "([I[II)Z"⟩ : MethodName) (head1 (Jvm.Cond.code (⟨"example/zedbox/PeriodsOfEachPrefixPinLaw", "ok", "([I[II)Z"⟩ : MethodName) method_3_code 3 (some .boolean) :: ws) ({ frames := 1, cells := 0, slots := 0, locals := 14 } : Room)) (fun a U => a = #[(.ref a1), (.ref a2), (.int (Int32.ofNat t))] ∧ Z.Warmed39 U.vm ∧ U.heap = h0) (fun _ _ _ _ _ => True) (fun _ U o U' => ∃ v L, o = .returned v ∧ (Q2 Z a1 a2 z t n h0) v U'.heap L ∧ FrameEnd U o U' L 0 0) := by
  refine MetFree.of_bodySF (plainFor_of_name pn_example_zedbox_PeriodsOfEachPrefixPinLaw) hisR ?_
  intro p e s m args below meth c s₁ Bd hml0 hP hK
  obtain ⟨rfl, hZ, hh⟩ := hP
  have hx := Bd.exec
  have hby := Bd.bytes
  have hml : c.maxLocals = 3 := hml0
  have hown : s.vm.findClass "example/zedbox/PeriodsOfEachPrefixPinLaw" = some m.cls := findClass_of_methodNamed Bd.named
  have hnm := (name_of_methodNamed Bd.named Bd.method).1
  have X0 : Stand p l e ({ frames := 1, cells := 0, slots := 0, locals := 14 } : Room) s m #[(.ref a1), (.ref a2), (.int (Int32.ofNat t))] below meth c s₁ [] 0 0 := Stand.of_body Bd
  have e0 : s₁.heap = h0 := by rw [← hh, Bd.state]; rfl
  show Go FrameEnd p e below s 0 0 (Q2 Z a1 a2 z t n h0) _
  refine Go.step (fun _ k => castTop (ef_2 m a1 a2 t) k) ?_
  show Go FrameEnd p e below s 0 0 (Q2 Z a1 a2 z t n h0) (s₁.setTop (mkF m 0 #[.val (.ref a1), .val (.ref a2), .val (.int (Int32.ofNat t))] []))
  refine Go.step (fun _ k => XS.iloadN X0.here hx rfl (hb hby d_method_3_code_0) rfl k) ?_
  show Go FrameEnd p e below s 0 0 (Q2 Z a1 a2 z t n h0) (s₁.setTop (mkF m 1 #[.val (.ref a1), .val (.ref a2), .val (.int (Int32.ofNat t))] [(.int (Int32.ofNat t))]))
  refine Go.step (fun _ k => XS.aloadN X0.here hx rfl (hb hby d_method_3_code_1) rfl rfl k) ?_
  show Go FrameEnd p e below s 0 0 (Q2 Z a1 a2 z t n h0) (s₁.setTop (mkF m 2 #[.val (.ref a1), .val (.ref a2), .val (.int (Int32.ofNat t))] [(.ref a2), (.int (Int32.ofNat t))]))
  obtain ⟨c1, Ac1, Sc1, Mc1, Gc1⟩ := id V_a2
  refine Go.step (X0.arraylength hx (by rw [e0]; exact Ac1.1) (State.isArrayOf_alike hZ.alike Ac1.2.1) (g := (mkF m 2 #[.val (.ref a1), .val (.ref a2), .val (.int (Int32.ofNat t))] [(.ref a2), (.int (Int32.ofNat t))])) rfl rfl (hb hby d_method_3_code_2)) ?_
  rw [show c1.slots.size.toInt32 = (Int32.ofNat n) from congrArg Nat.toInt32 Sc1]
  show Go FrameEnd p e below s 0 0 (Q2 Z a1 a2 z t n h0) (s₁.setTop (mkF m 3 #[.val (.ref a1), .val (.ref a2), .val (.int (Int32.ofNat t))] [(.int (Int32.ofNat n)), (.int (Int32.ofNat t))]))
  by_cases h1 : n < t
  · skip
    refine Go.step (fun _ k => XS.icmpNo X0.here hx rfl (hb hby d_method_3_code_3) rfl (tlt ((own_lt (by omega) (by omega)).mpr h1)).2.2.2 k) ?_
    show Go FrameEnd p e below s 0 0 (Q2 Z a1 a2 z t n h0) (s₁.setTop (mkF m 6 #[.val (.ref a1), .val (.ref a2), .val (.int (Int32.ofNat t))] []))
    refine Go.step (fun _ k => XS.iconst X0.here hx rfl (hb hby d_method_3_code_6) k) ?_
    show Go FrameEnd p e below s 0 0 (Q2 Z a1 a2 z t n h0) (s₁.setTop (mkF m 7 #[.val (.ref a1), .val (.ref a2), .val (.int (Int32.ofNat t))] [(.int (1 : Int32))]))
    refine Go.retN X0 hx (t := .boolean) Bd.returns (by simp) (by decide) (hb hby d_method_3_code_7) (BodyLoose.notSynchronized Bd) e0 (by decide) (by decide) ?_
    exact ⟨rfl, rfl, rfl⟩
  · skip
    refine Go.step (fun _ k => XS.icmpYes X0.here hx rfl (pc0 := 3) (pc' := 8) rfl (hb hby d_method_3_code_3) rfl (flt (mt (own_lt (by omega) (by omega)).mp h1)).2.2.2 (by decide) (by decide) k) ?_
    show Go FrameEnd p e below s 0 0 (Q2 Z a1 a2 z t n h0) (s₁.setTop (mkF m 8 #[.val (.ref a1), .val (.ref a2), .val (.int (Int32.ofNat t))] []))
    refine Go.step (fun _ k => XS.aloadN X0.here hx rfl (hb hby d_method_3_code_8) rfl rfl k) ?_
    show Go FrameEnd p e below s 0 0 (Q2 Z a1 a2 z t n h0) (s₁.setTop (mkF m 9 #[.val (.ref a1), .val (.ref a2), .val (.int (Int32.ofNat t))] [(.ref a1)]))
    refine Go.step (fun _ k => XS.iloadN X0.here hx rfl (hb hby d_method_3_code_9) rfl k) ?_
    show Go FrameEnd p e below s 0 0 (Q2 Z a1 a2 z t n h0) (s₁.setTop (mkF m 10 #[.val (.ref a1), .val (.ref a2), .val (.int (Int32.ofNat t))] [(.int (Int32.ofNat t)), (.ref a1)]))
    obtain ⟨c2, Ac2, Sc2, Mc2, Gc2⟩ := id V_a1
    refine Go.step (X0.iaload hx (j := (Int32.ofNat t)) (v := (.int (Int32.ofNat (per z t)))) (by rw [e0]; exact Ac2.1) (State.isArrayOf_alike hZ.alike Ac2.2.1) Ac2.2.2 (own_in Sc2 (own_nn (by omega)) (by rw [own_cl (by omega)]; omega)) (Av.at (i := t) Gc2 (own_cl (by omega)) (by omega) (by unfold Rf; rw [if_pos (by omega)])) (g := (mkF m 10 #[.val (.ref a1), .val (.ref a2), .val (.int (Int32.ofNat t))] [(.int (Int32.ofNat t)), (.ref a1)])) rfl rfl (hb hby d_method_3_code_10)) ?_
    show Go FrameEnd p e below s 0 0 (Q2 Z a1 a2 z t n h0) (s₁.setTop (mkF m 11 #[.val (.ref a1), .val (.ref a2), .val (.int (Int32.ofNat t))] [(.int (Int32.ofNat (per z t)))]))
    refine Go.step (fun _ k => XS.aloadN X0.here hx rfl (hb hby d_method_3_code_11) rfl rfl k) ?_
    show Go FrameEnd p e below s 0 0 (Q2 Z a1 a2 z t n h0) (s₁.setTop (mkF m 12 #[.val (.ref a1), .val (.ref a2), .val (.int (Int32.ofNat t))] [(.ref a2), (.int (Int32.ofNat (per z t)))]))
    refine Go.step (fun _ k => XS.iloadN X0.here hx rfl (hb hby d_method_3_code_12) rfl k) ?_
    show Go FrameEnd p e below s 0 0 (Q2 Z a1 a2 z t n h0) (s₁.setTop (mkF m 13 #[.val (.ref a1), .val (.ref a2), .val (.int (Int32.ofNat t))] [(.int (Int32.ofNat t)), (.ref a2), (.int (Int32.ofNat (per z t)))]))
    obtain ⟨_, _, ⟨T3, L3, k3, n3⟩, -, X3, ⟨Lc3, hQ3, l3, y3, z3⟩, st3⟩ := Jvm.LawKit.callS X0 hx (y := (⟨"example/zedbox/PeriodsOfEachPrefixPinLaw", "expect", "([II)I"⟩ : MethodName)) hown (mvT hZ (hw _ (List.mem_of_getElem? (i := 10) rfl))) (mvT hZ (hw _ (List.mem_of_getElem? (i := 11) rfl))) (mvT hZ (hw _ (List.mem_of_getElem? (i := 8) rfl))) (mvT hZ (hw _ (List.mem_of_getElem? (i := 12) rfl))) (by decide) (backOf (W := 1) (rm1 l Z a0 hw [] a2 z t n h0 V_a2 (by omega) hz) hZ (hw _ (List.mem_of_getElem? (i := 12) rfl)) (hw _ (List.mem_of_getElem? (i := 8) rfl)) (by decide) (by decide)) (g := (mkF m 13 #[.val (.ref a1), .val (.ref a2), .val (.int (Int32.ofNat t))] [(.int (Int32.ofNat t)), (.ref a2), (.int (Int32.ofNat (per z t)))])) rfl (by rw [hml]; rfl) (argsL := [(.ref a2), (.int (Int32.ofNat t))]) (rest := [(.int (Int32.ofNat (per z t)))]) (lenOf pd___II_I rfl) rfl (by show 2 * 0 + _ ≤ _; exact Nat.le_of_eq rfl) (hb hby d_method_3_code_13) (fun _ _ => ⟨rfl, e0, (by decide : 0 + 0 ≤ _), (by decide : 0 + 0 ≤ _)⟩)
    dsimp only [Pt.U, Pt.locs, Pt.cells, Pt.slots] at X3 l3 y3 z3 st3 hQ3
    subst l3 y3 z3
    obtain ⟨rfl, rfl, e3⟩ := hQ3
    refine Go.step st3 ?_
    show Go FrameEnd p e below s 0 0 (Q2 Z a1 a2 z t n h0) (T3.setTop (mkF m 16 #[.val (.ref a1), .val (.ref a2), .val (.int (Int32.ofNat t))] [(.int (Int32.ofNat (per z t))), (.int (Int32.ofNat (per z t)))]))
    refine Go.step (fun _ k => XS.icmpNo X3.here hx rfl (hb hby d_method_3_code_16) rfl (teq rfl).2 k) ?_
    show Go FrameEnd p e below s 0 0 (Q2 Z a1 a2 z t n h0) (T3.setTop (mkF m 19 #[.val (.ref a1), .val (.ref a2), .val (.int (Int32.ofNat t))] []))
    refine Go.step (fun _ k => XS.iconst X3.here hx rfl (hb hby d_method_3_code_19) k) ?_
    show Go FrameEnd p e below s 0 0 (Q2 Z a1 a2 z t n h0) (T3.setTop (mkF m 20 #[.val (.ref a1), .val (.ref a2), .val (.int (Int32.ofNat t))] [(.int (1 : Int32))]))
    refine Go.step (fun _ k => XS.goto X3.here hx rfl (pc0 := 20) (pc' := 24) rfl (hb hby d_method_3_code_20) (by decide) (by decide) k) ?_
    show Go FrameEnd p e below s 0 0 (Q2 Z a1 a2 z t n h0) (T3.setTop (mkF m 24 #[.val (.ref a1), .val (.ref a2), .val (.int (Int32.ofNat t))] [(.int (1 : Int32))]))
    refine Go.retN X3 hx (t := .boolean) Bd.returns (by simp) (by decide) (hb hby d_method_3_code_24) (BodyLoose.notSynchronized Bd) e3 (by decide) (by decide) ?_
    exact ⟨rfl, rfl, rfl⟩
def Q3 (Z : State) (a1 : Addr) (z : Nat → Nat) (n : Nat) (h0 : Heap) (n0 : Nat) (v : Option Value) (h : Heap) (L : List Loc) : Prop := ∃ b : Addr, v = some (.ref b) ∧ Fr n0 L ∧ h0.size ≤ b ∧ (Keep h0 h []) ∧ (Av Z h b .int (n + 1) (Rf z (n + 1)))
theorem ef_3 (m : MethodId) (a1 : Addr) : entryFrame m #[(.ref a1)] 5 = mkF m 0 #[.val (.ref a1), .unset, .unset, .unset, .unset] [] := by first | (simp [entryFrame, mkF, argsToLocals, Value.category]; done) | rfl
set_option maxRecDepth 65536 in
set_option maxHeartbeats 40000000 in
theorem rm3 (l : Launch) (Z : State) (a0 : Array Value) (hw : ∀ d ∈ tables_1, d.before a0 Z = true) (ws : List Jvm.Cond) (a1 : Addr) (z : Nat → Nat) (n : Nat) (h0 : Heap) (n0 : Nat) (Z0 : n0 ≤ h0.size) (V_a1 : Av Z h0 a1 .int n (fun j => .int (Int32.ofNat (z j)))) (hn : n ≤ 6) (hz : ∀ j, 1 ≤ j → j < n → j + z j ≤ n) :
    MetFree l (⟨"example/zedbox/Periods", "ofEachPrefix", "([I)[I"⟩ : MethodName) (head1 (Jvm.Cond.code (⟨"example/zedbox/Periods", "ofEachPrefix", "([I)[I"⟩ : MethodName) prog_7_method_4_code 5 (some (.array .int)) :: ws) ({ frames := 0, cells := 1, slots := 7, locals := 0 } : Room)) (fun a U => a = #[(.ref a1)] ∧ Z.Warmed39 U.vm ∧ U.heap = h0) (fun _ _ _ _ _ => True) (fun _ U o U' => ∃ v L, o = .returned v ∧ (Q3 Z a1 z n h0 n0) v U'.heap L ∧ FrameEnd U o U' L 1 7) := by
  refine MetFree.of_bodySF (plainFor_of_name pn_example_zedbox_Periods) hisR ?_
  intro p e s m args below meth c s₁ Bd hml0 hP hK
  obtain ⟨rfl, hZ, hh⟩ := hP
  have hx := Bd.exec
  have hby := Bd.bytes
  have hml : c.maxLocals = 5 := hml0
  have hown : s.vm.findClass "example/zedbox/Periods" = some m.cls := findClass_of_methodNamed Bd.named
  have hnm := (name_of_methodNamed Bd.named Bd.method).1
  have X0 : Stand p l e ({ frames := 0, cells := 1, slots := 7, locals := 0 } : Room) s m #[(.ref a1)] below meth c s₁ [] 0 0 := Stand.of_body Bd
  have e0 : s₁.heap = h0 := by rw [← hh, Bd.state]; rfl
  have N0 := Fr.nil n0
  show Go FrameEnd p e below s 1 7 (Q3 Z a1 z n h0 n0) _
  refine Go.step (fun _ k => castTop (ef_3 m a1) k) ?_
  show Go FrameEnd p e below s 1 7 (Q3 Z a1 z n h0 n0) (s₁.setTop (mkF m 0 #[.val (.ref a1), .unset, .unset, .unset, .unset] []))
  refine Go.step (fun _ k => XS.aloadN X0.here hx rfl (hb hby d_prog_7_method_4_code_0) rfl rfl k) ?_
  show Go FrameEnd p e below s 1 7 (Q3 Z a1 z n h0 n0) (s₁.setTop (mkF m 1 #[.val (.ref a1), .unset, .unset, .unset, .unset] [(.ref a1)]))
  obtain ⟨c1, Ac1, Sc1, Mc1, Gc1⟩ := id V_a1
  refine Go.step (X0.arraylength hx (by rw [e0]; exact Ac1.1) (State.isArrayOf_alike hZ.alike Ac1.2.1) (g := (mkF m 1 #[.val (.ref a1), .unset, .unset, .unset, .unset] [(.ref a1)])) rfl rfl (hb hby d_prog_7_method_4_code_1)) ?_
  rw [show c1.slots.size.toInt32 = (Int32.ofNat n) from congrArg Nat.toInt32 Sc1]
  show Go FrameEnd p e below s 1 7 (Q3 Z a1 z n h0 n0) (s₁.setTop (mkF m 2 #[.val (.ref a1), .unset, .unset, .unset, .unset] [(.int (Int32.ofNat n))]))
  refine Go.step (fun _ k => XS.istoreN X0.here hx rfl (hb hby d_prog_7_method_4_code_2) rfl (l' := #[.val (.ref a1), .val (.int (Int32.ofNat n)), .unset, .unset, .unset]) rfl k) ?_
  show Go FrameEnd p e below s 1 7 (Q3 Z a1 z n h0 n0) (s₁.setTop (mkF m 3 #[.val (.ref a1), .val (.int (Int32.ofNat n)), .unset, .unset, .unset] []))
  refine Go.step (fun _ k => XS.iloadN X0.here hx rfl (hb hby d_prog_7_method_4_code_3) rfl k) ?_
  show Go FrameEnd p e below s 1 7 (Q3 Z a1 z n h0 n0) (s₁.setTop (mkF m 4 #[.val (.ref a1), .val (.int (Int32.ofNat n)), .unset, .unset, .unset] [(.int (Int32.ofNat n))]))
  refine Go.step (fun _ k => XS.iconst X0.here hx rfl (hb hby d_prog_7_method_4_code_4) k) ?_
  show Go FrameEnd p e below s 1 7 (Q3 Z a1 z n h0 n0) (s₁.setTop (mkF m 5 #[.val (.ref a1), .val (.int (Int32.ofNat n)), .unset, .unset, .unset] [(.int (1 : Int32)), (.int (Int32.ofNat n))]))
  refine Go.step (fun _ k => XS.iadd X0.here hx rfl (hb hby d_prog_7_method_4_code_5) rfl k) ?_
  show Go FrameEnd p e below s 1 7 (Q3 Z a1 z n h0 n0) (s₁.setTop (mkF m 6 #[.val (.ref a1), .val (.int (Int32.ofNat n)), .unset, .unset, .unset] [(.int ((Int32.ofNat n) + (1 : Int32)))]))
  rw [own_of1]
  show Go FrameEnd p e below s 1 7 (Q3 Z a1 z n h0 n0) (s₁.setTop (mkF m 6 #[.val (.ref a1), .val (.int (Int32.ofNat n)), .unset, .unset, .unset] [(.int (Int32.ofNat (n + 1)))]))
  obtain ⟨T2, h2, k2, X2, e2, E2, A2, st2⟩ := newP X0 hx hZ (hw _ (List.mem_of_getElem? (i := 1) rfl)) e0 (g := (mkF m 6 #[.val (.ref a1), .val (.int (Int32.ofNat n)), .unset, .unset, .unset] [(.int (Int32.ofNat (n + 1)))])) rfl (hb hby d_prog_7_method_4_code_6) rfl (own_nn (by omega)) (cap := 7) (by rw [own_cl (by omega)]; omega) (by decide) (by decide) (by decide)
  refine Go.step st2 ?_
  obtain ⟨b2, g2⟩ : ∃ z, z = h0.size := ⟨_, rfl⟩
  rw [← g2] at A2 ⊢
  have ne_a1_b2 : a1 ≠ b2 := Nat.ne_of_lt (Nat.lt_of_lt_of_le V_a1.lt (Nat.le_of_eq g2.symm))
  have g_b2 : n0 ≤ b2 := Nat.le_trans Z0 (Nat.le_of_eq g2.symm)
  have Z2 : n0 ≤ h2.size := Nat.le_trans Z0 E2.1
  have K02 : Keep h0 h2 [] := (Keep.refl h0 []).ext E2
  have sz_b2 : h0.size ≤ b2 := Nat.le_trans (Keep.refl h0 []).1 (Nat.le_of_eq g2.symm)
  have V2 : Av Z h2 b2 .int (n + 1) (fun _ => (.int (0 : Int32))) := Av.new A2 (own_nn (by omega)) (by exact own_cl (by omega))
  show Go FrameEnd p e below s 1 7 (Q3 Z a1 z n h0 n0) (T2.setTop (mkF m 8 #[.val (.ref a1), .val (.int (Int32.ofNat n)), .unset, .unset, .unset] [(.ref b2)]))
  refine Go.step (fun _ k => XS.astoreN X2.here hx rfl (hb hby d_prog_7_method_4_code_8) rfl rfl (l' := #[.val (.ref a1), .val (.int (Int32.ofNat n)), .val (.ref b2), .unset, .unset]) rfl k) ?_
  show Go FrameEnd p e below s 1 7 (Q3 Z a1 z n h0 n0) (T2.setTop (mkF m 9 #[.val (.ref a1), .val (.int (Int32.ofNat n)), .val (.ref b2), .unset, .unset] []))
  refine Go.step (fun _ k => XS.iconst X2.here hx rfl (hb hby d_prog_7_method_4_code_9) k) ?_
  show Go FrameEnd p e below s 1 7 (Q3 Z a1 z n h0 n0) (T2.setTop (mkF m 10 #[.val (.ref a1), .val (.int (Int32.ofNat n)), .val (.ref b2), .unset, .unset] [(.int (1 : Int32))]))
  refine Go.step (fun _ k => XS.istoreN X2.here hx rfl (hb hby d_prog_7_method_4_code_10) rfl (l' := #[.val (.ref a1), .val (.int (Int32.ofNat n)), .val (.ref b2), .val (.int (1 : Int32)), .unset]) rfl k) ?_
  show Go FrameEnd p e below s 1 7 (Q3 Z a1 z n h0 n0) (T2.setTop (mkF m 11 #[.val (.ref a1), .val (.int (Int32.ofNat n)), .val (.ref b2), .val (.int (1 : Int32)), .unset] []))
  refine Go.step (fun _ k => XS.iconst X2.here hx rfl (hb hby d_prog_7_method_4_code_11) k) ?_
  show Go FrameEnd p e below s 1 7 (Q3 Z a1 z n h0 n0) (T2.setTop (mkF m 12 #[.val (.ref a1), .val (.int (Int32.ofNat n)), .val (.ref b2), .val (.int (1 : Int32)), .unset] [(.int (1 : Int32))]))
  refine Go.step (fun _ k => XS.istore X2.here hx rfl (hb hby d_prog_7_method_4_code_12) rfl (l' := #[.val (.ref a1), .val (.int (Int32.ofNat n)), .val (.ref b2), .val (.int (1 : Int32)), .val (.int (1 : Int32))]) rfl k) ?_
  show Go FrameEnd p e below s 1 7 (Q3 Z a1 z n h0 n0) (T2.setTop (mkF m 14 #[.val (.ref a1), .val (.int (Int32.ofNat n)), .val (.ref b2), .val (.int (1 : Int32)), .val (.int (1 : Int32))] []))
  have R1 : Av Z h2 b2 .int (n + 1) (Rf z 1) := (V2).eq (fun j hj => by unfold Rf; by_cases e : j < 1 <;> simp [e, per, pq, pg] <;> (try (rw [show j = 0 from by omega]; rfl)))
  have f_4 := (V_a1.ext E2)
  have W14_3 : ∀ ka : Nat, ∀ (i : Nat), ∀ (l_ : Nat), ∀ (Tg5 : State) (Lg5 : List Loc) (hg5 : Heap), Stand p l e ({ frames := 0, cells := 1, slots := 7, locals := 0 } : Room) s m #[(.ref a1)] below meth c Tg5 Lg5 (1) (7) → Fr n0 Lg5 → Tg5.heap = hg5 → n0 ≤ hg5.size → Keep h0 hg5 [] → Av Z hg5 a1 .int n (fun j => .int (Int32.ofNat (z j))) → Av Z hg5 b2 .int (n + 1) (Rf z l_) → (i + ka = max i n) → (1 ≤ i ∧ i ≤ n + 1) → (1 ≤ l_) → (l_ ≤ n + 1) → (∀ j, 1 ≤ j → j < i → j + z j < l_) → Go FrameEnd p e below s 1 7 (Q3 Z a1 z n h0 n0) (Tg5.setTop (mkF m 14 #[.val (.ref a1), .val (.int (Int32.ofNat n)), .val (.ref b2), .val (.int (Int32.ofNat l_)), .val (.int (Int32.ofNat i))] [])) := by
    intro ka
    induction ka with
    | zero =>
      intro i l_ Tg5 Lg5 hg5 Xg5 Ng5 eg5 Zg5 Kg5 gf5_0 gf5_1 hk h1 h2 h3 hc
      show Go FrameEnd p e below s 1 7 (Q3 Z a1 z n h0 n0) (Tg5.setTop (mkF m 14 #[.val (.ref a1), .val (.int (Int32.ofNat n)), .val (.ref b2), .val (.int (Int32.ofNat l_)), .val (.int (Int32.ofNat i))] []))
      refine Go.step (fun _ k => XS.iload Xg5.here hx rfl (hb hby d_prog_7_method_4_code_14) rfl k) ?_
      show Go FrameEnd p e below s 1 7 (Q3 Z a1 z n h0 n0) (Tg5.setTop (mkF m 16 #[.val (.ref a1), .val (.int (Int32.ofNat n)), .val (.ref b2), .val (.int (Int32.ofNat l_)), .val (.int (Int32.ofNat i))] [(.int (Int32.ofNat i))]))
      refine Go.step (fun _ k => XS.iloadN Xg5.here hx rfl (hb hby d_prog_7_method_4_code_16) rfl k) ?_
      show Go FrameEnd p e below s 1 7 (Q3 Z a1 z n h0 n0) (Tg5.setTop (mkF m 17 #[.val (.ref a1), .val (.int (Int32.ofNat n)), .val (.ref b2), .val (.int (Int32.ofNat l_)), .val (.int (Int32.ofNat i))] [(.int (Int32.ofNat n)), (.int (Int32.ofNat i))]))
      refine Go.step (fun _ k => XS.icmpYes Xg5.here hx rfl (pc0 := 17) (pc' := 64) rfl (hb hby d_prog_7_method_4_code_17) rfl (flt (mt (own_lt (by omega) (by omega)).mp (by omega))).2.1 (by decide) (by decide) k) ?_
      show Go FrameEnd p e below s 1 7 (Q3 Z a1 z n h0 n0) (Tg5.setTop (mkF m 64 #[.val (.ref a1), .val (.int (Int32.ofNat n)), .val (.ref b2), .val (.int (Int32.ofNat l_)), .val (.int (Int32.ofNat i))] []))
      have W64_6 : ∀ kd : Nat, ∀ (l_ : Nat), ∀ (Tg7 : State) (Lg7 : List Loc) (hg7 : Heap), Stand p l e ({ frames := 0, cells := 1, slots := 7, locals := 0 } : Room) s m #[(.ref a1)] below meth c Tg7 Lg7 (1) (7) → Fr n0 Lg7 → Tg7.heap = hg7 → n0 ≤ hg7.size → Keep h0 hg7 [] → Av Z hg7 a1 .int n (fun j => .int (Int32.ofNat (z j))) → Av Z hg7 b2 .int (n + 1) (Rf z l_) → (l_ + kd = n + 1) → (1 ≤ l_) → (l_ ≤ n + 1) → (∀ j, 1 ≤ j → j < n → j + z j < l_) → Go FrameEnd p e below s 1 7 (Q3 Z a1 z n h0 n0) (Tg7.setTop (mkF m 64 #[.val (.ref a1), .val (.int (Int32.ofNat n)), .val (.ref b2), .val (.int (Int32.ofNat l_)), .val (.int (Int32.ofNat i))] [])) := by
        intro kd
        induction kd with
        | zero =>
          intro l_ Tg7 Lg7 hg7 Xg7 Ng7 eg7 Zg7 Kg7 gf7_0 gf7_1 hk h1 h2 hc
          show Go FrameEnd p e below s 1 7 (Q3 Z a1 z n h0 n0) (Tg7.setTop (mkF m 64 #[.val (.ref a1), .val (.int (Int32.ofNat n)), .val (.ref b2), .val (.int (Int32.ofNat l_)), .val (.int (Int32.ofNat i))] []))
          refine Go.step (fun _ k => XS.iloadN Xg7.here hx rfl (hb hby d_prog_7_method_4_code_64) rfl k) ?_
          show Go FrameEnd p e below s 1 7 (Q3 Z a1 z n h0 n0) (Tg7.setTop (mkF m 65 #[.val (.ref a1), .val (.int (Int32.ofNat n)), .val (.ref b2), .val (.int (Int32.ofNat l_)), .val (.int (Int32.ofNat i))] [(.int (Int32.ofNat l_))]))
          refine Go.step (fun _ k => XS.iloadN Xg7.here hx rfl (hb hby d_prog_7_method_4_code_65) rfl k) ?_
          show Go FrameEnd p e below s 1 7 (Q3 Z a1 z n h0 n0) (Tg7.setTop (mkF m 66 #[.val (.ref a1), .val (.int (Int32.ofNat n)), .val (.ref b2), .val (.int (Int32.ofNat l_)), .val (.int (Int32.ofNat i))] [(.int (Int32.ofNat n)), (.int (Int32.ofNat l_))]))
          refine Go.step (fun _ k => XS.icmpYes Xg7.here hx rfl (pc0 := 66) (pc' := 79) rfl (hb hby d_prog_7_method_4_code_66) rfl (tlt ((own_lt (by omega) (by omega)).mpr (by omega))).2.2.1 (by decide) (by decide) k) ?_
          show Go FrameEnd p e below s 1 7 (Q3 Z a1 z n h0 n0) (Tg7.setTop (mkF m 79 #[.val (.ref a1), .val (.int (Int32.ofNat n)), .val (.ref b2), .val (.int (Int32.ofNat l_)), .val (.int (Int32.ofNat i))] []))
          refine Go.step (fun _ k => XS.aloadN Xg7.here hx rfl (hb hby d_prog_7_method_4_code_79) rfl rfl k) ?_
          show Go FrameEnd p e below s 1 7 (Q3 Z a1 z n h0 n0) (Tg7.setTop (mkF m 80 #[.val (.ref a1), .val (.int (Int32.ofNat n)), .val (.ref b2), .val (.int (Int32.ofNat l_)), .val (.int (Int32.ofNat i))] [(.ref b2)]))
          refine Go.retR Xg7 hx Bd.returns rfl rfl (hb hby d_prog_7_method_4_code_80) (BodyLoose.notSynchronized Bd) eg7 (by decide) (by decide) ?_
          have hl : l_ = n + 1 := by omega
          subst hl
          exact ⟨b2, rfl, Ng7, sz_b2, Kg7, gf7_1⟩
        | succ kd ihkd =>
          intro l_ Tg7 Lg7 hg7 Xg7 Ng7 eg7 Zg7 Kg7 gf7_0 gf7_1 hk h1 h2 hc
          show Go FrameEnd p e below s 1 7 (Q3 Z a1 z n h0 n0) (Tg7.setTop (mkF m 64 #[.val (.ref a1), .val (.int (Int32.ofNat n)), .val (.ref b2), .val (.int (Int32.ofNat l_)), .val (.int (Int32.ofNat i))] []))
          refine Go.step (fun _ k => XS.iloadN Xg7.here hx rfl (hb hby d_prog_7_method_4_code_64) rfl k) ?_
          show Go FrameEnd p e below s 1 7 (Q3 Z a1 z n h0 n0) (Tg7.setTop (mkF m 65 #[.val (.ref a1), .val (.int (Int32.ofNat n)), .val (.ref b2), .val (.int (Int32.ofNat l_)), .val (.int (Int32.ofNat i))] [(.int (Int32.ofNat l_))]))
          refine Go.step (fun _ k => XS.iloadN Xg7.here hx rfl (hb hby d_prog_7_method_4_code_65) rfl k) ?_
          show Go FrameEnd p e below s 1 7 (Q3 Z a1 z n h0 n0) (Tg7.setTop (mkF m 66 #[.val (.ref a1), .val (.int (Int32.ofNat n)), .val (.ref b2), .val (.int (Int32.ofNat l_)), .val (.int (Int32.ofNat i))] [(.int (Int32.ofNat n)), (.int (Int32.ofNat l_))]))
          refine Go.step (fun _ k => XS.icmpNo Xg7.here hx rfl (hb hby d_prog_7_method_4_code_66) rfl (flt (mt (own_lt (by omega) (by omega)).mp (by omega))).2.2.1 k) ?_
          show Go FrameEnd p e below s 1 7 (Q3 Z a1 z n h0 n0) (Tg7.setTop (mkF m 69 #[.val (.ref a1), .val (.int (Int32.ofNat n)), .val (.ref b2), .val (.int (Int32.ofNat l_)), .val (.int (Int32.ofNat i))] []))
          refine Go.step (fun _ k => XS.aloadN Xg7.here hx rfl (hb hby d_prog_7_method_4_code_69) rfl rfl k) ?_
          show Go FrameEnd p e below s 1 7 (Q3 Z a1 z n h0 n0) (Tg7.setTop (mkF m 70 #[.val (.ref a1), .val (.int (Int32.ofNat n)), .val (.ref b2), .val (.int (Int32.ofNat l_)), .val (.int (Int32.ofNat i))] [(.ref b2)]))
          refine Go.step (fun _ k => XS.iloadN Xg7.here hx rfl (hb hby d_prog_7_method_4_code_70) rfl k) ?_
          show Go FrameEnd p e below s 1 7 (Q3 Z a1 z n h0 n0) (Tg7.setTop (mkF m 71 #[.val (.ref a1), .val (.int (Int32.ofNat n)), .val (.ref b2), .val (.int (Int32.ofNat l_)), .val (.int (Int32.ofNat i))] [(.int (Int32.ofNat l_)), (.ref b2)]))
          refine Go.step (fun _ k => XS.iloadN Xg7.here hx rfl (hb hby d_prog_7_method_4_code_71) rfl k) ?_
          show Go FrameEnd p e below s 1 7 (Q3 Z a1 z n h0 n0) (Tg7.setTop (mkF m 72 #[.val (.ref a1), .val (.int (Int32.ofNat n)), .val (.ref b2), .val (.int (Int32.ofNat l_)), .val (.int (Int32.ofNat i))] [(.int (Int32.ofNat l_)), (.int (Int32.ofNat l_)), (.ref b2)]))
          obtain ⟨c8, Ac8, Sc8, Mc8, Gc8⟩ := id gf7_1
          obtain ⟨T9, h9, X9, e9, W9, st9⟩ := stI Xg7 hx hZ eg7 Ac8 (j := (Int32.ofNat l_)) (own_in Sc8 (own_nn (by omega)) (by rw [own_cl (by omega)]; omega)) (g := (mkF m 72 #[.val (.ref a1), .val (.int (Int32.ofNat n)), .val (.ref b2), .val (.int (Int32.ofNat l_)), .val (.int (Int32.ofNat i))] [(.int (Int32.ofNat l_)), (.int (Int32.ofNat l_)), (.ref b2)])) rfl rfl (hb hby d_prog_7_method_4_code_72)
          refine Go.step st9 ?_
          have N9 := Fr.snoc X9 Ng7 g_b2
          have Z9 : n0 ≤ h9.size := Nat.le_trans Zg7 (Keep.of_wr W9).1
          have K09 : Keep h0 h9 [] := Kg7.wr W9 (Or.inr sz_b2)
          have V9 : Av Z h9 b2 .int (n + 1) (aset (Rf z l_) l_ (.int (Int32.ofNat l_))) := Av.set Ac8 Sc8 Mc8 Gc8 W9 (own_cl (by omega)) (own_in Sc8 (own_nn (by omega)) (by rw [own_cl (by omega)]; omega))
          have V9 : Av Z h9 b2 .int (n + 1) (Rf z (l_ + 1)) := V9.eq (fun j hj => own_Rf (per_self (by omega) (fun j h1 h2 => hc j h1 (by omega))) j)
          show Go FrameEnd p e below s 1 7 (Q3 Z a1 z n h0 n0) (T9.setTop (mkF m 73 #[.val (.ref a1), .val (.int (Int32.ofNat n)), .val (.ref b2), .val (.int (Int32.ofNat l_)), .val (.int (Int32.ofNat i))] []))
          refine Go.step (fun _ k => XS.iinc X9.here hx rfl (hb hby d_prog_7_method_4_code_73) rfl (l' := #[.val (.ref a1), .val (.int (Int32.ofNat n)), .val (.ref b2), .val (.int ((Int32.ofNat l_) + (1 : Int32))), .val (.int (Int32.ofNat i))]) rfl k) ?_
          show Go FrameEnd p e below s 1 7 (Q3 Z a1 z n h0 n0) (T9.setTop (mkF m 76 #[.val (.ref a1), .val (.int (Int32.ofNat n)), .val (.ref b2), .val (.int ((Int32.ofNat l_) + (1 : Int32))), .val (.int (Int32.ofNat i))] []))
          refine Go.step (fun _ k => XS.goto X9.here hx rfl (pc0 := 76) (pc' := 64) rfl (hb hby d_prog_7_method_4_code_76) (by decide) (by decide) k) ?_
          show Go FrameEnd p e below s 1 7 (Q3 Z a1 z n h0 n0) (T9.setTop (mkF m 64 #[.val (.ref a1), .val (.int (Int32.ofNat n)), .val (.ref b2), .val (.int ((Int32.ofNat l_) + (1 : Int32))), .val (.int (Int32.ofNat i))] []))
          have f_10 := (gf7_0.other W9 ne_a1_b2)
          rw [own_of1]
          exact ihkd (l_ + 1) _ _ _ X9 N9 e9 Z9 K09 f_10 V9 (by omega) (by omega) (by omega) (fun j h1 h2 => by have := hc j h1 h2; omega)
      show Go FrameEnd p e below s 1 7 (Q3 Z a1 z n h0 n0) (Tg5.setTop (mkF m 64 #[.val (.ref a1), .val (.int (Int32.ofNat n)), .val (.ref b2), .val (.int (Int32.ofNat l_)), .val (.int (Int32.ofNat i))] []))
      exact W64_6 (n + 1 - l_) l_ _ _ _ Xg5 Ng5 eg5 Zg5 Kg5 gf5_0 gf5_1 (by omega) (by omega) (by omega) (fun j h1 h2 => hc j h1 (by omega))
    | succ ka ihka =>
      intro i l_ Tg5 Lg5 hg5 Xg5 Ng5 eg5 Zg5 Kg5 gf5_0 gf5_1 hk h1 h2 h3 hc
      show Go FrameEnd p e below s 1 7 (Q3 Z a1 z n h0 n0) (Tg5.setTop (mkF m 14 #[.val (.ref a1), .val (.int (Int32.ofNat n)), .val (.ref b2), .val (.int (Int32.ofNat l_)), .val (.int (Int32.ofNat i))] []))
      refine Go.step (fun _ k => XS.iload Xg5.here hx rfl (hb hby d_prog_7_method_4_code_14) rfl k) ?_
      show Go FrameEnd p e below s 1 7 (Q3 Z a1 z n h0 n0) (Tg5.setTop (mkF m 16 #[.val (.ref a1), .val (.int (Int32.ofNat n)), .val (.ref b2), .val (.int (Int32.ofNat l_)), .val (.int (Int32.ofNat i))] [(.int (Int32.ofNat i))]))
      refine Go.step (fun _ k => XS.iloadN Xg5.here hx rfl (hb hby d_prog_7_method_4_code_16) rfl k) ?_
      show Go FrameEnd p e below s 1 7 (Q3 Z a1 z n h0 n0) (Tg5.setTop (mkF m 17 #[.val (.ref a1), .val (.int (Int32.ofNat n)), .val (.ref b2), .val (.int (Int32.ofNat l_)), .val (.int (Int32.ofNat i))] [(.int (Int32.ofNat n)), (.int (Int32.ofNat i))]))
      refine Go.step (fun _ k => XS.icmpNo Xg5.here hx rfl (hb hby d_prog_7_method_4_code_17) rfl (tlt ((own_lt (by omega) (by omega)).mpr (by omega))).2.1 k) ?_
      show Go FrameEnd p e below s 1 7 (Q3 Z a1 z n h0 n0) (Tg5.setTop (mkF m 20 #[.val (.ref a1), .val (.int (Int32.ofNat n)), .val (.ref b2), .val (.int (Int32.ofNat l_)), .val (.int (Int32.ofNat i))] []))
      have W20_11 : ∀ kb : Nat, ∀ (l_ : Nat), ∀ (Tg12 : State) (Lg12 : List Loc) (hg12 : Heap), Stand p l e ({ frames := 0, cells := 1, slots := 7, locals := 0 } : Room) s m #[(.ref a1)] below meth c Tg12 Lg12 (1) (7) → Fr n0 Lg12 → Tg12.heap = hg12 → n0 ≤ hg12.size → Keep h0 hg12 [] → Av Z hg12 a1 .int n (fun j => .int (Int32.ofNat (z j))) → Av Z hg12 b2 .int (n + 1) (Rf z l_) → (l_ + kb = max l_ (i + 1)) → (1 ≤ l_) → (l_ ≤ n + 1) → (∀ j, 1 ≤ j → j < i → j + z j < l_) → Go FrameEnd p e below s 1 7 (Q3 Z a1 z n h0 n0) (Tg12.setTop (mkF m 20 #[.val (.ref a1), .val (.int (Int32.ofNat n)), .val (.ref b2), .val (.int (Int32.ofNat l_)), .val (.int (Int32.ofNat i))] [])) := by
        intro kb
        induction kb with
        | zero =>
          intro l_ Tg12 Lg12 hg12 Xg12 Ng12 eg12 Zg12 Kg12 gf12_0 gf12_1 hk h1 h2 hc
          show Go FrameEnd p e below s 1 7 (Q3 Z a1 z n h0 n0) (Tg12.setTop (mkF m 20 #[.val (.ref a1), .val (.int (Int32.ofNat n)), .val (.ref b2), .val (.int (Int32.ofNat l_)), .val (.int (Int32.ofNat i))] []))
          refine Go.step (fun _ k => XS.iloadN Xg12.here hx rfl (hb hby d_prog_7_method_4_code_20) rfl k) ?_
          show Go FrameEnd p e below s 1 7 (Q3 Z a1 z n h0 n0) (Tg12.setTop (mkF m 21 #[.val (.ref a1), .val (.int (Int32.ofNat n)), .val (.ref b2), .val (.int (Int32.ofNat l_)), .val (.int (Int32.ofNat i))] [(.int (Int32.ofNat l_))]))
          refine Go.step (fun _ k => XS.iload Xg12.here hx rfl (hb hby d_prog_7_method_4_code_21) rfl k) ?_
          show Go FrameEnd p e below s 1 7 (Q3 Z a1 z n h0 n0) (Tg12.setTop (mkF m 23 #[.val (.ref a1), .val (.int (Int32.ofNat n)), .val (.ref b2), .val (.int (Int32.ofNat l_)), .val (.int (Int32.ofNat i))] [(.int (Int32.ofNat i)), (.int (Int32.ofNat l_))]))
          refine Go.step (fun _ k => XS.icmpYes Xg12.here hx rfl (pc0 := 23) (pc' := 36) rfl (hb hby d_prog_7_method_4_code_23) rfl (tlt ((own_lt (by omega) (by omega)).mpr (by omega))).2.2.1 (by decide) (by decide) k) ?_
          show Go FrameEnd p e below s 1 7 (Q3 Z a1 z n h0 n0) (Tg12.setTop (mkF m 36 #[.val (.ref a1), .val (.int (Int32.ofNat n)), .val (.ref b2), .val (.int (Int32.ofNat l_)), .val (.int (Int32.ofNat i))] []))
          have hzi := hz i (by omega) (by omega)
          have W36_13 : ∀ kc : Nat, ∀ (l_ : Nat), ∀ (Tg14 : State) (Lg14 : List Loc) (hg14 : Heap), Stand p l e ({ frames := 0, cells := 1, slots := 7, locals := 0 } : Room) s m #[(.ref a1)] below meth c Tg14 Lg14 (1) (7) → Fr n0 Lg14 → Tg14.heap = hg14 → n0 ≤ hg14.size → Keep h0 hg14 [] → Av Z hg14 a1 .int n (fun j => .int (Int32.ofNat (z j))) → Av Z hg14 b2 .int (n + 1) (Rf z l_) → (l_ + kc = max l_ (i + z i + 1)) → (i < l_) → (l_ ≤ n + 1) → (∀ j, 1 ≤ j → j < i → j + z j < l_) → Go FrameEnd p e below s 1 7 (Q3 Z a1 z n h0 n0) (Tg14.setTop (mkF m 36 #[.val (.ref a1), .val (.int (Int32.ofNat n)), .val (.ref b2), .val (.int (Int32.ofNat l_)), .val (.int (Int32.ofNat i))] [])) := by
            intro kc
            induction kc with
            | zero =>
              intro l_ Tg14 Lg14 hg14 Xg14 Ng14 eg14 Zg14 Kg14 gf14_0 gf14_1 hk h1 h2 hc
              show Go FrameEnd p e below s 1 7 (Q3 Z a1 z n h0 n0) (Tg14.setTop (mkF m 36 #[.val (.ref a1), .val (.int (Int32.ofNat n)), .val (.ref b2), .val (.int (Int32.ofNat l_)), .val (.int (Int32.ofNat i))] []))
              refine Go.step (fun _ k => XS.iloadN Xg14.here hx rfl (hb hby d_prog_7_method_4_code_36) rfl k) ?_
              show Go FrameEnd p e below s 1 7 (Q3 Z a1 z n h0 n0) (Tg14.setTop (mkF m 37 #[.val (.ref a1), .val (.int (Int32.ofNat n)), .val (.ref b2), .val (.int (Int32.ofNat l_)), .val (.int (Int32.ofNat i))] [(.int (Int32.ofNat l_))]))
              refine Go.step (fun _ k => XS.iload Xg14.here hx rfl (hb hby d_prog_7_method_4_code_37) rfl k) ?_
              show Go FrameEnd p e below s 1 7 (Q3 Z a1 z n h0 n0) (Tg14.setTop (mkF m 39 #[.val (.ref a1), .val (.int (Int32.ofNat n)), .val (.ref b2), .val (.int (Int32.ofNat l_)), .val (.int (Int32.ofNat i))] [(.int (Int32.ofNat i)), (.int (Int32.ofNat l_))]))
              refine Go.step (fun _ k => XS.aloadN Xg14.here hx rfl (hb hby d_prog_7_method_4_code_39) rfl rfl k) ?_
              show Go FrameEnd p e below s 1 7 (Q3 Z a1 z n h0 n0) (Tg14.setTop (mkF m 40 #[.val (.ref a1), .val (.int (Int32.ofNat n)), .val (.ref b2), .val (.int (Int32.ofNat l_)), .val (.int (Int32.ofNat i))] [(.ref a1), (.int (Int32.ofNat i)), (.int (Int32.ofNat l_))]))
              refine Go.step (fun _ k => XS.iload Xg14.here hx rfl (hb hby d_prog_7_method_4_code_40) rfl k) ?_
              show Go FrameEnd p e below s 1 7 (Q3 Z a1 z n h0 n0) (Tg14.setTop (mkF m 42 #[.val (.ref a1), .val (.int (Int32.ofNat n)), .val (.ref b2), .val (.int (Int32.ofNat l_)), .val (.int (Int32.ofNat i))] [(.int (Int32.ofNat i)), (.ref a1), (.int (Int32.ofNat i)), (.int (Int32.ofNat l_))]))
              obtain ⟨c15, Ac15, Sc15, Mc15, Gc15⟩ := id gf14_0
              refine Go.step (Xg14.iaload hx (j := (Int32.ofNat i)) (v := (.int (Int32.ofNat (z i)))) (by rw [eg14]; exact Ac15.1) (State.isArrayOf_alike hZ.alike Ac15.2.1) Ac15.2.2 (own_in Sc15 (own_nn (by omega)) (by rw [own_cl (by omega)]; omega)) (Av.at (i := i) Gc15 (own_cl (by omega)) (by omega) rfl) (g := (mkF m 42 #[.val (.ref a1), .val (.int (Int32.ofNat n)), .val (.ref b2), .val (.int (Int32.ofNat l_)), .val (.int (Int32.ofNat i))] [(.int (Int32.ofNat i)), (.ref a1), (.int (Int32.ofNat i)), (.int (Int32.ofNat l_))])) rfl rfl (hb hby d_prog_7_method_4_code_42)) ?_
              show Go FrameEnd p e below s 1 7 (Q3 Z a1 z n h0 n0) (Tg14.setTop (mkF m 43 #[.val (.ref a1), .val (.int (Int32.ofNat n)), .val (.ref b2), .val (.int (Int32.ofNat l_)), .val (.int (Int32.ofNat i))] [(.int (Int32.ofNat (z i))), (.int (Int32.ofNat i)), (.int (Int32.ofNat l_))]))
              refine Go.step (fun _ k => XS.iadd Xg14.here hx rfl (hb hby d_prog_7_method_4_code_43) rfl k) ?_
              show Go FrameEnd p e below s 1 7 (Q3 Z a1 z n h0 n0) (Tg14.setTop (mkF m 44 #[.val (.ref a1), .val (.int (Int32.ofNat n)), .val (.ref b2), .val (.int (Int32.ofNat l_)), .val (.int (Int32.ofNat i))] [(.int ((Int32.ofNat i) + (Int32.ofNat (z i)))), (.int (Int32.ofNat l_))]))
              rw [own_ofa]
              show Go FrameEnd p e below s 1 7 (Q3 Z a1 z n h0 n0) (Tg14.setTop (mkF m 44 #[.val (.ref a1), .val (.int (Int32.ofNat n)), .val (.ref b2), .val (.int (Int32.ofNat l_)), .val (.int (Int32.ofNat i))] [(.int (Int32.ofNat (i + z i))), (.int (Int32.ofNat l_))]))
              refine Go.step (fun _ k => XS.icmpYes Xg14.here hx rfl (pc0 := 44) (pc' := 58) rfl (hb hby d_prog_7_method_4_code_44) rfl (tlt ((own_lt (by omega) (by omega)).mpr (by omega))).2.2.1 (by decide) (by decide) k) ?_
              show Go FrameEnd p e below s 1 7 (Q3 Z a1 z n h0 n0) (Tg14.setTop (mkF m 58 #[.val (.ref a1), .val (.int (Int32.ofNat n)), .val (.ref b2), .val (.int (Int32.ofNat l_)), .val (.int (Int32.ofNat i))] []))
              refine Go.step (fun _ k => XS.iinc Xg14.here hx rfl (hb hby d_prog_7_method_4_code_58) rfl (l' := #[.val (.ref a1), .val (.int (Int32.ofNat n)), .val (.ref b2), .val (.int (Int32.ofNat l_)), .val (.int ((Int32.ofNat i) + (1 : Int32)))]) rfl k) ?_
              show Go FrameEnd p e below s 1 7 (Q3 Z a1 z n h0 n0) (Tg14.setTop (mkF m 61 #[.val (.ref a1), .val (.int (Int32.ofNat n)), .val (.ref b2), .val (.int (Int32.ofNat l_)), .val (.int ((Int32.ofNat i) + (1 : Int32)))] []))
              refine Go.step (fun _ k => XS.goto Xg14.here hx rfl (pc0 := 61) (pc' := 14) rfl (hb hby d_prog_7_method_4_code_61) (by decide) (by decide) k) ?_
              show Go FrameEnd p e below s 1 7 (Q3 Z a1 z n h0 n0) (Tg14.setTop (mkF m 14 #[.val (.ref a1), .val (.int (Int32.ofNat n)), .val (.ref b2), .val (.int (Int32.ofNat l_)), .val (.int ((Int32.ofNat i) + (1 : Int32)))] []))
              rw [own_of1]
              exact ihka (i + 1) l_ _ _ _ Xg14 Ng14 eg14 Zg14 Kg14 gf14_0 gf14_1 (by omega) (by omega) (by omega) (by omega) (fun j h1 h2 => (Nat.lt_or_ge j i).elim (fun q => hc j h1 q) (fun q => by rw [show j = i from by omega]; omega))
            | succ kc ihkc =>
              intro l_ Tg14 Lg14 hg14 Xg14 Ng14 eg14 Zg14 Kg14 gf14_0 gf14_1 hk h1 h2 hc
              show Go FrameEnd p e below s 1 7 (Q3 Z a1 z n h0 n0) (Tg14.setTop (mkF m 36 #[.val (.ref a1), .val (.int (Int32.ofNat n)), .val (.ref b2), .val (.int (Int32.ofNat l_)), .val (.int (Int32.ofNat i))] []))
              refine Go.step (fun _ k => XS.iloadN Xg14.here hx rfl (hb hby d_prog_7_method_4_code_36) rfl k) ?_
              show Go FrameEnd p e below s 1 7 (Q3 Z a1 z n h0 n0) (Tg14.setTop (mkF m 37 #[.val (.ref a1), .val (.int (Int32.ofNat n)), .val (.ref b2), .val (.int (Int32.ofNat l_)), .val (.int (Int32.ofNat i))] [(.int (Int32.ofNat l_))]))
              refine Go.step (fun _ k => XS.iload Xg14.here hx rfl (hb hby d_prog_7_method_4_code_37) rfl k) ?_
              show Go FrameEnd p e below s 1 7 (Q3 Z a1 z n h0 n0) (Tg14.setTop (mkF m 39 #[.val (.ref a1), .val (.int (Int32.ofNat n)), .val (.ref b2), .val (.int (Int32.ofNat l_)), .val (.int (Int32.ofNat i))] [(.int (Int32.ofNat i)), (.int (Int32.ofNat l_))]))
              refine Go.step (fun _ k => XS.aloadN Xg14.here hx rfl (hb hby d_prog_7_method_4_code_39) rfl rfl k) ?_
              show Go FrameEnd p e below s 1 7 (Q3 Z a1 z n h0 n0) (Tg14.setTop (mkF m 40 #[.val (.ref a1), .val (.int (Int32.ofNat n)), .val (.ref b2), .val (.int (Int32.ofNat l_)), .val (.int (Int32.ofNat i))] [(.ref a1), (.int (Int32.ofNat i)), (.int (Int32.ofNat l_))]))
              refine Go.step (fun _ k => XS.iload Xg14.here hx rfl (hb hby d_prog_7_method_4_code_40) rfl k) ?_
              show Go FrameEnd p e below s 1 7 (Q3 Z a1 z n h0 n0) (Tg14.setTop (mkF m 42 #[.val (.ref a1), .val (.int (Int32.ofNat n)), .val (.ref b2), .val (.int (Int32.ofNat l_)), .val (.int (Int32.ofNat i))] [(.int (Int32.ofNat i)), (.ref a1), (.int (Int32.ofNat i)), (.int (Int32.ofNat l_))]))
              obtain ⟨c16, Ac16, Sc16, Mc16, Gc16⟩ := id gf14_0
              refine Go.step (Xg14.iaload hx (j := (Int32.ofNat i)) (v := (.int (Int32.ofNat (z i)))) (by rw [eg14]; exact Ac16.1) (State.isArrayOf_alike hZ.alike Ac16.2.1) Ac16.2.2 (own_in Sc16 (own_nn (by omega)) (by rw [own_cl (by omega)]; omega)) (Av.at (i := i) Gc16 (own_cl (by omega)) (by omega) rfl) (g := (mkF m 42 #[.val (.ref a1), .val (.int (Int32.ofNat n)), .val (.ref b2), .val (.int (Int32.ofNat l_)), .val (.int (Int32.ofNat i))] [(.int (Int32.ofNat i)), (.ref a1), (.int (Int32.ofNat i)), (.int (Int32.ofNat l_))])) rfl rfl (hb hby d_prog_7_method_4_code_42)) ?_
              show Go FrameEnd p e below s 1 7 (Q3 Z a1 z n h0 n0) (Tg14.setTop (mkF m 43 #[.val (.ref a1), .val (.int (Int32.ofNat n)), .val (.ref b2), .val (.int (Int32.ofNat l_)), .val (.int (Int32.ofNat i))] [(.int (Int32.ofNat (z i))), (.int (Int32.ofNat i)), (.int (Int32.ofNat l_))]))
              refine Go.step (fun _ k => XS.iadd Xg14.here hx rfl (hb hby d_prog_7_method_4_code_43) rfl k) ?_
              show Go FrameEnd p e below s 1 7 (Q3 Z a1 z n h0 n0) (Tg14.setTop (mkF m 44 #[.val (.ref a1), .val (.int (Int32.ofNat n)), .val (.ref b2), .val (.int (Int32.ofNat l_)), .val (.int (Int32.ofNat i))] [(.int ((Int32.ofNat i) + (Int32.ofNat (z i)))), (.int (Int32.ofNat l_))]))
              rw [own_ofa]
              show Go FrameEnd p e below s 1 7 (Q3 Z a1 z n h0 n0) (Tg14.setTop (mkF m 44 #[.val (.ref a1), .val (.int (Int32.ofNat n)), .val (.ref b2), .val (.int (Int32.ofNat l_)), .val (.int (Int32.ofNat i))] [(.int (Int32.ofNat (i + z i))), (.int (Int32.ofNat l_))]))
              refine Go.step (fun _ k => XS.icmpNo Xg14.here hx rfl (hb hby d_prog_7_method_4_code_44) rfl (flt (mt (own_lt (by omega) (by omega)).mp (by omega))).2.2.1 k) ?_
              show Go FrameEnd p e below s 1 7 (Q3 Z a1 z n h0 n0) (Tg14.setTop (mkF m 47 #[.val (.ref a1), .val (.int (Int32.ofNat n)), .val (.ref b2), .val (.int (Int32.ofNat l_)), .val (.int (Int32.ofNat i))] []))
              refine Go.step (fun _ k => XS.aloadN Xg14.here hx rfl (hb hby d_prog_7_method_4_code_47) rfl rfl k) ?_
              show Go FrameEnd p e below s 1 7 (Q3 Z a1 z n h0 n0) (Tg14.setTop (mkF m 48 #[.val (.ref a1), .val (.int (Int32.ofNat n)), .val (.ref b2), .val (.int (Int32.ofNat l_)), .val (.int (Int32.ofNat i))] [(.ref b2)]))
              refine Go.step (fun _ k => XS.iloadN Xg14.here hx rfl (hb hby d_prog_7_method_4_code_48) rfl k) ?_
              show Go FrameEnd p e below s 1 7 (Q3 Z a1 z n h0 n0) (Tg14.setTop (mkF m 49 #[.val (.ref a1), .val (.int (Int32.ofNat n)), .val (.ref b2), .val (.int (Int32.ofNat l_)), .val (.int (Int32.ofNat i))] [(.int (Int32.ofNat l_)), (.ref b2)]))
              refine Go.step (fun _ k => XS.iload Xg14.here hx rfl (hb hby d_prog_7_method_4_code_49) rfl k) ?_
              show Go FrameEnd p e below s 1 7 (Q3 Z a1 z n h0 n0) (Tg14.setTop (mkF m 51 #[.val (.ref a1), .val (.int (Int32.ofNat n)), .val (.ref b2), .val (.int (Int32.ofNat l_)), .val (.int (Int32.ofNat i))] [(.int (Int32.ofNat i)), (.int (Int32.ofNat l_)), (.ref b2)]))
              obtain ⟨c17, Ac17, Sc17, Mc17, Gc17⟩ := id gf14_1
              obtain ⟨T18, h18, X18, e18, W18, st18⟩ := stI Xg14 hx hZ eg14 Ac17 (j := (Int32.ofNat l_)) (own_in Sc17 (own_nn (by omega)) (by rw [own_cl (by omega)]; omega)) (g := (mkF m 51 #[.val (.ref a1), .val (.int (Int32.ofNat n)), .val (.ref b2), .val (.int (Int32.ofNat l_)), .val (.int (Int32.ofNat i))] [(.int (Int32.ofNat i)), (.int (Int32.ofNat l_)), (.ref b2)])) rfl rfl (hb hby d_prog_7_method_4_code_51)
              refine Go.step st18 ?_
              have N18 := Fr.snoc X18 Ng14 g_b2
              have Z18 : n0 ≤ h18.size := Nat.le_trans Zg14 (Keep.of_wr W18).1
              have K018 : Keep h0 h18 [] := Kg14.wr W18 (Or.inr sz_b2)
              have V18 : Av Z h18 b2 .int (n + 1) (aset (Rf z l_) l_ (.int (Int32.ofNat i))) := Av.set Ac17 Sc17 Mc17 Gc17 W18 (own_cl (by omega)) (own_in Sc17 (own_nn (by omega)) (by rw [own_cl (by omega)]; omega))
              have V18 : Av Z h18 b2 .int (n + 1) (Rf z (l_ + 1)) := V18.eq (fun j hj => own_Rf (per_hit (by omega) (by omega) (by omega) hc) j)
              show Go FrameEnd p e below s 1 7 (Q3 Z a1 z n h0 n0) (T18.setTop (mkF m 52 #[.val (.ref a1), .val (.int (Int32.ofNat n)), .val (.ref b2), .val (.int (Int32.ofNat l_)), .val (.int (Int32.ofNat i))] []))
              refine Go.step (fun _ k => XS.iinc X18.here hx rfl (hb hby d_prog_7_method_4_code_52) rfl (l' := #[.val (.ref a1), .val (.int (Int32.ofNat n)), .val (.ref b2), .val (.int ((Int32.ofNat l_) + (1 : Int32))), .val (.int (Int32.ofNat i))]) rfl k) ?_
              show Go FrameEnd p e below s 1 7 (Q3 Z a1 z n h0 n0) (T18.setTop (mkF m 55 #[.val (.ref a1), .val (.int (Int32.ofNat n)), .val (.ref b2), .val (.int ((Int32.ofNat l_) + (1 : Int32))), .val (.int (Int32.ofNat i))] []))
              refine Go.step (fun _ k => XS.goto X18.here hx rfl (pc0 := 55) (pc' := 36) rfl (hb hby d_prog_7_method_4_code_55) (by decide) (by decide) k) ?_
              show Go FrameEnd p e below s 1 7 (Q3 Z a1 z n h0 n0) (T18.setTop (mkF m 36 #[.val (.ref a1), .val (.int (Int32.ofNat n)), .val (.ref b2), .val (.int ((Int32.ofNat l_) + (1 : Int32))), .val (.int (Int32.ofNat i))] []))
              have f_19 := (gf14_0.other W18 ne_a1_b2)
              rw [own_of1]
              exact ihkc (l_ + 1) _ _ _ X18 N18 e18 Z18 K018 f_19 V18 (by omega) (by omega) (by omega) (fun j h1 h2 => by have := hc j h1 h2; omega)
          show Go FrameEnd p e below s 1 7 (Q3 Z a1 z n h0 n0) (Tg12.setTop (mkF m 36 #[.val (.ref a1), .val (.int (Int32.ofNat n)), .val (.ref b2), .val (.int (Int32.ofNat l_)), .val (.int (Int32.ofNat i))] []))
          exact W36_13 (i + z i + 1 - l_) l_ _ _ _ Xg12 Ng12 eg12 Zg12 Kg12 gf12_0 gf12_1 (by omega) (by omega) (by omega) hc
        | succ kb ihkb =>
          intro l_ Tg12 Lg12 hg12 Xg12 Ng12 eg12 Zg12 Kg12 gf12_0 gf12_1 hk h1 h2 hc
          show Go FrameEnd p e below s 1 7 (Q3 Z a1 z n h0 n0) (Tg12.setTop (mkF m 20 #[.val (.ref a1), .val (.int (Int32.ofNat n)), .val (.ref b2), .val (.int (Int32.ofNat l_)), .val (.int (Int32.ofNat i))] []))
          refine Go.step (fun _ k => XS.iloadN Xg12.here hx rfl (hb hby d_prog_7_method_4_code_20) rfl k) ?_
          show Go FrameEnd p e below s 1 7 (Q3 Z a1 z n h0 n0) (Tg12.setTop (mkF m 21 #[.val (.ref a1), .val (.int (Int32.ofNat n)), .val (.ref b2), .val (.int (Int32.ofNat l_)), .val (.int (Int32.ofNat i))] [(.int (Int32.ofNat l_))]))
          refine Go.step (fun _ k => XS.iload Xg12.here hx rfl (hb hby d_prog_7_method_4_code_21) rfl k) ?_
          show Go FrameEnd p e below s 1 7 (Q3 Z a1 z n h0 n0) (Tg12.setTop (mkF m 23 #[.val (.ref a1), .val (.int (Int32.ofNat n)), .val (.ref b2), .val (.int (Int32.ofNat l_)), .val (.int (Int32.ofNat i))] [(.int (Int32.ofNat i)), (.int (Int32.ofNat l_))]))
          refine Go.step (fun _ k => XS.icmpNo Xg12.here hx rfl (hb hby d_prog_7_method_4_code_23) rfl (flt (mt (own_lt (by omega) (by omega)).mp (by omega))).2.2.1 k) ?_
          show Go FrameEnd p e below s 1 7 (Q3 Z a1 z n h0 n0) (Tg12.setTop (mkF m 26 #[.val (.ref a1), .val (.int (Int32.ofNat n)), .val (.ref b2), .val (.int (Int32.ofNat l_)), .val (.int (Int32.ofNat i))] []))
          refine Go.step (fun _ k => XS.aloadN Xg12.here hx rfl (hb hby d_prog_7_method_4_code_26) rfl rfl k) ?_
          show Go FrameEnd p e below s 1 7 (Q3 Z a1 z n h0 n0) (Tg12.setTop (mkF m 27 #[.val (.ref a1), .val (.int (Int32.ofNat n)), .val (.ref b2), .val (.int (Int32.ofNat l_)), .val (.int (Int32.ofNat i))] [(.ref b2)]))
          refine Go.step (fun _ k => XS.iloadN Xg12.here hx rfl (hb hby d_prog_7_method_4_code_27) rfl k) ?_
          show Go FrameEnd p e below s 1 7 (Q3 Z a1 z n h0 n0) (Tg12.setTop (mkF m 28 #[.val (.ref a1), .val (.int (Int32.ofNat n)), .val (.ref b2), .val (.int (Int32.ofNat l_)), .val (.int (Int32.ofNat i))] [(.int (Int32.ofNat l_)), (.ref b2)]))
          refine Go.step (fun _ k => XS.iloadN Xg12.here hx rfl (hb hby d_prog_7_method_4_code_28) rfl k) ?_
          show Go FrameEnd p e below s 1 7 (Q3 Z a1 z n h0 n0) (Tg12.setTop (mkF m 29 #[.val (.ref a1), .val (.int (Int32.ofNat n)), .val (.ref b2), .val (.int (Int32.ofNat l_)), .val (.int (Int32.ofNat i))] [(.int (Int32.ofNat l_)), (.int (Int32.ofNat l_)), (.ref b2)]))
          obtain ⟨c20, Ac20, Sc20, Mc20, Gc20⟩ := id gf12_1
          obtain ⟨T21, h21, X21, e21, W21, st21⟩ := stI Xg12 hx hZ eg12 Ac20 (j := (Int32.ofNat l_)) (own_in Sc20 (own_nn (by omega)) (by rw [own_cl (by omega)]; omega)) (g := (mkF m 29 #[.val (.ref a1), .val (.int (Int32.ofNat n)), .val (.ref b2), .val (.int (Int32.ofNat l_)), .val (.int (Int32.ofNat i))] [(.int (Int32.ofNat l_)), (.int (Int32.ofNat l_)), (.ref b2)])) rfl rfl (hb hby d_prog_7_method_4_code_29)
          refine Go.step st21 ?_
          have N21 := Fr.snoc X21 Ng12 g_b2
          have Z21 : n0 ≤ h21.size := Nat.le_trans Zg12 (Keep.of_wr W21).1
          have K021 : Keep h0 h21 [] := Kg12.wr W21 (Or.inr sz_b2)
          have V21 : Av Z h21 b2 .int (n + 1) (aset (Rf z l_) l_ (.int (Int32.ofNat l_))) := Av.set Ac20 Sc20 Mc20 Gc20 W21 (own_cl (by omega)) (own_in Sc20 (own_nn (by omega)) (by rw [own_cl (by omega)]; omega))
          have V21 : Av Z h21 b2 .int (n + 1) (Rf z (l_ + 1)) := V21.eq (fun j hj => own_Rf (per_self (by omega) (fun j h1 h2 => hc j h1 (by omega))) j)
          show Go FrameEnd p e below s 1 7 (Q3 Z a1 z n h0 n0) (T21.setTop (mkF m 30 #[.val (.ref a1), .val (.int (Int32.ofNat n)), .val (.ref b2), .val (.int (Int32.ofNat l_)), .val (.int (Int32.ofNat i))] []))
          refine Go.step (fun _ k => XS.iinc X21.here hx rfl (hb hby d_prog_7_method_4_code_30) rfl (l' := #[.val (.ref a1), .val (.int (Int32.ofNat n)), .val (.ref b2), .val (.int ((Int32.ofNat l_) + (1 : Int32))), .val (.int (Int32.ofNat i))]) rfl k) ?_
          show Go FrameEnd p e below s 1 7 (Q3 Z a1 z n h0 n0) (T21.setTop (mkF m 33 #[.val (.ref a1), .val (.int (Int32.ofNat n)), .val (.ref b2), .val (.int ((Int32.ofNat l_) + (1 : Int32))), .val (.int (Int32.ofNat i))] []))
          refine Go.step (fun _ k => XS.goto X21.here hx rfl (pc0 := 33) (pc' := 20) rfl (hb hby d_prog_7_method_4_code_33) (by decide) (by decide) k) ?_
          show Go FrameEnd p e below s 1 7 (Q3 Z a1 z n h0 n0) (T21.setTop (mkF m 20 #[.val (.ref a1), .val (.int (Int32.ofNat n)), .val (.ref b2), .val (.int ((Int32.ofNat l_) + (1 : Int32))), .val (.int (Int32.ofNat i))] []))
          have f_22 := (gf12_0.other W21 ne_a1_b2)
          rw [own_of1]
          exact ihkb (l_ + 1) _ _ _ X21 N21 e21 Z21 K021 f_22 V21 (by omega) (by omega) (by omega) (fun j h1 h2 => by have := hc j h1 h2; omega)
      show Go FrameEnd p e below s 1 7 (Q3 Z a1 z n h0 n0) (Tg5.setTop (mkF m 20 #[.val (.ref a1), .val (.int (Int32.ofNat n)), .val (.ref b2), .val (.int (Int32.ofNat l_)), .val (.int (Int32.ofNat i))] []))
      exact W20_11 (i + 1 - l_) l_ _ _ _ Xg5 Ng5 eg5 Zg5 Kg5 gf5_0 gf5_1 (by omega) (by omega) (by omega) hc
  show Go FrameEnd p e below s 1 7 (Q3 Z a1 z n h0 n0) (T2.setTop (mkF m 14 #[.val (.ref a1), .val (.int (Int32.ofNat n)), .val (.ref b2), .val (.int (1 : Int32)), .val (.int (1 : Int32))] []))
  exact W14_3 (n - 1) 1 1 _ _ _ X2 N0 e2 Z2 K02 f_4 R1 (by omega) (by omega) (by omega) (by omega) (fun j h1 h2 => by omega)
def Q0 (Z : State) (p1 : Int32) (p2 : Int32) (p3 : Int32) (p4 : Int32) (p5 : Int32) (p6 : Int32) (h0 : Heap) (n0 : Nat) (v : Option Value) (h : Heap) (L : List Loc) : Prop := v = some (.int 1) ∧ Fr n0 L
theorem ef_0 (m : MethodId) (p1 : Int32) (p2 : Int32) (p3 : Int32) (p4 : Int32) (p5 : Int32) (p6 : Int32) : entryFrame m #[(.int p1), (.int p2), (.int p3), (.int p4), (.int p5), (.int p6)] maxLocals = mkF m 0 #[.val (.int p1), .val (.int p2), .val (.int p3), .val (.int p4), .val (.int p5), .val (.int p6), .unset, .unset, .unset] [] := by first | (simp [entryFrame, mkF, argsToLocals, Value.category, maxLocals]; done) | rfl
set_option maxRecDepth 65536 in
set_option maxHeartbeats 40000000 in
theorem rm0 (l : Launch) (Z : State) (a0 : Array Value) (hw : ∀ d ∈ tables_1, d.before a0 Z = true) (ws : List Jvm.Cond) (p1 : Int32) (p2 : Int32) (p3 : Int32) (p4 : Int32) (p5 : Int32) (p6 : Int32) (h0 : Heap) (n0 : Nat) (Z0 : n0 ≤ h0.size) :
    MetFree l x (head1 (Jvm.Cond.code x code maxLocals ret :: ws) room_1) (fun a U => a = #[(.int p1), (.int p2), (.int p3), (.int p4), (.int p5), (.int p6)] ∧ Z.Warmed39 U.vm ∧ U.heap = h0) (fun _ _ _ _ _ => True) (fun _ U o U' => ∃ v L, o = .returned v ∧ (Q0 Z p1 p2 p3 p4 p5 p6 h0 n0) v U'.heap L ∧ FrameEnd U o U' L 16 128) := by
  refine MetFree.of_bodySF (plainFor_of_name pn_example_zedbox_PeriodsOfEachPrefixPinLaw) hisR ?_
  intro p e s m args below meth c s₁ Bd hml0 hP hK
  obtain ⟨rfl, hZ, hh⟩ := hP
  have hx := Bd.exec
  have hby := Bd.bytes
  have hml : c.maxLocals = 9 := hml0
  have hown : s.vm.findClass "example/zedbox/PeriodsOfEachPrefixPinLaw" = some m.cls := findClass_of_methodNamed Bd.named
  have hnm := (name_of_methodNamed Bd.named Bd.method).1
  have X0 : Stand p l e room_1 s m #[(.int p1), (.int p2), (.int p3), (.int p4), (.int p5), (.int p6)] below meth c s₁ [] 0 0 := Stand.of_body Bd
  have e0 : s₁.heap = h0 := by rw [← hh, Bd.state]; rfl
  have N0 := Fr.nil n0
  show Go FrameEnd p e below s 16 128 (Q0 Z p1 p2 p3 p4 p5 p6 h0 n0) _
  refine Go.step (fun _ k => castTop (ef_0 m p1 p2 p3 p4 p5 p6) k) ?_
  show Go FrameEnd p e below s 16 128 (Q0 Z p1 p2 p3 p4 p5 p6 h0 n0) (s₁.setTop (mkF m 0 #[.val (.int p1), .val (.int p2), .val (.int p3), .val (.int p4), .val (.int p5), .val (.int p6), .unset, .unset, .unset] []))
  refine Go.step (fun _ k => XS.iloadN X0.here hx rfl (hb hby at_0) rfl k) ?_
  show Go FrameEnd p e below s 16 128 (Q0 Z p1 p2 p3 p4 p5 p6 h0 n0) (s₁.setTop (mkF m 1 #[.val (.int p1), .val (.int p2), .val (.int p3), .val (.int p4), .val (.int p5), .val (.int p6), .unset, .unset, .unset] [(.int p1)]))
  refine Go.step (X0.ldcInt hx hown (mvT hZ (hw _ (List.mem_of_getElem? (i := 0) rfl))) (g := (mkF m 1 #[.val (.int p1), .val (.int p2), .val (.int p3), .val (.int p4), .val (.int p5), .val (.int p6), .unset, .unset, .unset] [(.int p1)])) rfl (hb hby at_1)) ?_
  show Go FrameEnd p e below s 16 128 (Q0 Z p1 p2 p3 p4 p5 p6 h0 n0) (s₁.setTop (mkF m 3 #[.val (.int p1), .val (.int p2), .val (.int p3), .val (.int p4), .val (.int p5), .val (.int p6), .unset, .unset, .unset] [(.int (2147483647 : Int32)), (.int p1)]))
  refine Go.step (fun _ k => XS.iand X0.here hx rfl (hb hby at_3) rfl k) ?_
  show Go FrameEnd p e below s 16 128 (Q0 Z p1 p2 p3 p4 p5 p6 h0 n0) (s₁.setTop (mkF m 4 #[.val (.int p1), .val (.int p2), .val (.int p3), .val (.int p4), .val (.int p5), .val (.int p6), .unset, .unset, .unset] [(.int (p1 &&& (2147483647 : Int32)))]))
  refine Go.step (fun _ k => XS.bipush X0.here hx rfl (hb hby at_4) k) ?_
  show Go FrameEnd p e below s 16 128 (Q0 Z p1 p2 p3 p4 p5 p6 h0 n0) (s₁.setTop (mkF m 6 #[.val (.int p1), .val (.int p2), .val (.int p3), .val (.int p4), .val (.int p5), .val (.int p6), .unset, .unset, .unset] [(.int (7 : Int32)), (.int (p1 &&& (2147483647 : Int32)))]))
  refine Go.step (fun _ k => iremM X0 hx rfl (hb hby at_6) rfl (by decide) k) ?_
  show Go FrameEnd p e below s 16 128 (Q0 Z p1 p2 p3 p4 p5 p6 h0 n0) (s₁.setTop (mkF m 7 #[.val (.int p1), .val (.int p2), .val (.int p3), .val (.int p4), .val (.int p5), .val (.int p6), .unset, .unset, .unset] [(.int ((p1 &&& (2147483647 : Int32)) % (7 : Int32)))]))
  rcases own_mod7 p1 with q | q | q | q | q | q | q
  · skip
    rw [q]
    show Go FrameEnd p e below s 16 128 (Q0 Z p1 p2 p3 p4 p5 p6 h0 n0) (s₁.setTop (mkF m 7 #[.val (.int p1), .val (.int p2), .val (.int p3), .val (.int p4), .val (.int p5), .val (.int p6), .unset, .unset, .unset] [(.int (0 : Int32))]))
    refine Go.step (fun _ k => XS.istore X0.here hx rfl (hb hby at_7) rfl (l' := #[.val (.int p1), .val (.int p2), .val (.int p3), .val (.int p4), .val (.int p5), .val (.int p6), .val (.int (0 : Int32)), .unset, .unset]) rfl k) ?_
    show Go FrameEnd p e below s 16 128 (Q0 Z p1 p2 p3 p4 p5 p6 h0 n0) (s₁.setTop (mkF m 9 #[.val (.int p1), .val (.int p2), .val (.int p3), .val (.int p4), .val (.int p5), .val (.int p6), .val (.int (0 : Int32)), .unset, .unset] []))
    refine Go.step (fun _ k => XS.iload X0.here hx rfl (hb hby at_9) rfl k) ?_
    show Go FrameEnd p e below s 16 128 (Q0 Z p1 p2 p3 p4 p5 p6 h0 n0) (s₁.setTop (mkF m 11 #[.val (.int p1), .val (.int p2), .val (.int p3), .val (.int p4), .val (.int p5), .val (.int p6), .val (.int (0 : Int32)), .unset, .unset] [(.int (0 : Int32))]))
    obtain ⟨T1, h1, k1, X1, e1, E1, A1, st1⟩ := newP X0 hx hZ (hw _ (List.mem_of_getElem? (i := 1) rfl)) e0 (g := (mkF m 11 #[.val (.int p1), .val (.int p2), .val (.int p3), .val (.int p4), .val (.int p5), .val (.int p6), .val (.int (0 : Int32)), .unset, .unset] [(.int (0 : Int32))])) rfl (hb hby at_11) rfl (by decide) (cap := 0) (by decide) (by decide) (by decide) (by decide)
    refine Go.step st1 ?_
    obtain ⟨b1, g1⟩ : ∃ z, z = h0.size := ⟨_, rfl⟩
    rw [← g1] at A1 ⊢
    have g_b1 : n0 ≤ b1 := Nat.le_trans Z0 (Nat.le_of_eq g1.symm)
    have Z1 : n0 ≤ h1.size := Nat.le_trans Z0 E1.1
    have V1 : Av Z h1 b1 .int 0 (fun _ => (.int (0 : Int32))) := Av.new A1 (by decide) rfl
    show Go FrameEnd p e below s 16 128 (Q0 Z p1 p2 p3 p4 p5 p6 h0 n0) (T1.setTop (mkF m 13 #[.val (.int p1), .val (.int p2), .val (.int p3), .val (.int p4), .val (.int p5), .val (.int p6), .val (.int (0 : Int32)), .unset, .unset] [(.ref b1)]))
    refine Go.step (fun _ k => XS.astore X1.here hx rfl (hb hby at_13) rfl rfl (l' := #[.val (.int p1), .val (.int p2), .val (.int p3), .val (.int p4), .val (.int p5), .val (.int p6), .val (.int (0 : Int32)), .val (.ref b1), .unset]) rfl k) ?_
    show Go FrameEnd p e below s 16 128 (Q0 Z p1 p2 p3 p4 p5 p6 h0 n0) (T1.setTop (mkF m 15 #[.val (.int p1), .val (.int p2), .val (.int p3), .val (.int p4), .val (.int p5), .val (.int p6), .val (.int (0 : Int32)), .val (.ref b1), .unset] []))
    refine Go.step (fun _ k => XS.iload X1.here hx rfl (hb hby at_15) rfl k) ?_
    show Go FrameEnd p e below s 16 128 (Q0 Z p1 p2 p3 p4 p5 p6 h0 n0) (T1.setTop (mkF m 17 #[.val (.int p1), .val (.int p2), .val (.int p3), .val (.int p4), .val (.int p5), .val (.int p6), .val (.int (0 : Int32)), .val (.ref b1), .unset] [(.int (0 : Int32))]))
    refine Go.step (fun _ k => XS.ifYes X1.here hx rfl (pc0 := 17) (pc' := 26) rfl (hb hby at_17) rfl ((if0 _ _).trans (flt (by decide)).2.2.2) (by decide) (by decide) k) ?_
    show Go FrameEnd p e below s 16 128 (Q0 Z p1 p2 p3 p4 p5 p6 h0 n0) (T1.setTop (mkF m 26 #[.val (.int p1), .val (.int p2), .val (.int p3), .val (.int p4), .val (.int p5), .val (.int p6), .val (.int (0 : Int32)), .val (.ref b1), .unset] []))
    refine Go.step (fun _ k => XS.iload X1.here hx rfl (hb hby at_26) rfl k) ?_
    show Go FrameEnd p e below s 16 128 (Q0 Z p1 p2 p3 p4 p5 p6 h0 n0) (T1.setTop (mkF m 28 #[.val (.int p1), .val (.int p2), .val (.int p3), .val (.int p4), .val (.int p5), .val (.int p6), .val (.int (0 : Int32)), .val (.ref b1), .unset] [(.int (0 : Int32))]))
    refine Go.step (fun _ k => XS.iconst X1.here hx rfl (hb hby at_28) k) ?_
    show Go FrameEnd p e below s 16 128 (Q0 Z p1 p2 p3 p4 p5 p6 h0 n0) (T1.setTop (mkF m 29 #[.val (.int p1), .val (.int p2), .val (.int p3), .val (.int p4), .val (.int p5), .val (.int p6), .val (.int (0 : Int32)), .val (.ref b1), .unset] [(.int (1 : Int32)), (.int (0 : Int32))]))
    refine Go.step (fun _ k => XS.icmpYes X1.here hx rfl (pc0 := 29) (pc' := 47) rfl (hb hby at_29) rfl (flt (by decide)).2.2.2 (by decide) (by decide) k) ?_
    show Go FrameEnd p e below s 16 128 (Q0 Z p1 p2 p3 p4 p5 p6 h0 n0) (T1.setTop (mkF m 47 #[.val (.int p1), .val (.int p2), .val (.int p3), .val (.int p4), .val (.int p5), .val (.int p6), .val (.int (0 : Int32)), .val (.ref b1), .unset] []))
    refine Go.step (fun _ k => XS.iload X1.here hx rfl (hb hby at_47) rfl k) ?_
    show Go FrameEnd p e below s 16 128 (Q0 Z p1 p2 p3 p4 p5 p6 h0 n0) (T1.setTop (mkF m 49 #[.val (.int p1), .val (.int p2), .val (.int p3), .val (.int p4), .val (.int p5), .val (.int p6), .val (.int (0 : Int32)), .val (.ref b1), .unset] [(.int (0 : Int32))]))
    refine Go.step (fun _ k => XS.iconst X1.here hx rfl (hb hby at_49) k) ?_
    show Go FrameEnd p e below s 16 128 (Q0 Z p1 p2 p3 p4 p5 p6 h0 n0) (T1.setTop (mkF m 50 #[.val (.int p1), .val (.int p2), .val (.int p3), .val (.int p4), .val (.int p5), .val (.int p6), .val (.int (0 : Int32)), .val (.ref b1), .unset] [(.int (2 : Int32)), (.int (0 : Int32))]))
    refine Go.step (fun _ k => XS.icmpYes X1.here hx rfl (pc0 := 50) (pc' := 68) rfl (hb hby at_50) rfl (flt (by decide)).2.2.2 (by decide) (by decide) k) ?_
    show Go FrameEnd p e below s 16 128 (Q0 Z p1 p2 p3 p4 p5 p6 h0 n0) (T1.setTop (mkF m 68 #[.val (.int p1), .val (.int p2), .val (.int p3), .val (.int p4), .val (.int p5), .val (.int p6), .val (.int (0 : Int32)), .val (.ref b1), .unset] []))
    refine Go.step (fun _ k => XS.iload X1.here hx rfl (hb hby at_68) rfl k) ?_
    show Go FrameEnd p e below s 16 128 (Q0 Z p1 p2 p3 p4 p5 p6 h0 n0) (T1.setTop (mkF m 70 #[.val (.int p1), .val (.int p2), .val (.int p3), .val (.int p4), .val (.int p5), .val (.int p6), .val (.int (0 : Int32)), .val (.ref b1), .unset] [(.int (0 : Int32))]))
    refine Go.step (fun _ k => XS.iconst X1.here hx rfl (hb hby at_70) k) ?_
    show Go FrameEnd p e below s 16 128 (Q0 Z p1 p2 p3 p4 p5 p6 h0 n0) (T1.setTop (mkF m 71 #[.val (.int p1), .val (.int p2), .val (.int p3), .val (.int p4), .val (.int p5), .val (.int p6), .val (.int (0 : Int32)), .val (.ref b1), .unset] [(.int (3 : Int32)), (.int (0 : Int32))]))
    refine Go.step (fun _ k => XS.icmpYes X1.here hx rfl (pc0 := 71) (pc' := 89) rfl (hb hby at_71) rfl (flt (by decide)).2.2.2 (by decide) (by decide) k) ?_
    show Go FrameEnd p e below s 16 128 (Q0 Z p1 p2 p3 p4 p5 p6 h0 n0) (T1.setTop (mkF m 89 #[.val (.int p1), .val (.int p2), .val (.int p3), .val (.int p4), .val (.int p5), .val (.int p6), .val (.int (0 : Int32)), .val (.ref b1), .unset] []))
    refine Go.step (fun _ k => XS.iload X1.here hx rfl (hb hby at_89) rfl k) ?_
    show Go FrameEnd p e below s 16 128 (Q0 Z p1 p2 p3 p4 p5 p6 h0 n0) (T1.setTop (mkF m 91 #[.val (.int p1), .val (.int p2), .val (.int p3), .val (.int p4), .val (.int p5), .val (.int p6), .val (.int (0 : Int32)), .val (.ref b1), .unset] [(.int (0 : Int32))]))
    refine Go.step (fun _ k => XS.iconst X1.here hx rfl (hb hby at_91) k) ?_
    show Go FrameEnd p e below s 16 128 (Q0 Z p1 p2 p3 p4 p5 p6 h0 n0) (T1.setTop (mkF m 92 #[.val (.int p1), .val (.int p2), .val (.int p3), .val (.int p4), .val (.int p5), .val (.int p6), .val (.int (0 : Int32)), .val (.ref b1), .unset] [(.int (4 : Int32)), (.int (0 : Int32))]))
    refine Go.step (fun _ k => XS.icmpYes X1.here hx rfl (pc0 := 92) (pc' := 111) rfl (hb hby at_92) rfl (flt (by decide)).2.2.2 (by decide) (by decide) k) ?_
    show Go FrameEnd p e below s 16 128 (Q0 Z p1 p2 p3 p4 p5 p6 h0 n0) (T1.setTop (mkF m 111 #[.val (.int p1), .val (.int p2), .val (.int p3), .val (.int p4), .val (.int p5), .val (.int p6), .val (.int (0 : Int32)), .val (.ref b1), .unset] []))
    refine Go.step (fun _ k => XS.iload X1.here hx rfl (hb hby at_111) rfl k) ?_
    show Go FrameEnd p e below s 16 128 (Q0 Z p1 p2 p3 p4 p5 p6 h0 n0) (T1.setTop (mkF m 113 #[.val (.int p1), .val (.int p2), .val (.int p3), .val (.int p4), .val (.int p5), .val (.int p6), .val (.int (0 : Int32)), .val (.ref b1), .unset] [(.int (0 : Int32))]))
    refine Go.step (fun _ k => XS.iconst X1.here hx rfl (hb hby at_113) k) ?_
    show Go FrameEnd p e below s 16 128 (Q0 Z p1 p2 p3 p4 p5 p6 h0 n0) (T1.setTop (mkF m 114 #[.val (.int p1), .val (.int p2), .val (.int p3), .val (.int p4), .val (.int p5), .val (.int p6), .val (.int (0 : Int32)), .val (.ref b1), .unset] [(.int (5 : Int32)), (.int (0 : Int32))]))
    refine Go.step (fun _ k => XS.icmpYes X1.here hx rfl (pc0 := 114) (pc' := 133) rfl (hb hby at_114) rfl (flt (by decide)).2.2.2 (by decide) (by decide) k) ?_
    show Go FrameEnd p e below s 16 128 (Q0 Z p1 p2 p3 p4 p5 p6 h0 n0) (T1.setTop (mkF m 133 #[.val (.int p1), .val (.int p2), .val (.int p3), .val (.int p4), .val (.int p5), .val (.int p6), .val (.int (0 : Int32)), .val (.ref b1), .unset] []))
    have Vz : Av Z h1 b1 .int 0 (fun j => .int (Int32.ofNat ((zsel 0 (0 : Int32) (0 : Int32) (0 : Int32) (0 : Int32) (0 : Int32)) j))) := (V1).eq (fun j hj => by
      omega)
    have hz : ∀ j, 1 ≤ j → j < 0 → j + (zsel 0 (0 : Int32) (0 : Int32) (0 : Int32) (0 : Int32) (0 : Int32)) j ≤ 0 := fun j h1 h2 => by
      omega
    refine Go.step (fun _ k => XS.aload X1.here hx rfl (hb hby at_133) rfl rfl k) ?_
    show Go FrameEnd p e below s 16 128 (Q0 Z p1 p2 p3 p4 p5 p6 h0 n0) (T1.setTop (mkF m 135 #[.val (.int p1), .val (.int p2), .val (.int p3), .val (.int p4), .val (.int p5), .val (.int p6), .val (.int (0 : Int32)), .val (.ref b1), .unset] [(.ref b1)]))
    obtain ⟨_, _, ⟨T2, L2, k2, n2⟩, -, X2, ⟨Lc2, hQ2, l2, y2, z2⟩, st2⟩ := Jvm.LawKit.callS X1 hx (y := (⟨"example/zedbox/Periods", "ofEachPrefix", "([I)[I"⟩ : MethodName)) hown (mvT hZ (hw _ (List.mem_of_getElem? (i := 2) rfl))) (mvT hZ (hw _ (List.mem_of_getElem? (i := 3) rfl))) (mvT hZ (hw _ (List.mem_of_getElem? (i := 4) rfl))) (mvT hZ (hw _ (List.mem_of_getElem? (i := 5) rfl))) (by decide) (backOf (W := 0) (rm3 l Z a0 hw [] b1 (zsel 0 (0 : Int32) (0 : Int32) (0 : Int32) (0 : Int32) (0 : Int32)) 0 h1 n0 Z1 Vz (by decide) hz) hZ (hw _ (List.mem_of_getElem? (i := 5) rfl)) (hw _ (List.mem_of_getElem? (i := 4) rfl)) (by decide) (by decide)) (g := (mkF m 135 #[.val (.int p1), .val (.int p2), .val (.int p3), .val (.int p4), .val (.int p5), .val (.int p6), .val (.int (0 : Int32)), .val (.ref b1), .unset] [(.ref b1)])) rfl (by rw [hml]; rfl) (argsL := [(.ref b1)]) (rest := []) (lenOf pd___I__I rfl) rfl (by show 2 * 0 + _ ≤ _; exact Nat.le_of_eq rfl) (hb hby at_135) (fun _ _ => ⟨rfl, e1, (by decide : 1 + 1 ≤ _), (by decide : 0 + 7 ≤ _)⟩)
    dsimp only [Pt.U, Pt.locs, Pt.cells, Pt.slots] at X2 l2 y2 z2 st2 hQ2
    subst l2 y2 z2
    obtain ⟨b2a, rfl, N2q, szb2a, K2_0, xA2_1⟩ := hQ2
    have N2 := Fr.app N0 N2q
    have ne_b1_b2a : b1 ≠ b2a := Nat.ne_of_lt (Nat.lt_of_lt_of_le Vz.lt szb2a)
    have g_b2a : n0 ≤ b2a := Nat.le_trans Z1 szb2a
    have Z2 : n0 ≤ T2.heap.size := Nat.le_trans Z1 K2_0.1
    refine Go.step st2 ?_
    show Go FrameEnd p e below s 16 128 (Q0 Z p1 p2 p3 p4 p5 p6 h0 n0) (T2.setTop (mkF m 138 #[.val (.int p1), .val (.int p2), .val (.int p3), .val (.int p4), .val (.int p5), .val (.int p6), .val (.int (0 : Int32)), .val (.ref b1), .unset] [(.ref b2a)]))
    refine Go.step (fun _ k => XS.astore X2.here hx rfl (hb hby at_138) rfl rfl (l' := #[.val (.int p1), .val (.int p2), .val (.int p3), .val (.int p4), .val (.int p5), .val (.int p6), .val (.int (0 : Int32)), .val (.ref b1), .val (.ref b2a)]) rfl k) ?_
    show Go FrameEnd p e below s 16 128 (Q0 Z p1 p2 p3 p4 p5 p6 h0 n0) (T2.setTop (mkF m 140 #[.val (.int p1), .val (.int p2), .val (.int p3), .val (.int p4), .val (.int p5), .val (.int p6), .val (.int (0 : Int32)), .val (.ref b1), .val (.ref b2a)] []))
    refine Go.step (fun _ k => XS.aload X2.here hx rfl (hb hby at_140) rfl rfl k) ?_
    show Go FrameEnd p e below s 16 128 (Q0 Z p1 p2 p3 p4 p5 p6 h0 n0) (T2.setTop (mkF m 142 #[.val (.int p1), .val (.int p2), .val (.int p3), .val (.int p4), .val (.int p5), .val (.int p6), .val (.int (0 : Int32)), .val (.ref b1), .val (.ref b2a)] [(.ref b2a)]))
    refine Go.step (fun _ k => XS.ifnullNo X2.here hx rfl (hb hby at_142) rfl k) ?_
    show Go FrameEnd p e below s 16 128 (Q0 Z p1 p2 p3 p4 p5 p6 h0 n0) (T2.setTop (mkF m 145 #[.val (.int p1), .val (.int p2), .val (.int p3), .val (.int p4), .val (.int p5), .val (.int p6), .val (.int (0 : Int32)), .val (.ref b1), .val (.ref b2a)] []))
    refine Go.step (fun _ k => XS.aload X2.here hx rfl (hb hby at_145) rfl rfl k) ?_
    show Go FrameEnd p e below s 16 128 (Q0 Z p1 p2 p3 p4 p5 p6 h0 n0) (T2.setTop (mkF m 147 #[.val (.int p1), .val (.int p2), .val (.int p3), .val (.int p4), .val (.int p5), .val (.int p6), .val (.int (0 : Int32)), .val (.ref b1), .val (.ref b2a)] [(.ref b2a)]))
    obtain ⟨c3, Ac3, Sc3, Mc3, Gc3⟩ := id xA2_1
    refine Go.step (X2.arraylength hx Ac3.1 (State.isArrayOf_alike hZ.alike Ac3.2.1) (g := (mkF m 147 #[.val (.int p1), .val (.int p2), .val (.int p3), .val (.int p4), .val (.int p5), .val (.int p6), .val (.int (0 : Int32)), .val (.ref b1), .val (.ref b2a)] [(.ref b2a)])) rfl rfl (hb hby at_147)) ?_
    rw [show c3.slots.size.toInt32 = (1 : Int32) from congrArg Nat.toInt32 Sc3]
    show Go FrameEnd p e below s 16 128 (Q0 Z p1 p2 p3 p4 p5 p6 h0 n0) (T2.setTop (mkF m 148 #[.val (.int p1), .val (.int p2), .val (.int p3), .val (.int p4), .val (.int p5), .val (.int p6), .val (.int (0 : Int32)), .val (.ref b1), .val (.ref b2a)] [(.int (1 : Int32))]))
    refine Go.step (fun _ k => XS.iload X2.here hx rfl (hb hby at_148) rfl k) ?_
    show Go FrameEnd p e below s 16 128 (Q0 Z p1 p2 p3 p4 p5 p6 h0 n0) (T2.setTop (mkF m 150 #[.val (.int p1), .val (.int p2), .val (.int p3), .val (.int p4), .val (.int p5), .val (.int p6), .val (.int (0 : Int32)), .val (.ref b1), .val (.ref b2a)] [(.int (0 : Int32)), (.int (1 : Int32))]))
    refine Go.step (fun _ k => XS.iconst X2.here hx rfl (hb hby at_150) k) ?_
    show Go FrameEnd p e below s 16 128 (Q0 Z p1 p2 p3 p4 p5 p6 h0 n0) (T2.setTop (mkF m 151 #[.val (.int p1), .val (.int p2), .val (.int p3), .val (.int p4), .val (.int p5), .val (.int p6), .val (.int (0 : Int32)), .val (.ref b1), .val (.ref b2a)] [(.int (1 : Int32)), (.int (0 : Int32)), (.int (1 : Int32))]))
    refine Go.step (fun _ k => XS.iadd X2.here hx rfl (hb hby at_151) rfl k) ?_
    show Go FrameEnd p e below s 16 128 (Q0 Z p1 p2 p3 p4 p5 p6 h0 n0) (T2.setTop (mkF m 152 #[.val (.int p1), .val (.int p2), .val (.int p3), .val (.int p4), .val (.int p5), .val (.int p6), .val (.int (0 : Int32)), .val (.ref b1), .val (.ref b2a)] [(.int (1 : Int32)), (.int (1 : Int32))]))
    refine Go.step (fun _ k => XS.icmpYes X2.here hx rfl (pc0 := 152) (pc' := 157) rfl (hb hby at_152) rfl (teq rfl).1 (by decide) (by decide) k) ?_
    show Go FrameEnd p e below s 16 128 (Q0 Z p1 p2 p3 p4 p5 p6 h0 n0) (T2.setTop (mkF m 157 #[.val (.int p1), .val (.int p2), .val (.int p3), .val (.int p4), .val (.int p5), .val (.int p6), .val (.int (0 : Int32)), .val (.ref b1), .val (.ref b2a)] []))
    refine Go.step (fun _ k => XS.aload X2.here hx rfl (hb hby at_157) rfl rfl k) ?_
    show Go FrameEnd p e below s 16 128 (Q0 Z p1 p2 p3 p4 p5 p6 h0 n0) (T2.setTop (mkF m 159 #[.val (.int p1), .val (.int p2), .val (.int p3), .val (.int p4), .val (.int p5), .val (.int p6), .val (.int (0 : Int32)), .val (.ref b1), .val (.ref b2a)] [(.ref b2a)]))
    refine Go.step (fun _ k => XS.aload X2.here hx rfl (hb hby at_159) rfl rfl k) ?_
    show Go FrameEnd p e below s 16 128 (Q0 Z p1 p2 p3 p4 p5 p6 h0 n0) (T2.setTop (mkF m 161 #[.val (.int p1), .val (.int p2), .val (.int p3), .val (.int p4), .val (.int p5), .val (.int p6), .val (.int (0 : Int32)), .val (.ref b1), .val (.ref b2a)] [(.ref b1), (.ref b2a)]))
    refine Go.step (fun _ k => XS.iconst X2.here hx rfl (hb hby at_161) k) ?_
    show Go FrameEnd p e below s 16 128 (Q0 Z p1 p2 p3 p4 p5 p6 h0 n0) (T2.setTop (mkF m 162 #[.val (.int p1), .val (.int p2), .val (.int p3), .val (.int p4), .val (.int p5), .val (.int p6), .val (.int (0 : Int32)), .val (.ref b1), .val (.ref b2a)] [(.int (0 : Int32)), (.ref b1), (.ref b2a)]))
    have f_4 := (Vz.keep K2_0 nin0)
    obtain ⟨_, _, ⟨T5, L5, k5, n5⟩, -, X5, ⟨Lc5, hQ5, l5, y5, z5⟩, st5⟩ := Jvm.LawKit.callS X2 hx (y := (⟨"example/zedbox/PeriodsOfEachPrefixPinLaw", "ok", "([I[II)Z"⟩ : MethodName)) hown (mvT hZ (hw _ (List.mem_of_getElem? (i := 6) rfl))) (mvT hZ (hw _ (List.mem_of_getElem? (i := 7) rfl))) (mvT hZ (hw _ (List.mem_of_getElem? (i := 8) rfl))) (mvT hZ (hw _ (List.mem_of_getElem? (i := 9) rfl))) (by decide) (backOf (W := 0) (rm2 l Z a0 hw [] b2a b1 (zsel 0 (0 : Int32) (0 : Int32) (0 : Int32) (0 : Int32) (0 : Int32)) 0 0 T2.heap f_4 xA2_1 (by decide) hz) hZ (hw _ (List.mem_of_getElem? (i := 9) rfl)) (hw _ (List.mem_of_getElem? (i := 8) rfl)) (by decide) (by decide)) (g := (mkF m 162 #[.val (.int p1), .val (.int p2), .val (.int p3), .val (.int p4), .val (.int p5), .val (.int p6), .val (.int (0 : Int32)), .val (.ref b1), .val (.ref b2a)] [(.int (0 : Int32)), (.ref b1), (.ref b2a)])) rfl (by rw [hml]; rfl) (argsL := [(.ref b2a), (.ref b1), (.int (0 : Int32))]) (rest := []) (lenOf pd___I_II_Z rfl) rfl (by show 2 * 0 + _ ≤ _; exact Nat.le_of_eq rfl) (hb hby at_162) (fun _ _ => ⟨rfl, rfl, (by decide : 2 + 0 ≤ _), (by decide : 7 + 0 ≤ _)⟩)
    dsimp only [Pt.U, Pt.locs, Pt.cells, Pt.slots] at X5 l5 y5 z5 st5 hQ5
    subst l5 y5 z5
    obtain ⟨rfl, rfl, e5⟩ := hQ5
    have N5 := Fr.app N2 (Fr.nil n0)
    refine Go.step st5 ?_
    show Go FrameEnd p e below s 16 128 (Q0 Z p1 p2 p3 p4 p5 p6 h0 n0) (T5.setTop (mkF m 165 #[.val (.int p1), .val (.int p2), .val (.int p3), .val (.int p4), .val (.int p5), .val (.int p6), .val (.int (0 : Int32)), .val (.ref b1), .val (.ref b2a)] [(.int (1 : Int32))]))
    refine Go.step (fun _ k => XS.ifNo X5.here hx rfl (hb hby at_165) rfl ((if0 _ _).trans (feq (by decide)).1) k) ?_
    show Go FrameEnd p e below s 16 128 (Q0 Z p1 p2 p3 p4 p5 p6 h0 n0) (T5.setTop (mkF m 168 #[.val (.int p1), .val (.int p2), .val (.int p3), .val (.int p4), .val (.int p5), .val (.int p6), .val (.int (0 : Int32)), .val (.ref b1), .val (.ref b2a)] []))
    refine Go.step (fun _ k => XS.aload X5.here hx rfl (hb hby at_168) rfl rfl k) ?_
    show Go FrameEnd p e below s 16 128 (Q0 Z p1 p2 p3 p4 p5 p6 h0 n0) (T5.setTop (mkF m 170 #[.val (.int p1), .val (.int p2), .val (.int p3), .val (.int p4), .val (.int p5), .val (.int p6), .val (.int (0 : Int32)), .val (.ref b1), .val (.ref b2a)] [(.ref b2a)]))
    refine Go.step (fun _ k => XS.aload X5.here hx rfl (hb hby at_170) rfl rfl k) ?_
    show Go FrameEnd p e below s 16 128 (Q0 Z p1 p2 p3 p4 p5 p6 h0 n0) (T5.setTop (mkF m 172 #[.val (.int p1), .val (.int p2), .val (.int p3), .val (.int p4), .val (.int p5), .val (.int p6), .val (.int (0 : Int32)), .val (.ref b1), .val (.ref b2a)] [(.ref b1), (.ref b2a)]))
    refine Go.step (fun _ k => XS.iconst X5.here hx rfl (hb hby at_172) k) ?_
    show Go FrameEnd p e below s 16 128 (Q0 Z p1 p2 p3 p4 p5 p6 h0 n0) (T5.setTop (mkF m 173 #[.val (.int p1), .val (.int p2), .val (.int p3), .val (.int p4), .val (.int p5), .val (.int p6), .val (.int (0 : Int32)), .val (.ref b1), .val (.ref b2a)] [(.int (1 : Int32)), (.ref b1), (.ref b2a)]))
    obtain ⟨_, _, ⟨T6, L6, k6, n6⟩, -, X6, ⟨Lc6, hQ6, l6, y6, z6⟩, st6⟩ := Jvm.LawKit.callS X5 hx (y := (⟨"example/zedbox/PeriodsOfEachPrefixPinLaw", "ok", "([I[II)Z"⟩ : MethodName)) hown (mvT hZ (hw _ (List.mem_of_getElem? (i := 6) rfl))) (mvT hZ (hw _ (List.mem_of_getElem? (i := 7) rfl))) (mvT hZ (hw _ (List.mem_of_getElem? (i := 8) rfl))) (mvT hZ (hw _ (List.mem_of_getElem? (i := 9) rfl))) (by decide) (backOf (W := 0) (rm2 l Z a0 hw [] b2a b1 (zsel 0 (0 : Int32) (0 : Int32) (0 : Int32) (0 : Int32) (0 : Int32)) 1 0 T2.heap f_4 xA2_1 (by decide) hz) hZ (hw _ (List.mem_of_getElem? (i := 9) rfl)) (hw _ (List.mem_of_getElem? (i := 8) rfl)) (by decide) (by decide)) (g := (mkF m 173 #[.val (.int p1), .val (.int p2), .val (.int p3), .val (.int p4), .val (.int p5), .val (.int p6), .val (.int (0 : Int32)), .val (.ref b1), .val (.ref b2a)] [(.int (1 : Int32)), (.ref b1), (.ref b2a)])) rfl (by rw [hml]; rfl) (argsL := [(.ref b2a), (.ref b1), (.int (1 : Int32))]) (rest := []) (lenOf pd___I_II_Z rfl) rfl (by show 2 * 0 + _ ≤ _; exact Nat.le_of_eq rfl) (hb hby at_173) (fun _ _ => ⟨rfl, e5, (by decide : 2 + 0 ≤ _), (by decide : 7 + 0 ≤ _)⟩)
    dsimp only [Pt.U, Pt.locs, Pt.cells, Pt.slots] at X6 l6 y6 z6 st6 hQ6
    subst l6 y6 z6
    obtain ⟨rfl, rfl, e6⟩ := hQ6
    have N6 := Fr.app N5 (Fr.nil n0)
    refine Go.step st6 ?_
    show Go FrameEnd p e below s 16 128 (Q0 Z p1 p2 p3 p4 p5 p6 h0 n0) (T6.setTop (mkF m 176 #[.val (.int p1), .val (.int p2), .val (.int p3), .val (.int p4), .val (.int p5), .val (.int p6), .val (.int (0 : Int32)), .val (.ref b1), .val (.ref b2a)] [(.int (1 : Int32))]))
    refine Go.step (fun _ k => XS.ifNo X6.here hx rfl (hb hby at_176) rfl ((if0 _ _).trans (feq (by decide)).1) k) ?_
    show Go FrameEnd p e below s 16 128 (Q0 Z p1 p2 p3 p4 p5 p6 h0 n0) (T6.setTop (mkF m 179 #[.val (.int p1), .val (.int p2), .val (.int p3), .val (.int p4), .val (.int p5), .val (.int p6), .val (.int (0 : Int32)), .val (.ref b1), .val (.ref b2a)] []))
    refine Go.step (fun _ k => XS.aload X6.here hx rfl (hb hby at_179) rfl rfl k) ?_
    show Go FrameEnd p e below s 16 128 (Q0 Z p1 p2 p3 p4 p5 p6 h0 n0) (T6.setTop (mkF m 181 #[.val (.int p1), .val (.int p2), .val (.int p3), .val (.int p4), .val (.int p5), .val (.int p6), .val (.int (0 : Int32)), .val (.ref b1), .val (.ref b2a)] [(.ref b2a)]))
    refine Go.step (fun _ k => XS.aload X6.here hx rfl (hb hby at_181) rfl rfl k) ?_
    show Go FrameEnd p e below s 16 128 (Q0 Z p1 p2 p3 p4 p5 p6 h0 n0) (T6.setTop (mkF m 183 #[.val (.int p1), .val (.int p2), .val (.int p3), .val (.int p4), .val (.int p5), .val (.int p6), .val (.int (0 : Int32)), .val (.ref b1), .val (.ref b2a)] [(.ref b1), (.ref b2a)]))
    refine Go.step (fun _ k => XS.iconst X6.here hx rfl (hb hby at_183) k) ?_
    show Go FrameEnd p e below s 16 128 (Q0 Z p1 p2 p3 p4 p5 p6 h0 n0) (T6.setTop (mkF m 184 #[.val (.int p1), .val (.int p2), .val (.int p3), .val (.int p4), .val (.int p5), .val (.int p6), .val (.int (0 : Int32)), .val (.ref b1), .val (.ref b2a)] [(.int (2 : Int32)), (.ref b1), (.ref b2a)]))
    obtain ⟨_, _, ⟨T7, L7, k7, n7⟩, -, X7, ⟨Lc7, hQ7, l7, y7, z7⟩, st7⟩ := Jvm.LawKit.callS X6 hx (y := (⟨"example/zedbox/PeriodsOfEachPrefixPinLaw", "ok", "([I[II)Z"⟩ : MethodName)) hown (mvT hZ (hw _ (List.mem_of_getElem? (i := 6) rfl))) (mvT hZ (hw _ (List.mem_of_getElem? (i := 7) rfl))) (mvT hZ (hw _ (List.mem_of_getElem? (i := 8) rfl))) (mvT hZ (hw _ (List.mem_of_getElem? (i := 9) rfl))) (by decide) (backOf (W := 0) (rm2 l Z a0 hw [] b2a b1 (zsel 0 (0 : Int32) (0 : Int32) (0 : Int32) (0 : Int32) (0 : Int32)) 2 0 T2.heap f_4 xA2_1 (by decide) hz) hZ (hw _ (List.mem_of_getElem? (i := 9) rfl)) (hw _ (List.mem_of_getElem? (i := 8) rfl)) (by decide) (by decide)) (g := (mkF m 184 #[.val (.int p1), .val (.int p2), .val (.int p3), .val (.int p4), .val (.int p5), .val (.int p6), .val (.int (0 : Int32)), .val (.ref b1), .val (.ref b2a)] [(.int (2 : Int32)), (.ref b1), (.ref b2a)])) rfl (by rw [hml]; rfl) (argsL := [(.ref b2a), (.ref b1), (.int (2 : Int32))]) (rest := []) (lenOf pd___I_II_Z rfl) rfl (by show 2 * 0 + _ ≤ _; exact Nat.le_of_eq rfl) (hb hby at_184) (fun _ _ => ⟨rfl, e6, (by decide : 2 + 0 ≤ _), (by decide : 7 + 0 ≤ _)⟩)
    dsimp only [Pt.U, Pt.locs, Pt.cells, Pt.slots] at X7 l7 y7 z7 st7 hQ7
    subst l7 y7 z7
    obtain ⟨rfl, rfl, e7⟩ := hQ7
    have N7 := Fr.app N6 (Fr.nil n0)
    refine Go.step st7 ?_
    show Go FrameEnd p e below s 16 128 (Q0 Z p1 p2 p3 p4 p5 p6 h0 n0) (T7.setTop (mkF m 187 #[.val (.int p1), .val (.int p2), .val (.int p3), .val (.int p4), .val (.int p5), .val (.int p6), .val (.int (0 : Int32)), .val (.ref b1), .val (.ref b2a)] [(.int (1 : Int32))]))
    refine Go.step (fun _ k => XS.ifNo X7.here hx rfl (hb hby at_187) rfl ((if0 _ _).trans (feq (by decide)).1) k) ?_
    show Go FrameEnd p e below s 16 128 (Q0 Z p1 p2 p3 p4 p5 p6 h0 n0) (T7.setTop (mkF m 190 #[.val (.int p1), .val (.int p2), .val (.int p3), .val (.int p4), .val (.int p5), .val (.int p6), .val (.int (0 : Int32)), .val (.ref b1), .val (.ref b2a)] []))
    refine Go.step (fun _ k => XS.aload X7.here hx rfl (hb hby at_190) rfl rfl k) ?_
    show Go FrameEnd p e below s 16 128 (Q0 Z p1 p2 p3 p4 p5 p6 h0 n0) (T7.setTop (mkF m 192 #[.val (.int p1), .val (.int p2), .val (.int p3), .val (.int p4), .val (.int p5), .val (.int p6), .val (.int (0 : Int32)), .val (.ref b1), .val (.ref b2a)] [(.ref b2a)]))
    refine Go.step (fun _ k => XS.aload X7.here hx rfl (hb hby at_192) rfl rfl k) ?_
    show Go FrameEnd p e below s 16 128 (Q0 Z p1 p2 p3 p4 p5 p6 h0 n0) (T7.setTop (mkF m 194 #[.val (.int p1), .val (.int p2), .val (.int p3), .val (.int p4), .val (.int p5), .val (.int p6), .val (.int (0 : Int32)), .val (.ref b1), .val (.ref b2a)] [(.ref b1), (.ref b2a)]))
    refine Go.step (fun _ k => XS.iconst X7.here hx rfl (hb hby at_194) k) ?_
    show Go FrameEnd p e below s 16 128 (Q0 Z p1 p2 p3 p4 p5 p6 h0 n0) (T7.setTop (mkF m 195 #[.val (.int p1), .val (.int p2), .val (.int p3), .val (.int p4), .val (.int p5), .val (.int p6), .val (.int (0 : Int32)), .val (.ref b1), .val (.ref b2a)] [(.int (3 : Int32)), (.ref b1), (.ref b2a)]))
    obtain ⟨_, _, ⟨T8, L8, k8, n8⟩, -, X8, ⟨Lc8, hQ8, l8, y8, z8⟩, st8⟩ := Jvm.LawKit.callS X7 hx (y := (⟨"example/zedbox/PeriodsOfEachPrefixPinLaw", "ok", "([I[II)Z"⟩ : MethodName)) hown (mvT hZ (hw _ (List.mem_of_getElem? (i := 6) rfl))) (mvT hZ (hw _ (List.mem_of_getElem? (i := 7) rfl))) (mvT hZ (hw _ (List.mem_of_getElem? (i := 8) rfl))) (mvT hZ (hw _ (List.mem_of_getElem? (i := 9) rfl))) (by decide) (backOf (W := 0) (rm2 l Z a0 hw [] b2a b1 (zsel 0 (0 : Int32) (0 : Int32) (0 : Int32) (0 : Int32) (0 : Int32)) 3 0 T2.heap f_4 xA2_1 (by decide) hz) hZ (hw _ (List.mem_of_getElem? (i := 9) rfl)) (hw _ (List.mem_of_getElem? (i := 8) rfl)) (by decide) (by decide)) (g := (mkF m 195 #[.val (.int p1), .val (.int p2), .val (.int p3), .val (.int p4), .val (.int p5), .val (.int p6), .val (.int (0 : Int32)), .val (.ref b1), .val (.ref b2a)] [(.int (3 : Int32)), (.ref b1), (.ref b2a)])) rfl (by rw [hml]; rfl) (argsL := [(.ref b2a), (.ref b1), (.int (3 : Int32))]) (rest := []) (lenOf pd___I_II_Z rfl) rfl (by show 2 * 0 + _ ≤ _; exact Nat.le_of_eq rfl) (hb hby at_195) (fun _ _ => ⟨rfl, e7, (by decide : 2 + 0 ≤ _), (by decide : 7 + 0 ≤ _)⟩)
    dsimp only [Pt.U, Pt.locs, Pt.cells, Pt.slots] at X8 l8 y8 z8 st8 hQ8
    subst l8 y8 z8
    obtain ⟨rfl, rfl, e8⟩ := hQ8
    have N8 := Fr.app N7 (Fr.nil n0)
    refine Go.step st8 ?_
    show Go FrameEnd p e below s 16 128 (Q0 Z p1 p2 p3 p4 p5 p6 h0 n0) (T8.setTop (mkF m 198 #[.val (.int p1), .val (.int p2), .val (.int p3), .val (.int p4), .val (.int p5), .val (.int p6), .val (.int (0 : Int32)), .val (.ref b1), .val (.ref b2a)] [(.int (1 : Int32))]))
    refine Go.step (fun _ k => XS.ifNo X8.here hx rfl (hb hby at_198) rfl ((if0 _ _).trans (feq (by decide)).1) k) ?_
    show Go FrameEnd p e below s 16 128 (Q0 Z p1 p2 p3 p4 p5 p6 h0 n0) (T8.setTop (mkF m 201 #[.val (.int p1), .val (.int p2), .val (.int p3), .val (.int p4), .val (.int p5), .val (.int p6), .val (.int (0 : Int32)), .val (.ref b1), .val (.ref b2a)] []))
    refine Go.step (fun _ k => XS.aload X8.here hx rfl (hb hby at_201) rfl rfl k) ?_
    show Go FrameEnd p e below s 16 128 (Q0 Z p1 p2 p3 p4 p5 p6 h0 n0) (T8.setTop (mkF m 203 #[.val (.int p1), .val (.int p2), .val (.int p3), .val (.int p4), .val (.int p5), .val (.int p6), .val (.int (0 : Int32)), .val (.ref b1), .val (.ref b2a)] [(.ref b2a)]))
    refine Go.step (fun _ k => XS.aload X8.here hx rfl (hb hby at_203) rfl rfl k) ?_
    show Go FrameEnd p e below s 16 128 (Q0 Z p1 p2 p3 p4 p5 p6 h0 n0) (T8.setTop (mkF m 205 #[.val (.int p1), .val (.int p2), .val (.int p3), .val (.int p4), .val (.int p5), .val (.int p6), .val (.int (0 : Int32)), .val (.ref b1), .val (.ref b2a)] [(.ref b1), (.ref b2a)]))
    refine Go.step (fun _ k => XS.iconst X8.here hx rfl (hb hby at_205) k) ?_
    show Go FrameEnd p e below s 16 128 (Q0 Z p1 p2 p3 p4 p5 p6 h0 n0) (T8.setTop (mkF m 206 #[.val (.int p1), .val (.int p2), .val (.int p3), .val (.int p4), .val (.int p5), .val (.int p6), .val (.int (0 : Int32)), .val (.ref b1), .val (.ref b2a)] [(.int (4 : Int32)), (.ref b1), (.ref b2a)]))
    obtain ⟨_, _, ⟨T9, L9, k9, n9⟩, -, X9, ⟨Lc9, hQ9, l9, y9, z9⟩, st9⟩ := Jvm.LawKit.callS X8 hx (y := (⟨"example/zedbox/PeriodsOfEachPrefixPinLaw", "ok", "([I[II)Z"⟩ : MethodName)) hown (mvT hZ (hw _ (List.mem_of_getElem? (i := 6) rfl))) (mvT hZ (hw _ (List.mem_of_getElem? (i := 7) rfl))) (mvT hZ (hw _ (List.mem_of_getElem? (i := 8) rfl))) (mvT hZ (hw _ (List.mem_of_getElem? (i := 9) rfl))) (by decide) (backOf (W := 0) (rm2 l Z a0 hw [] b2a b1 (zsel 0 (0 : Int32) (0 : Int32) (0 : Int32) (0 : Int32) (0 : Int32)) 4 0 T2.heap f_4 xA2_1 (by decide) hz) hZ (hw _ (List.mem_of_getElem? (i := 9) rfl)) (hw _ (List.mem_of_getElem? (i := 8) rfl)) (by decide) (by decide)) (g := (mkF m 206 #[.val (.int p1), .val (.int p2), .val (.int p3), .val (.int p4), .val (.int p5), .val (.int p6), .val (.int (0 : Int32)), .val (.ref b1), .val (.ref b2a)] [(.int (4 : Int32)), (.ref b1), (.ref b2a)])) rfl (by rw [hml]; rfl) (argsL := [(.ref b2a), (.ref b1), (.int (4 : Int32))]) (rest := []) (lenOf pd___I_II_Z rfl) rfl (by show 2 * 0 + _ ≤ _; exact Nat.le_of_eq rfl) (hb hby at_206) (fun _ _ => ⟨rfl, e8, (by decide : 2 + 0 ≤ _), (by decide : 7 + 0 ≤ _)⟩)
    dsimp only [Pt.U, Pt.locs, Pt.cells, Pt.slots] at X9 l9 y9 z9 st9 hQ9
    subst l9 y9 z9
    obtain ⟨rfl, rfl, e9⟩ := hQ9
    have N9 := Fr.app N8 (Fr.nil n0)
    refine Go.step st9 ?_
    show Go FrameEnd p e below s 16 128 (Q0 Z p1 p2 p3 p4 p5 p6 h0 n0) (T9.setTop (mkF m 209 #[.val (.int p1), .val (.int p2), .val (.int p3), .val (.int p4), .val (.int p5), .val (.int p6), .val (.int (0 : Int32)), .val (.ref b1), .val (.ref b2a)] [(.int (1 : Int32))]))
    refine Go.step (fun _ k => XS.ifNo X9.here hx rfl (hb hby at_209) rfl ((if0 _ _).trans (feq (by decide)).1) k) ?_
    show Go FrameEnd p e below s 16 128 (Q0 Z p1 p2 p3 p4 p5 p6 h0 n0) (T9.setTop (mkF m 212 #[.val (.int p1), .val (.int p2), .val (.int p3), .val (.int p4), .val (.int p5), .val (.int p6), .val (.int (0 : Int32)), .val (.ref b1), .val (.ref b2a)] []))
    refine Go.step (fun _ k => XS.aload X9.here hx rfl (hb hby at_212) rfl rfl k) ?_
    show Go FrameEnd p e below s 16 128 (Q0 Z p1 p2 p3 p4 p5 p6 h0 n0) (T9.setTop (mkF m 214 #[.val (.int p1), .val (.int p2), .val (.int p3), .val (.int p4), .val (.int p5), .val (.int p6), .val (.int (0 : Int32)), .val (.ref b1), .val (.ref b2a)] [(.ref b2a)]))
    refine Go.step (fun _ k => XS.aload X9.here hx rfl (hb hby at_214) rfl rfl k) ?_
    show Go FrameEnd p e below s 16 128 (Q0 Z p1 p2 p3 p4 p5 p6 h0 n0) (T9.setTop (mkF m 216 #[.val (.int p1), .val (.int p2), .val (.int p3), .val (.int p4), .val (.int p5), .val (.int p6), .val (.int (0 : Int32)), .val (.ref b1), .val (.ref b2a)] [(.ref b1), (.ref b2a)]))
    refine Go.step (fun _ k => XS.iconst X9.here hx rfl (hb hby at_216) k) ?_
    show Go FrameEnd p e below s 16 128 (Q0 Z p1 p2 p3 p4 p5 p6 h0 n0) (T9.setTop (mkF m 217 #[.val (.int p1), .val (.int p2), .val (.int p3), .val (.int p4), .val (.int p5), .val (.int p6), .val (.int (0 : Int32)), .val (.ref b1), .val (.ref b2a)] [(.int (5 : Int32)), (.ref b1), (.ref b2a)]))
    obtain ⟨_, _, ⟨T10, L10, k10, n10⟩, -, X10, ⟨Lc10, hQ10, l10, y10, z10⟩, st10⟩ := Jvm.LawKit.callS X9 hx (y := (⟨"example/zedbox/PeriodsOfEachPrefixPinLaw", "ok", "([I[II)Z"⟩ : MethodName)) hown (mvT hZ (hw _ (List.mem_of_getElem? (i := 6) rfl))) (mvT hZ (hw _ (List.mem_of_getElem? (i := 7) rfl))) (mvT hZ (hw _ (List.mem_of_getElem? (i := 8) rfl))) (mvT hZ (hw _ (List.mem_of_getElem? (i := 9) rfl))) (by decide) (backOf (W := 0) (rm2 l Z a0 hw [] b2a b1 (zsel 0 (0 : Int32) (0 : Int32) (0 : Int32) (0 : Int32) (0 : Int32)) 5 0 T2.heap f_4 xA2_1 (by decide) hz) hZ (hw _ (List.mem_of_getElem? (i := 9) rfl)) (hw _ (List.mem_of_getElem? (i := 8) rfl)) (by decide) (by decide)) (g := (mkF m 217 #[.val (.int p1), .val (.int p2), .val (.int p3), .val (.int p4), .val (.int p5), .val (.int p6), .val (.int (0 : Int32)), .val (.ref b1), .val (.ref b2a)] [(.int (5 : Int32)), (.ref b1), (.ref b2a)])) rfl (by rw [hml]; rfl) (argsL := [(.ref b2a), (.ref b1), (.int (5 : Int32))]) (rest := []) (lenOf pd___I_II_Z rfl) rfl (by show 2 * 0 + _ ≤ _; exact Nat.le_of_eq rfl) (hb hby at_217) (fun _ _ => ⟨rfl, e9, (by decide : 2 + 0 ≤ _), (by decide : 7 + 0 ≤ _)⟩)
    dsimp only [Pt.U, Pt.locs, Pt.cells, Pt.slots] at X10 l10 y10 z10 st10 hQ10
    subst l10 y10 z10
    obtain ⟨rfl, rfl, e10⟩ := hQ10
    have N10 := Fr.app N9 (Fr.nil n0)
    refine Go.step st10 ?_
    show Go FrameEnd p e below s 16 128 (Q0 Z p1 p2 p3 p4 p5 p6 h0 n0) (T10.setTop (mkF m 220 #[.val (.int p1), .val (.int p2), .val (.int p3), .val (.int p4), .val (.int p5), .val (.int p6), .val (.int (0 : Int32)), .val (.ref b1), .val (.ref b2a)] [(.int (1 : Int32))]))
    refine Go.step (fun _ k => XS.ifNo X10.here hx rfl (hb hby at_220) rfl ((if0 _ _).trans (feq (by decide)).1) k) ?_
    show Go FrameEnd p e below s 16 128 (Q0 Z p1 p2 p3 p4 p5 p6 h0 n0) (T10.setTop (mkF m 223 #[.val (.int p1), .val (.int p2), .val (.int p3), .val (.int p4), .val (.int p5), .val (.int p6), .val (.int (0 : Int32)), .val (.ref b1), .val (.ref b2a)] []))
    refine Go.step (fun _ k => XS.aload X10.here hx rfl (hb hby at_223) rfl rfl k) ?_
    show Go FrameEnd p e below s 16 128 (Q0 Z p1 p2 p3 p4 p5 p6 h0 n0) (T10.setTop (mkF m 225 #[.val (.int p1), .val (.int p2), .val (.int p3), .val (.int p4), .val (.int p5), .val (.int p6), .val (.int (0 : Int32)), .val (.ref b1), .val (.ref b2a)] [(.ref b2a)]))
    refine Go.step (fun _ k => XS.aload X10.here hx rfl (hb hby at_225) rfl rfl k) ?_
    show Go FrameEnd p e below s 16 128 (Q0 Z p1 p2 p3 p4 p5 p6 h0 n0) (T10.setTop (mkF m 227 #[.val (.int p1), .val (.int p2), .val (.int p3), .val (.int p4), .val (.int p5), .val (.int p6), .val (.int (0 : Int32)), .val (.ref b1), .val (.ref b2a)] [(.ref b1), (.ref b2a)]))
    refine Go.step (fun _ k => XS.bipush X10.here hx rfl (hb hby at_227) k) ?_
    show Go FrameEnd p e below s 16 128 (Q0 Z p1 p2 p3 p4 p5 p6 h0 n0) (T10.setTop (mkF m 229 #[.val (.int p1), .val (.int p2), .val (.int p3), .val (.int p4), .val (.int p5), .val (.int p6), .val (.int (0 : Int32)), .val (.ref b1), .val (.ref b2a)] [(.int (6 : Int32)), (.ref b1), (.ref b2a)]))
    obtain ⟨_, _, ⟨T11, L11, k11, n11⟩, -, X11, ⟨Lc11, hQ11, l11, y11, z11⟩, st11⟩ := Jvm.LawKit.callS X10 hx (y := (⟨"example/zedbox/PeriodsOfEachPrefixPinLaw", "ok", "([I[II)Z"⟩ : MethodName)) hown (mvT hZ (hw _ (List.mem_of_getElem? (i := 6) rfl))) (mvT hZ (hw _ (List.mem_of_getElem? (i := 7) rfl))) (mvT hZ (hw _ (List.mem_of_getElem? (i := 8) rfl))) (mvT hZ (hw _ (List.mem_of_getElem? (i := 9) rfl))) (by decide) (backOf (W := 0) (rm2 l Z a0 hw [] b2a b1 (zsel 0 (0 : Int32) (0 : Int32) (0 : Int32) (0 : Int32) (0 : Int32)) 6 0 T2.heap f_4 xA2_1 (by decide) hz) hZ (hw _ (List.mem_of_getElem? (i := 9) rfl)) (hw _ (List.mem_of_getElem? (i := 8) rfl)) (by decide) (by decide)) (g := (mkF m 229 #[.val (.int p1), .val (.int p2), .val (.int p3), .val (.int p4), .val (.int p5), .val (.int p6), .val (.int (0 : Int32)), .val (.ref b1), .val (.ref b2a)] [(.int (6 : Int32)), (.ref b1), (.ref b2a)])) rfl (by rw [hml]; rfl) (argsL := [(.ref b2a), (.ref b1), (.int (6 : Int32))]) (rest := []) (lenOf pd___I_II_Z rfl) rfl (by show 2 * 0 + _ ≤ _; exact Nat.le_of_eq rfl) (hb hby at_229) (fun _ _ => ⟨rfl, e10, (by decide : 2 + 0 ≤ _), (by decide : 7 + 0 ≤ _)⟩)
    dsimp only [Pt.U, Pt.locs, Pt.cells, Pt.slots] at X11 l11 y11 z11 st11 hQ11
    subst l11 y11 z11
    obtain ⟨rfl, rfl, e11⟩ := hQ11
    have N11 := Fr.app N10 (Fr.nil n0)
    refine Go.step st11 ?_
    show Go FrameEnd p e below s 16 128 (Q0 Z p1 p2 p3 p4 p5 p6 h0 n0) (T11.setTop (mkF m 232 #[.val (.int p1), .val (.int p2), .val (.int p3), .val (.int p4), .val (.int p5), .val (.int p6), .val (.int (0 : Int32)), .val (.ref b1), .val (.ref b2a)] [(.int (1 : Int32))]))
    refine Go.step (fun _ k => XS.ifNo X11.here hx rfl (hb hby at_232) rfl ((if0 _ _).trans (feq (by decide)).1) k) ?_
    show Go FrameEnd p e below s 16 128 (Q0 Z p1 p2 p3 p4 p5 p6 h0 n0) (T11.setTop (mkF m 235 #[.val (.int p1), .val (.int p2), .val (.int p3), .val (.int p4), .val (.int p5), .val (.int p6), .val (.int (0 : Int32)), .val (.ref b1), .val (.ref b2a)] []))
    refine Go.step (fun _ k => XS.iconst X11.here hx rfl (hb hby at_235) k) ?_
    show Go FrameEnd p e below s 16 128 (Q0 Z p1 p2 p3 p4 p5 p6 h0 n0) (T11.setTop (mkF m 236 #[.val (.int p1), .val (.int p2), .val (.int p3), .val (.int p4), .val (.int p5), .val (.int p6), .val (.int (0 : Int32)), .val (.ref b1), .val (.ref b2a)] [(.int (1 : Int32))]))
    refine Go.step (fun _ k => XS.goto X11.here hx rfl (pc0 := 236) (pc' := 240) rfl (hb hby at_236) (by decide) (by decide) k) ?_
    show Go FrameEnd p e below s 16 128 (Q0 Z p1 p2 p3 p4 p5 p6 h0 n0) (T11.setTop (mkF m 240 #[.val (.int p1), .val (.int p2), .val (.int p3), .val (.int p4), .val (.int p5), .val (.int p6), .val (.int (0 : Int32)), .val (.ref b1), .val (.ref b2a)] [(.int (1 : Int32))]))
    refine Go.retN X11 hx (t := .boolean) Bd.returns (by simp) (by decide) (hb hby at_240) (BodyLoose.notSynchronized Bd) e11 (by decide) (by decide) ?_
    exact ⟨rfl, N11⟩
  · skip
    rw [q]
    show Go FrameEnd p e below s 16 128 (Q0 Z p1 p2 p3 p4 p5 p6 h0 n0) (s₁.setTop (mkF m 7 #[.val (.int p1), .val (.int p2), .val (.int p3), .val (.int p4), .val (.int p5), .val (.int p6), .unset, .unset, .unset] [(.int (1 : Int32))]))
    refine Go.step (fun _ k => XS.istore X0.here hx rfl (hb hby at_7) rfl (l' := #[.val (.int p1), .val (.int p2), .val (.int p3), .val (.int p4), .val (.int p5), .val (.int p6), .val (.int (1 : Int32)), .unset, .unset]) rfl k) ?_
    show Go FrameEnd p e below s 16 128 (Q0 Z p1 p2 p3 p4 p5 p6 h0 n0) (s₁.setTop (mkF m 9 #[.val (.int p1), .val (.int p2), .val (.int p3), .val (.int p4), .val (.int p5), .val (.int p6), .val (.int (1 : Int32)), .unset, .unset] []))
    refine Go.step (fun _ k => XS.iload X0.here hx rfl (hb hby at_9) rfl k) ?_
    show Go FrameEnd p e below s 16 128 (Q0 Z p1 p2 p3 p4 p5 p6 h0 n0) (s₁.setTop (mkF m 11 #[.val (.int p1), .val (.int p2), .val (.int p3), .val (.int p4), .val (.int p5), .val (.int p6), .val (.int (1 : Int32)), .unset, .unset] [(.int (1 : Int32))]))
    obtain ⟨T12, h12, k12, X12, e12, E12, A12, st12⟩ := newP X0 hx hZ (hw _ (List.mem_of_getElem? (i := 1) rfl)) e0 (g := (mkF m 11 #[.val (.int p1), .val (.int p2), .val (.int p3), .val (.int p4), .val (.int p5), .val (.int p6), .val (.int (1 : Int32)), .unset, .unset] [(.int (1 : Int32))])) rfl (hb hby at_11) rfl (by decide) (cap := 1) (by decide) (by decide) (by decide) (by decide)
    refine Go.step st12 ?_
    obtain ⟨b12, g12⟩ : ∃ z, z = h0.size := ⟨_, rfl⟩
    rw [← g12] at A12 ⊢
    have g_b12 : n0 ≤ b12 := Nat.le_trans Z0 (Nat.le_of_eq g12.symm)
    have Z12 : n0 ≤ h12.size := Nat.le_trans Z0 E12.1
    have V12 : Av Z h12 b12 .int 1 (fun _ => (.int (0 : Int32))) := Av.new A12 (by decide) rfl
    show Go FrameEnd p e below s 16 128 (Q0 Z p1 p2 p3 p4 p5 p6 h0 n0) (T12.setTop (mkF m 13 #[.val (.int p1), .val (.int p2), .val (.int p3), .val (.int p4), .val (.int p5), .val (.int p6), .val (.int (1 : Int32)), .unset, .unset] [(.ref b12)]))
    refine Go.step (fun _ k => XS.astore X12.here hx rfl (hb hby at_13) rfl rfl (l' := #[.val (.int p1), .val (.int p2), .val (.int p3), .val (.int p4), .val (.int p5), .val (.int p6), .val (.int (1 : Int32)), .val (.ref b12), .unset]) rfl k) ?_
    show Go FrameEnd p e below s 16 128 (Q0 Z p1 p2 p3 p4 p5 p6 h0 n0) (T12.setTop (mkF m 15 #[.val (.int p1), .val (.int p2), .val (.int p3), .val (.int p4), .val (.int p5), .val (.int p6), .val (.int (1 : Int32)), .val (.ref b12), .unset] []))
    refine Go.step (fun _ k => XS.iload X12.here hx rfl (hb hby at_15) rfl k) ?_
    show Go FrameEnd p e below s 16 128 (Q0 Z p1 p2 p3 p4 p5 p6 h0 n0) (T12.setTop (mkF m 17 #[.val (.int p1), .val (.int p2), .val (.int p3), .val (.int p4), .val (.int p5), .val (.int p6), .val (.int (1 : Int32)), .val (.ref b12), .unset] [(.int (1 : Int32))]))
    refine Go.step (fun _ k => XS.ifNo X12.here hx rfl (hb hby at_17) rfl ((if0 _ _).trans (tlt (by decide)).2.2.2) k) ?_
    show Go FrameEnd p e below s 16 128 (Q0 Z p1 p2 p3 p4 p5 p6 h0 n0) (T12.setTop (mkF m 20 #[.val (.int p1), .val (.int p2), .val (.int p3), .val (.int p4), .val (.int p5), .val (.int p6), .val (.int (1 : Int32)), .val (.ref b12), .unset] []))
    refine Go.step (fun _ k => XS.aload X12.here hx rfl (hb hby at_20) rfl rfl k) ?_
    show Go FrameEnd p e below s 16 128 (Q0 Z p1 p2 p3 p4 p5 p6 h0 n0) (T12.setTop (mkF m 22 #[.val (.int p1), .val (.int p2), .val (.int p3), .val (.int p4), .val (.int p5), .val (.int p6), .val (.int (1 : Int32)), .val (.ref b12), .unset] [(.ref b12)]))
    refine Go.step (fun _ k => XS.iconst X12.here hx rfl (hb hby at_22) k) ?_
    show Go FrameEnd p e below s 16 128 (Q0 Z p1 p2 p3 p4 p5 p6 h0 n0) (T12.setTop (mkF m 23 #[.val (.int p1), .val (.int p2), .val (.int p3), .val (.int p4), .val (.int p5), .val (.int p6), .val (.int (1 : Int32)), .val (.ref b12), .unset] [(.int (0 : Int32)), (.ref b12)]))
    refine Go.step (fun _ k => XS.iload X12.here hx rfl (hb hby at_23) rfl k) ?_
    show Go FrameEnd p e below s 16 128 (Q0 Z p1 p2 p3 p4 p5 p6 h0 n0) (T12.setTop (mkF m 25 #[.val (.int p1), .val (.int p2), .val (.int p3), .val (.int p4), .val (.int p5), .val (.int p6), .val (.int (1 : Int32)), .val (.ref b12), .unset] [(.int (1 : Int32)), (.int (0 : Int32)), (.ref b12)]))
    obtain ⟨c13, Ac13, Sc13, Mc13, Gc13⟩ := id V12
    obtain ⟨T14, h14, X14, e14, W14, st14⟩ := stI X12 hx hZ e12 Ac13 (j := (0 : Int32)) (own_in Sc13 (by decide) (by decide)) (g := (mkF m 25 #[.val (.int p1), .val (.int p2), .val (.int p3), .val (.int p4), .val (.int p5), .val (.int p6), .val (.int (1 : Int32)), .val (.ref b12), .unset] [(.int (1 : Int32)), (.int (0 : Int32)), (.ref b12)])) rfl rfl (hb hby at_25)
    refine Go.step st14 ?_
    have N14 := Fr.snoc X14 N0 g_b12
    have Z14 : n0 ≤ h14.size := Nat.le_trans Z12 (Keep.of_wr W14).1
    have V14 : Av Z h14 b12 .int 1 (aset (fun _ => (.int (0 : Int32))) 0 (.int (1 : Int32))) := Av.set Ac13 Sc13 Mc13 Gc13 W14 (by rfl) (own_in Sc13 (by decide) (by decide))
    show Go FrameEnd p e below s 16 128 (Q0 Z p1 p2 p3 p4 p5 p6 h0 n0) (T14.setTop (mkF m 26 #[.val (.int p1), .val (.int p2), .val (.int p3), .val (.int p4), .val (.int p5), .val (.int p6), .val (.int (1 : Int32)), .val (.ref b12), .unset] []))
    refine Go.step (fun _ k => XS.iload X14.here hx rfl (hb hby at_26) rfl k) ?_
    show Go FrameEnd p e below s 16 128 (Q0 Z p1 p2 p3 p4 p5 p6 h0 n0) (T14.setTop (mkF m 28 #[.val (.int p1), .val (.int p2), .val (.int p3), .val (.int p4), .val (.int p5), .val (.int p6), .val (.int (1 : Int32)), .val (.ref b12), .unset] [(.int (1 : Int32))]))
    refine Go.step (fun _ k => XS.iconst X14.here hx rfl (hb hby at_28) k) ?_
    show Go FrameEnd p e below s 16 128 (Q0 Z p1 p2 p3 p4 p5 p6 h0 n0) (T14.setTop (mkF m 29 #[.val (.int p1), .val (.int p2), .val (.int p3), .val (.int p4), .val (.int p5), .val (.int p6), .val (.int (1 : Int32)), .val (.ref b12), .unset] [(.int (1 : Int32)), (.int (1 : Int32))]))
    refine Go.step (fun _ k => XS.icmpYes X14.here hx rfl (pc0 := 29) (pc' := 47) rfl (hb hby at_29) rfl (flt (by decide)).2.2.2 (by decide) (by decide) k) ?_
    show Go FrameEnd p e below s 16 128 (Q0 Z p1 p2 p3 p4 p5 p6 h0 n0) (T14.setTop (mkF m 47 #[.val (.int p1), .val (.int p2), .val (.int p3), .val (.int p4), .val (.int p5), .val (.int p6), .val (.int (1 : Int32)), .val (.ref b12), .unset] []))
    refine Go.step (fun _ k => XS.iload X14.here hx rfl (hb hby at_47) rfl k) ?_
    show Go FrameEnd p e below s 16 128 (Q0 Z p1 p2 p3 p4 p5 p6 h0 n0) (T14.setTop (mkF m 49 #[.val (.int p1), .val (.int p2), .val (.int p3), .val (.int p4), .val (.int p5), .val (.int p6), .val (.int (1 : Int32)), .val (.ref b12), .unset] [(.int (1 : Int32))]))
    refine Go.step (fun _ k => XS.iconst X14.here hx rfl (hb hby at_49) k) ?_
    show Go FrameEnd p e below s 16 128 (Q0 Z p1 p2 p3 p4 p5 p6 h0 n0) (T14.setTop (mkF m 50 #[.val (.int p1), .val (.int p2), .val (.int p3), .val (.int p4), .val (.int p5), .val (.int p6), .val (.int (1 : Int32)), .val (.ref b12), .unset] [(.int (2 : Int32)), (.int (1 : Int32))]))
    refine Go.step (fun _ k => XS.icmpYes X14.here hx rfl (pc0 := 50) (pc' := 68) rfl (hb hby at_50) rfl (flt (by decide)).2.2.2 (by decide) (by decide) k) ?_
    show Go FrameEnd p e below s 16 128 (Q0 Z p1 p2 p3 p4 p5 p6 h0 n0) (T14.setTop (mkF m 68 #[.val (.int p1), .val (.int p2), .val (.int p3), .val (.int p4), .val (.int p5), .val (.int p6), .val (.int (1 : Int32)), .val (.ref b12), .unset] []))
    refine Go.step (fun _ k => XS.iload X14.here hx rfl (hb hby at_68) rfl k) ?_
    show Go FrameEnd p e below s 16 128 (Q0 Z p1 p2 p3 p4 p5 p6 h0 n0) (T14.setTop (mkF m 70 #[.val (.int p1), .val (.int p2), .val (.int p3), .val (.int p4), .val (.int p5), .val (.int p6), .val (.int (1 : Int32)), .val (.ref b12), .unset] [(.int (1 : Int32))]))
    refine Go.step (fun _ k => XS.iconst X14.here hx rfl (hb hby at_70) k) ?_
    show Go FrameEnd p e below s 16 128 (Q0 Z p1 p2 p3 p4 p5 p6 h0 n0) (T14.setTop (mkF m 71 #[.val (.int p1), .val (.int p2), .val (.int p3), .val (.int p4), .val (.int p5), .val (.int p6), .val (.int (1 : Int32)), .val (.ref b12), .unset] [(.int (3 : Int32)), (.int (1 : Int32))]))
    refine Go.step (fun _ k => XS.icmpYes X14.here hx rfl (pc0 := 71) (pc' := 89) rfl (hb hby at_71) rfl (flt (by decide)).2.2.2 (by decide) (by decide) k) ?_
    show Go FrameEnd p e below s 16 128 (Q0 Z p1 p2 p3 p4 p5 p6 h0 n0) (T14.setTop (mkF m 89 #[.val (.int p1), .val (.int p2), .val (.int p3), .val (.int p4), .val (.int p5), .val (.int p6), .val (.int (1 : Int32)), .val (.ref b12), .unset] []))
    refine Go.step (fun _ k => XS.iload X14.here hx rfl (hb hby at_89) rfl k) ?_
    show Go FrameEnd p e below s 16 128 (Q0 Z p1 p2 p3 p4 p5 p6 h0 n0) (T14.setTop (mkF m 91 #[.val (.int p1), .val (.int p2), .val (.int p3), .val (.int p4), .val (.int p5), .val (.int p6), .val (.int (1 : Int32)), .val (.ref b12), .unset] [(.int (1 : Int32))]))
    refine Go.step (fun _ k => XS.iconst X14.here hx rfl (hb hby at_91) k) ?_
    show Go FrameEnd p e below s 16 128 (Q0 Z p1 p2 p3 p4 p5 p6 h0 n0) (T14.setTop (mkF m 92 #[.val (.int p1), .val (.int p2), .val (.int p3), .val (.int p4), .val (.int p5), .val (.int p6), .val (.int (1 : Int32)), .val (.ref b12), .unset] [(.int (4 : Int32)), (.int (1 : Int32))]))
    refine Go.step (fun _ k => XS.icmpYes X14.here hx rfl (pc0 := 92) (pc' := 111) rfl (hb hby at_92) rfl (flt (by decide)).2.2.2 (by decide) (by decide) k) ?_
    show Go FrameEnd p e below s 16 128 (Q0 Z p1 p2 p3 p4 p5 p6 h0 n0) (T14.setTop (mkF m 111 #[.val (.int p1), .val (.int p2), .val (.int p3), .val (.int p4), .val (.int p5), .val (.int p6), .val (.int (1 : Int32)), .val (.ref b12), .unset] []))
    refine Go.step (fun _ k => XS.iload X14.here hx rfl (hb hby at_111) rfl k) ?_
    show Go FrameEnd p e below s 16 128 (Q0 Z p1 p2 p3 p4 p5 p6 h0 n0) (T14.setTop (mkF m 113 #[.val (.int p1), .val (.int p2), .val (.int p3), .val (.int p4), .val (.int p5), .val (.int p6), .val (.int (1 : Int32)), .val (.ref b12), .unset] [(.int (1 : Int32))]))
    refine Go.step (fun _ k => XS.iconst X14.here hx rfl (hb hby at_113) k) ?_
    show Go FrameEnd p e below s 16 128 (Q0 Z p1 p2 p3 p4 p5 p6 h0 n0) (T14.setTop (mkF m 114 #[.val (.int p1), .val (.int p2), .val (.int p3), .val (.int p4), .val (.int p5), .val (.int p6), .val (.int (1 : Int32)), .val (.ref b12), .unset] [(.int (5 : Int32)), (.int (1 : Int32))]))
    refine Go.step (fun _ k => XS.icmpYes X14.here hx rfl (pc0 := 114) (pc' := 133) rfl (hb hby at_114) rfl (flt (by decide)).2.2.2 (by decide) (by decide) k) ?_
    show Go FrameEnd p e below s 16 128 (Q0 Z p1 p2 p3 p4 p5 p6 h0 n0) (T14.setTop (mkF m 133 #[.val (.int p1), .val (.int p2), .val (.int p3), .val (.int p4), .val (.int p5), .val (.int p6), .val (.int (1 : Int32)), .val (.ref b12), .unset] []))
    have Vz : Av Z h14 b12 .int 1 (fun j => .int (Int32.ofNat ((zsel 1 (0 : Int32) (0 : Int32) (0 : Int32) (0 : Int32) (0 : Int32)) j))) := (V14).eq (fun j hj => by
      rcases (by omega : j = 0) with rfl
      · rfl)
    have hz : ∀ j, 1 ≤ j → j < 1 → j + (zsel 1 (0 : Int32) (0 : Int32) (0 : Int32) (0 : Int32) (0 : Int32)) j ≤ 1 := fun j h1 h2 => by
      omega
    refine Go.step (fun _ k => XS.aload X14.here hx rfl (hb hby at_133) rfl rfl k) ?_
    show Go FrameEnd p e below s 16 128 (Q0 Z p1 p2 p3 p4 p5 p6 h0 n0) (T14.setTop (mkF m 135 #[.val (.int p1), .val (.int p2), .val (.int p3), .val (.int p4), .val (.int p5), .val (.int p6), .val (.int (1 : Int32)), .val (.ref b12), .unset] [(.ref b12)]))
    obtain ⟨_, _, ⟨T15, L15, k15, n15⟩, -, X15, ⟨Lc15, hQ15, l15, y15, z15⟩, st15⟩ := Jvm.LawKit.callS X14 hx (y := (⟨"example/zedbox/Periods", "ofEachPrefix", "([I)[I"⟩ : MethodName)) hown (mvT hZ (hw _ (List.mem_of_getElem? (i := 2) rfl))) (mvT hZ (hw _ (List.mem_of_getElem? (i := 3) rfl))) (mvT hZ (hw _ (List.mem_of_getElem? (i := 4) rfl))) (mvT hZ (hw _ (List.mem_of_getElem? (i := 5) rfl))) (by decide) (backOf (W := 0) (rm3 l Z a0 hw [] b12 (zsel 1 (0 : Int32) (0 : Int32) (0 : Int32) (0 : Int32) (0 : Int32)) 1 h14 n0 Z14 Vz (by decide) hz) hZ (hw _ (List.mem_of_getElem? (i := 5) rfl)) (hw _ (List.mem_of_getElem? (i := 4) rfl)) (by decide) (by decide)) (g := (mkF m 135 #[.val (.int p1), .val (.int p2), .val (.int p3), .val (.int p4), .val (.int p5), .val (.int p6), .val (.int (1 : Int32)), .val (.ref b12), .unset] [(.ref b12)])) rfl (by rw [hml]; rfl) (argsL := [(.ref b12)]) (rest := []) (lenOf pd___I__I rfl) rfl (by show 2 * 0 + _ ≤ _; exact Nat.le_of_eq rfl) (hb hby at_135) (fun _ _ => ⟨rfl, e14, (by decide : 1 + 1 ≤ _), (by decide : 1 + 7 ≤ _)⟩)
    dsimp only [Pt.U, Pt.locs, Pt.cells, Pt.slots] at X15 l15 y15 z15 st15 hQ15
    subst l15 y15 z15
    obtain ⟨b15a, rfl, N15q, szb15a, K15_0, xA15_1⟩ := hQ15
    have N15 := Fr.app N14 N15q
    have ne_b12_b15a : b12 ≠ b15a := Nat.ne_of_lt (Nat.lt_of_lt_of_le Vz.lt szb15a)
    have g_b15a : n0 ≤ b15a := Nat.le_trans Z14 szb15a
    have Z15 : n0 ≤ T15.heap.size := Nat.le_trans Z14 K15_0.1
    refine Go.step st15 ?_
    show Go FrameEnd p e below s 16 128 (Q0 Z p1 p2 p3 p4 p5 p6 h0 n0) (T15.setTop (mkF m 138 #[.val (.int p1), .val (.int p2), .val (.int p3), .val (.int p4), .val (.int p5), .val (.int p6), .val (.int (1 : Int32)), .val (.ref b12), .unset] [(.ref b15a)]))
    refine Go.step (fun _ k => XS.astore X15.here hx rfl (hb hby at_138) rfl rfl (l' := #[.val (.int p1), .val (.int p2), .val (.int p3), .val (.int p4), .val (.int p5), .val (.int p6), .val (.int (1 : Int32)), .val (.ref b12), .val (.ref b15a)]) rfl k) ?_
    show Go FrameEnd p e below s 16 128 (Q0 Z p1 p2 p3 p4 p5 p6 h0 n0) (T15.setTop (mkF m 140 #[.val (.int p1), .val (.int p2), .val (.int p3), .val (.int p4), .val (.int p5), .val (.int p6), .val (.int (1 : Int32)), .val (.ref b12), .val (.ref b15a)] []))
    refine Go.step (fun _ k => XS.aload X15.here hx rfl (hb hby at_140) rfl rfl k) ?_
    show Go FrameEnd p e below s 16 128 (Q0 Z p1 p2 p3 p4 p5 p6 h0 n0) (T15.setTop (mkF m 142 #[.val (.int p1), .val (.int p2), .val (.int p3), .val (.int p4), .val (.int p5), .val (.int p6), .val (.int (1 : Int32)), .val (.ref b12), .val (.ref b15a)] [(.ref b15a)]))
    refine Go.step (fun _ k => XS.ifnullNo X15.here hx rfl (hb hby at_142) rfl k) ?_
    show Go FrameEnd p e below s 16 128 (Q0 Z p1 p2 p3 p4 p5 p6 h0 n0) (T15.setTop (mkF m 145 #[.val (.int p1), .val (.int p2), .val (.int p3), .val (.int p4), .val (.int p5), .val (.int p6), .val (.int (1 : Int32)), .val (.ref b12), .val (.ref b15a)] []))
    refine Go.step (fun _ k => XS.aload X15.here hx rfl (hb hby at_145) rfl rfl k) ?_
    show Go FrameEnd p e below s 16 128 (Q0 Z p1 p2 p3 p4 p5 p6 h0 n0) (T15.setTop (mkF m 147 #[.val (.int p1), .val (.int p2), .val (.int p3), .val (.int p4), .val (.int p5), .val (.int p6), .val (.int (1 : Int32)), .val (.ref b12), .val (.ref b15a)] [(.ref b15a)]))
    obtain ⟨c16, Ac16, Sc16, Mc16, Gc16⟩ := id xA15_1
    refine Go.step (X15.arraylength hx Ac16.1 (State.isArrayOf_alike hZ.alike Ac16.2.1) (g := (mkF m 147 #[.val (.int p1), .val (.int p2), .val (.int p3), .val (.int p4), .val (.int p5), .val (.int p6), .val (.int (1 : Int32)), .val (.ref b12), .val (.ref b15a)] [(.ref b15a)])) rfl rfl (hb hby at_147)) ?_
    rw [show c16.slots.size.toInt32 = (2 : Int32) from congrArg Nat.toInt32 Sc16]
    show Go FrameEnd p e below s 16 128 (Q0 Z p1 p2 p3 p4 p5 p6 h0 n0) (T15.setTop (mkF m 148 #[.val (.int p1), .val (.int p2), .val (.int p3), .val (.int p4), .val (.int p5), .val (.int p6), .val (.int (1 : Int32)), .val (.ref b12), .val (.ref b15a)] [(.int (2 : Int32))]))
    refine Go.step (fun _ k => XS.iload X15.here hx rfl (hb hby at_148) rfl k) ?_
    show Go FrameEnd p e below s 16 128 (Q0 Z p1 p2 p3 p4 p5 p6 h0 n0) (T15.setTop (mkF m 150 #[.val (.int p1), .val (.int p2), .val (.int p3), .val (.int p4), .val (.int p5), .val (.int p6), .val (.int (1 : Int32)), .val (.ref b12), .val (.ref b15a)] [(.int (1 : Int32)), (.int (2 : Int32))]))
    refine Go.step (fun _ k => XS.iconst X15.here hx rfl (hb hby at_150) k) ?_
    show Go FrameEnd p e below s 16 128 (Q0 Z p1 p2 p3 p4 p5 p6 h0 n0) (T15.setTop (mkF m 151 #[.val (.int p1), .val (.int p2), .val (.int p3), .val (.int p4), .val (.int p5), .val (.int p6), .val (.int (1 : Int32)), .val (.ref b12), .val (.ref b15a)] [(.int (1 : Int32)), (.int (1 : Int32)), (.int (2 : Int32))]))
    refine Go.step (fun _ k => XS.iadd X15.here hx rfl (hb hby at_151) rfl k) ?_
    show Go FrameEnd p e below s 16 128 (Q0 Z p1 p2 p3 p4 p5 p6 h0 n0) (T15.setTop (mkF m 152 #[.val (.int p1), .val (.int p2), .val (.int p3), .val (.int p4), .val (.int p5), .val (.int p6), .val (.int (1 : Int32)), .val (.ref b12), .val (.ref b15a)] [(.int (2 : Int32)), (.int (2 : Int32))]))
    refine Go.step (fun _ k => XS.icmpYes X15.here hx rfl (pc0 := 152) (pc' := 157) rfl (hb hby at_152) rfl (teq rfl).1 (by decide) (by decide) k) ?_
    show Go FrameEnd p e below s 16 128 (Q0 Z p1 p2 p3 p4 p5 p6 h0 n0) (T15.setTop (mkF m 157 #[.val (.int p1), .val (.int p2), .val (.int p3), .val (.int p4), .val (.int p5), .val (.int p6), .val (.int (1 : Int32)), .val (.ref b12), .val (.ref b15a)] []))
    refine Go.step (fun _ k => XS.aload X15.here hx rfl (hb hby at_157) rfl rfl k) ?_
    show Go FrameEnd p e below s 16 128 (Q0 Z p1 p2 p3 p4 p5 p6 h0 n0) (T15.setTop (mkF m 159 #[.val (.int p1), .val (.int p2), .val (.int p3), .val (.int p4), .val (.int p5), .val (.int p6), .val (.int (1 : Int32)), .val (.ref b12), .val (.ref b15a)] [(.ref b15a)]))
    refine Go.step (fun _ k => XS.aload X15.here hx rfl (hb hby at_159) rfl rfl k) ?_
    show Go FrameEnd p e below s 16 128 (Q0 Z p1 p2 p3 p4 p5 p6 h0 n0) (T15.setTop (mkF m 161 #[.val (.int p1), .val (.int p2), .val (.int p3), .val (.int p4), .val (.int p5), .val (.int p6), .val (.int (1 : Int32)), .val (.ref b12), .val (.ref b15a)] [(.ref b12), (.ref b15a)]))
    refine Go.step (fun _ k => XS.iconst X15.here hx rfl (hb hby at_161) k) ?_
    show Go FrameEnd p e below s 16 128 (Q0 Z p1 p2 p3 p4 p5 p6 h0 n0) (T15.setTop (mkF m 162 #[.val (.int p1), .val (.int p2), .val (.int p3), .val (.int p4), .val (.int p5), .val (.int p6), .val (.int (1 : Int32)), .val (.ref b12), .val (.ref b15a)] [(.int (0 : Int32)), (.ref b12), (.ref b15a)]))
    have f_17 := (Vz.keep K15_0 nin0)
    obtain ⟨_, _, ⟨T18, L18, k18, n18⟩, -, X18, ⟨Lc18, hQ18, l18, y18, z18⟩, st18⟩ := Jvm.LawKit.callS X15 hx (y := (⟨"example/zedbox/PeriodsOfEachPrefixPinLaw", "ok", "([I[II)Z"⟩ : MethodName)) hown (mvT hZ (hw _ (List.mem_of_getElem? (i := 6) rfl))) (mvT hZ (hw _ (List.mem_of_getElem? (i := 7) rfl))) (mvT hZ (hw _ (List.mem_of_getElem? (i := 8) rfl))) (mvT hZ (hw _ (List.mem_of_getElem? (i := 9) rfl))) (by decide) (backOf (W := 0) (rm2 l Z a0 hw [] b15a b12 (zsel 1 (0 : Int32) (0 : Int32) (0 : Int32) (0 : Int32) (0 : Int32)) 0 1 T15.heap f_17 xA15_1 (by decide) hz) hZ (hw _ (List.mem_of_getElem? (i := 9) rfl)) (hw _ (List.mem_of_getElem? (i := 8) rfl)) (by decide) (by decide)) (g := (mkF m 162 #[.val (.int p1), .val (.int p2), .val (.int p3), .val (.int p4), .val (.int p5), .val (.int p6), .val (.int (1 : Int32)), .val (.ref b12), .val (.ref b15a)] [(.int (0 : Int32)), (.ref b12), (.ref b15a)])) rfl (by rw [hml]; rfl) (argsL := [(.ref b15a), (.ref b12), (.int (0 : Int32))]) (rest := []) (lenOf pd___I_II_Z rfl) rfl (by show 2 * 0 + _ ≤ _; exact Nat.le_of_eq rfl) (hb hby at_162) (fun _ _ => ⟨rfl, rfl, (by decide : 2 + 0 ≤ _), (by decide : 8 + 0 ≤ _)⟩)
    dsimp only [Pt.U, Pt.locs, Pt.cells, Pt.slots] at X18 l18 y18 z18 st18 hQ18
    subst l18 y18 z18
    obtain ⟨rfl, rfl, e18⟩ := hQ18
    have N18 := Fr.app N15 (Fr.nil n0)
    refine Go.step st18 ?_
    show Go FrameEnd p e below s 16 128 (Q0 Z p1 p2 p3 p4 p5 p6 h0 n0) (T18.setTop (mkF m 165 #[.val (.int p1), .val (.int p2), .val (.int p3), .val (.int p4), .val (.int p5), .val (.int p6), .val (.int (1 : Int32)), .val (.ref b12), .val (.ref b15a)] [(.int (1 : Int32))]))
    refine Go.step (fun _ k => XS.ifNo X18.here hx rfl (hb hby at_165) rfl ((if0 _ _).trans (feq (by decide)).1) k) ?_
    show Go FrameEnd p e below s 16 128 (Q0 Z p1 p2 p3 p4 p5 p6 h0 n0) (T18.setTop (mkF m 168 #[.val (.int p1), .val (.int p2), .val (.int p3), .val (.int p4), .val (.int p5), .val (.int p6), .val (.int (1 : Int32)), .val (.ref b12), .val (.ref b15a)] []))
    refine Go.step (fun _ k => XS.aload X18.here hx rfl (hb hby at_168) rfl rfl k) ?_
    show Go FrameEnd p e below s 16 128 (Q0 Z p1 p2 p3 p4 p5 p6 h0 n0) (T18.setTop (mkF m 170 #[.val (.int p1), .val (.int p2), .val (.int p3), .val (.int p4), .val (.int p5), .val (.int p6), .val (.int (1 : Int32)), .val (.ref b12), .val (.ref b15a)] [(.ref b15a)]))
    refine Go.step (fun _ k => XS.aload X18.here hx rfl (hb hby at_170) rfl rfl k) ?_
    show Go FrameEnd p e below s 16 128 (Q0 Z p1 p2 p3 p4 p5 p6 h0 n0) (T18.setTop (mkF m 172 #[.val (.int p1), .val (.int p2), .val (.int p3), .val (.int p4), .val (.int p5), .val (.int p6), .val (.int (1 : Int32)), .val (.ref b12), .val (.ref b15a)] [(.ref b12), (.ref b15a)]))
    refine Go.step (fun _ k => XS.iconst X18.here hx rfl (hb hby at_172) k) ?_
    show Go FrameEnd p e below s 16 128 (Q0 Z p1 p2 p3 p4 p5 p6 h0 n0) (T18.setTop (mkF m 173 #[.val (.int p1), .val (.int p2), .val (.int p3), .val (.int p4), .val (.int p5), .val (.int p6), .val (.int (1 : Int32)), .val (.ref b12), .val (.ref b15a)] [(.int (1 : Int32)), (.ref b12), (.ref b15a)]))
    obtain ⟨_, _, ⟨T19, L19, k19, n19⟩, -, X19, ⟨Lc19, hQ19, l19, y19, z19⟩, st19⟩ := Jvm.LawKit.callS X18 hx (y := (⟨"example/zedbox/PeriodsOfEachPrefixPinLaw", "ok", "([I[II)Z"⟩ : MethodName)) hown (mvT hZ (hw _ (List.mem_of_getElem? (i := 6) rfl))) (mvT hZ (hw _ (List.mem_of_getElem? (i := 7) rfl))) (mvT hZ (hw _ (List.mem_of_getElem? (i := 8) rfl))) (mvT hZ (hw _ (List.mem_of_getElem? (i := 9) rfl))) (by decide) (backOf (W := 0) (rm2 l Z a0 hw [] b15a b12 (zsel 1 (0 : Int32) (0 : Int32) (0 : Int32) (0 : Int32) (0 : Int32)) 1 1 T15.heap f_17 xA15_1 (by decide) hz) hZ (hw _ (List.mem_of_getElem? (i := 9) rfl)) (hw _ (List.mem_of_getElem? (i := 8) rfl)) (by decide) (by decide)) (g := (mkF m 173 #[.val (.int p1), .val (.int p2), .val (.int p3), .val (.int p4), .val (.int p5), .val (.int p6), .val (.int (1 : Int32)), .val (.ref b12), .val (.ref b15a)] [(.int (1 : Int32)), (.ref b12), (.ref b15a)])) rfl (by rw [hml]; rfl) (argsL := [(.ref b15a), (.ref b12), (.int (1 : Int32))]) (rest := []) (lenOf pd___I_II_Z rfl) rfl (by show 2 * 0 + _ ≤ _; exact Nat.le_of_eq rfl) (hb hby at_173) (fun _ _ => ⟨rfl, e18, (by decide : 2 + 0 ≤ _), (by decide : 8 + 0 ≤ _)⟩)
    dsimp only [Pt.U, Pt.locs, Pt.cells, Pt.slots] at X19 l19 y19 z19 st19 hQ19
    subst l19 y19 z19
    obtain ⟨rfl, rfl, e19⟩ := hQ19
    have N19 := Fr.app N18 (Fr.nil n0)
    refine Go.step st19 ?_
    show Go FrameEnd p e below s 16 128 (Q0 Z p1 p2 p3 p4 p5 p6 h0 n0) (T19.setTop (mkF m 176 #[.val (.int p1), .val (.int p2), .val (.int p3), .val (.int p4), .val (.int p5), .val (.int p6), .val (.int (1 : Int32)), .val (.ref b12), .val (.ref b15a)] [(.int (1 : Int32))]))
    refine Go.step (fun _ k => XS.ifNo X19.here hx rfl (hb hby at_176) rfl ((if0 _ _).trans (feq (by decide)).1) k) ?_
    show Go FrameEnd p e below s 16 128 (Q0 Z p1 p2 p3 p4 p5 p6 h0 n0) (T19.setTop (mkF m 179 #[.val (.int p1), .val (.int p2), .val (.int p3), .val (.int p4), .val (.int p5), .val (.int p6), .val (.int (1 : Int32)), .val (.ref b12), .val (.ref b15a)] []))
    refine Go.step (fun _ k => XS.aload X19.here hx rfl (hb hby at_179) rfl rfl k) ?_
    show Go FrameEnd p e below s 16 128 (Q0 Z p1 p2 p3 p4 p5 p6 h0 n0) (T19.setTop (mkF m 181 #[.val (.int p1), .val (.int p2), .val (.int p3), .val (.int p4), .val (.int p5), .val (.int p6), .val (.int (1 : Int32)), .val (.ref b12), .val (.ref b15a)] [(.ref b15a)]))
    refine Go.step (fun _ k => XS.aload X19.here hx rfl (hb hby at_181) rfl rfl k) ?_
    show Go FrameEnd p e below s 16 128 (Q0 Z p1 p2 p3 p4 p5 p6 h0 n0) (T19.setTop (mkF m 183 #[.val (.int p1), .val (.int p2), .val (.int p3), .val (.int p4), .val (.int p5), .val (.int p6), .val (.int (1 : Int32)), .val (.ref b12), .val (.ref b15a)] [(.ref b12), (.ref b15a)]))
    refine Go.step (fun _ k => XS.iconst X19.here hx rfl (hb hby at_183) k) ?_
    show Go FrameEnd p e below s 16 128 (Q0 Z p1 p2 p3 p4 p5 p6 h0 n0) (T19.setTop (mkF m 184 #[.val (.int p1), .val (.int p2), .val (.int p3), .val (.int p4), .val (.int p5), .val (.int p6), .val (.int (1 : Int32)), .val (.ref b12), .val (.ref b15a)] [(.int (2 : Int32)), (.ref b12), (.ref b15a)]))
    obtain ⟨_, _, ⟨T20, L20, k20, n20⟩, -, X20, ⟨Lc20, hQ20, l20, y20, z20⟩, st20⟩ := Jvm.LawKit.callS X19 hx (y := (⟨"example/zedbox/PeriodsOfEachPrefixPinLaw", "ok", "([I[II)Z"⟩ : MethodName)) hown (mvT hZ (hw _ (List.mem_of_getElem? (i := 6) rfl))) (mvT hZ (hw _ (List.mem_of_getElem? (i := 7) rfl))) (mvT hZ (hw _ (List.mem_of_getElem? (i := 8) rfl))) (mvT hZ (hw _ (List.mem_of_getElem? (i := 9) rfl))) (by decide) (backOf (W := 0) (rm2 l Z a0 hw [] b15a b12 (zsel 1 (0 : Int32) (0 : Int32) (0 : Int32) (0 : Int32) (0 : Int32)) 2 1 T15.heap f_17 xA15_1 (by decide) hz) hZ (hw _ (List.mem_of_getElem? (i := 9) rfl)) (hw _ (List.mem_of_getElem? (i := 8) rfl)) (by decide) (by decide)) (g := (mkF m 184 #[.val (.int p1), .val (.int p2), .val (.int p3), .val (.int p4), .val (.int p5), .val (.int p6), .val (.int (1 : Int32)), .val (.ref b12), .val (.ref b15a)] [(.int (2 : Int32)), (.ref b12), (.ref b15a)])) rfl (by rw [hml]; rfl) (argsL := [(.ref b15a), (.ref b12), (.int (2 : Int32))]) (rest := []) (lenOf pd___I_II_Z rfl) rfl (by show 2 * 0 + _ ≤ _; exact Nat.le_of_eq rfl) (hb hby at_184) (fun _ _ => ⟨rfl, e19, (by decide : 2 + 0 ≤ _), (by decide : 8 + 0 ≤ _)⟩)
    dsimp only [Pt.U, Pt.locs, Pt.cells, Pt.slots] at X20 l20 y20 z20 st20 hQ20
    subst l20 y20 z20
    obtain ⟨rfl, rfl, e20⟩ := hQ20
    have N20 := Fr.app N19 (Fr.nil n0)
    refine Go.step st20 ?_
    show Go FrameEnd p e below s 16 128 (Q0 Z p1 p2 p3 p4 p5 p6 h0 n0) (T20.setTop (mkF m 187 #[.val (.int p1), .val (.int p2), .val (.int p3), .val (.int p4), .val (.int p5), .val (.int p6), .val (.int (1 : Int32)), .val (.ref b12), .val (.ref b15a)] [(.int (1 : Int32))]))
    refine Go.step (fun _ k => XS.ifNo X20.here hx rfl (hb hby at_187) rfl ((if0 _ _).trans (feq (by decide)).1) k) ?_
    show Go FrameEnd p e below s 16 128 (Q0 Z p1 p2 p3 p4 p5 p6 h0 n0) (T20.setTop (mkF m 190 #[.val (.int p1), .val (.int p2), .val (.int p3), .val (.int p4), .val (.int p5), .val (.int p6), .val (.int (1 : Int32)), .val (.ref b12), .val (.ref b15a)] []))
    refine Go.step (fun _ k => XS.aload X20.here hx rfl (hb hby at_190) rfl rfl k) ?_
    show Go FrameEnd p e below s 16 128 (Q0 Z p1 p2 p3 p4 p5 p6 h0 n0) (T20.setTop (mkF m 192 #[.val (.int p1), .val (.int p2), .val (.int p3), .val (.int p4), .val (.int p5), .val (.int p6), .val (.int (1 : Int32)), .val (.ref b12), .val (.ref b15a)] [(.ref b15a)]))
    refine Go.step (fun _ k => XS.aload X20.here hx rfl (hb hby at_192) rfl rfl k) ?_
    show Go FrameEnd p e below s 16 128 (Q0 Z p1 p2 p3 p4 p5 p6 h0 n0) (T20.setTop (mkF m 194 #[.val (.int p1), .val (.int p2), .val (.int p3), .val (.int p4), .val (.int p5), .val (.int p6), .val (.int (1 : Int32)), .val (.ref b12), .val (.ref b15a)] [(.ref b12), (.ref b15a)]))
    refine Go.step (fun _ k => XS.iconst X20.here hx rfl (hb hby at_194) k) ?_
    show Go FrameEnd p e below s 16 128 (Q0 Z p1 p2 p3 p4 p5 p6 h0 n0) (T20.setTop (mkF m 195 #[.val (.int p1), .val (.int p2), .val (.int p3), .val (.int p4), .val (.int p5), .val (.int p6), .val (.int (1 : Int32)), .val (.ref b12), .val (.ref b15a)] [(.int (3 : Int32)), (.ref b12), (.ref b15a)]))
    obtain ⟨_, _, ⟨T21, L21, k21, n21⟩, -, X21, ⟨Lc21, hQ21, l21, y21, z21⟩, st21⟩ := Jvm.LawKit.callS X20 hx (y := (⟨"example/zedbox/PeriodsOfEachPrefixPinLaw", "ok", "([I[II)Z"⟩ : MethodName)) hown (mvT hZ (hw _ (List.mem_of_getElem? (i := 6) rfl))) (mvT hZ (hw _ (List.mem_of_getElem? (i := 7) rfl))) (mvT hZ (hw _ (List.mem_of_getElem? (i := 8) rfl))) (mvT hZ (hw _ (List.mem_of_getElem? (i := 9) rfl))) (by decide) (backOf (W := 0) (rm2 l Z a0 hw [] b15a b12 (zsel 1 (0 : Int32) (0 : Int32) (0 : Int32) (0 : Int32) (0 : Int32)) 3 1 T15.heap f_17 xA15_1 (by decide) hz) hZ (hw _ (List.mem_of_getElem? (i := 9) rfl)) (hw _ (List.mem_of_getElem? (i := 8) rfl)) (by decide) (by decide)) (g := (mkF m 195 #[.val (.int p1), .val (.int p2), .val (.int p3), .val (.int p4), .val (.int p5), .val (.int p6), .val (.int (1 : Int32)), .val (.ref b12), .val (.ref b15a)] [(.int (3 : Int32)), (.ref b12), (.ref b15a)])) rfl (by rw [hml]; rfl) (argsL := [(.ref b15a), (.ref b12), (.int (3 : Int32))]) (rest := []) (lenOf pd___I_II_Z rfl) rfl (by show 2 * 0 + _ ≤ _; exact Nat.le_of_eq rfl) (hb hby at_195) (fun _ _ => ⟨rfl, e20, (by decide : 2 + 0 ≤ _), (by decide : 8 + 0 ≤ _)⟩)
    dsimp only [Pt.U, Pt.locs, Pt.cells, Pt.slots] at X21 l21 y21 z21 st21 hQ21
    subst l21 y21 z21
    obtain ⟨rfl, rfl, e21⟩ := hQ21
    have N21 := Fr.app N20 (Fr.nil n0)
    refine Go.step st21 ?_
    show Go FrameEnd p e below s 16 128 (Q0 Z p1 p2 p3 p4 p5 p6 h0 n0) (T21.setTop (mkF m 198 #[.val (.int p1), .val (.int p2), .val (.int p3), .val (.int p4), .val (.int p5), .val (.int p6), .val (.int (1 : Int32)), .val (.ref b12), .val (.ref b15a)] [(.int (1 : Int32))]))
    refine Go.step (fun _ k => XS.ifNo X21.here hx rfl (hb hby at_198) rfl ((if0 _ _).trans (feq (by decide)).1) k) ?_
    show Go FrameEnd p e below s 16 128 (Q0 Z p1 p2 p3 p4 p5 p6 h0 n0) (T21.setTop (mkF m 201 #[.val (.int p1), .val (.int p2), .val (.int p3), .val (.int p4), .val (.int p5), .val (.int p6), .val (.int (1 : Int32)), .val (.ref b12), .val (.ref b15a)] []))
    refine Go.step (fun _ k => XS.aload X21.here hx rfl (hb hby at_201) rfl rfl k) ?_
    show Go FrameEnd p e below s 16 128 (Q0 Z p1 p2 p3 p4 p5 p6 h0 n0) (T21.setTop (mkF m 203 #[.val (.int p1), .val (.int p2), .val (.int p3), .val (.int p4), .val (.int p5), .val (.int p6), .val (.int (1 : Int32)), .val (.ref b12), .val (.ref b15a)] [(.ref b15a)]))
    refine Go.step (fun _ k => XS.aload X21.here hx rfl (hb hby at_203) rfl rfl k) ?_
    show Go FrameEnd p e below s 16 128 (Q0 Z p1 p2 p3 p4 p5 p6 h0 n0) (T21.setTop (mkF m 205 #[.val (.int p1), .val (.int p2), .val (.int p3), .val (.int p4), .val (.int p5), .val (.int p6), .val (.int (1 : Int32)), .val (.ref b12), .val (.ref b15a)] [(.ref b12), (.ref b15a)]))
    refine Go.step (fun _ k => XS.iconst X21.here hx rfl (hb hby at_205) k) ?_
    show Go FrameEnd p e below s 16 128 (Q0 Z p1 p2 p3 p4 p5 p6 h0 n0) (T21.setTop (mkF m 206 #[.val (.int p1), .val (.int p2), .val (.int p3), .val (.int p4), .val (.int p5), .val (.int p6), .val (.int (1 : Int32)), .val (.ref b12), .val (.ref b15a)] [(.int (4 : Int32)), (.ref b12), (.ref b15a)]))
    obtain ⟨_, _, ⟨T22, L22, k22, n22⟩, -, X22, ⟨Lc22, hQ22, l22, y22, z22⟩, st22⟩ := Jvm.LawKit.callS X21 hx (y := (⟨"example/zedbox/PeriodsOfEachPrefixPinLaw", "ok", "([I[II)Z"⟩ : MethodName)) hown (mvT hZ (hw _ (List.mem_of_getElem? (i := 6) rfl))) (mvT hZ (hw _ (List.mem_of_getElem? (i := 7) rfl))) (mvT hZ (hw _ (List.mem_of_getElem? (i := 8) rfl))) (mvT hZ (hw _ (List.mem_of_getElem? (i := 9) rfl))) (by decide) (backOf (W := 0) (rm2 l Z a0 hw [] b15a b12 (zsel 1 (0 : Int32) (0 : Int32) (0 : Int32) (0 : Int32) (0 : Int32)) 4 1 T15.heap f_17 xA15_1 (by decide) hz) hZ (hw _ (List.mem_of_getElem? (i := 9) rfl)) (hw _ (List.mem_of_getElem? (i := 8) rfl)) (by decide) (by decide)) (g := (mkF m 206 #[.val (.int p1), .val (.int p2), .val (.int p3), .val (.int p4), .val (.int p5), .val (.int p6), .val (.int (1 : Int32)), .val (.ref b12), .val (.ref b15a)] [(.int (4 : Int32)), (.ref b12), (.ref b15a)])) rfl (by rw [hml]; rfl) (argsL := [(.ref b15a), (.ref b12), (.int (4 : Int32))]) (rest := []) (lenOf pd___I_II_Z rfl) rfl (by show 2 * 0 + _ ≤ _; exact Nat.le_of_eq rfl) (hb hby at_206) (fun _ _ => ⟨rfl, e21, (by decide : 2 + 0 ≤ _), (by decide : 8 + 0 ≤ _)⟩)
    dsimp only [Pt.U, Pt.locs, Pt.cells, Pt.slots] at X22 l22 y22 z22 st22 hQ22
    subst l22 y22 z22
    obtain ⟨rfl, rfl, e22⟩ := hQ22
    have N22 := Fr.app N21 (Fr.nil n0)
    refine Go.step st22 ?_
    show Go FrameEnd p e below s 16 128 (Q0 Z p1 p2 p3 p4 p5 p6 h0 n0) (T22.setTop (mkF m 209 #[.val (.int p1), .val (.int p2), .val (.int p3), .val (.int p4), .val (.int p5), .val (.int p6), .val (.int (1 : Int32)), .val (.ref b12), .val (.ref b15a)] [(.int (1 : Int32))]))
    refine Go.step (fun _ k => XS.ifNo X22.here hx rfl (hb hby at_209) rfl ((if0 _ _).trans (feq (by decide)).1) k) ?_
    show Go FrameEnd p e below s 16 128 (Q0 Z p1 p2 p3 p4 p5 p6 h0 n0) (T22.setTop (mkF m 212 #[.val (.int p1), .val (.int p2), .val (.int p3), .val (.int p4), .val (.int p5), .val (.int p6), .val (.int (1 : Int32)), .val (.ref b12), .val (.ref b15a)] []))
    refine Go.step (fun _ k => XS.aload X22.here hx rfl (hb hby at_212) rfl rfl k) ?_
    show Go FrameEnd p e below s 16 128 (Q0 Z p1 p2 p3 p4 p5 p6 h0 n0) (T22.setTop (mkF m 214 #[.val (.int p1), .val (.int p2), .val (.int p3), .val (.int p4), .val (.int p5), .val (.int p6), .val (.int (1 : Int32)), .val (.ref b12), .val (.ref b15a)] [(.ref b15a)]))
    refine Go.step (fun _ k => XS.aload X22.here hx rfl (hb hby at_214) rfl rfl k) ?_
    show Go FrameEnd p e below s 16 128 (Q0 Z p1 p2 p3 p4 p5 p6 h0 n0) (T22.setTop (mkF m 216 #[.val (.int p1), .val (.int p2), .val (.int p3), .val (.int p4), .val (.int p5), .val (.int p6), .val (.int (1 : Int32)), .val (.ref b12), .val (.ref b15a)] [(.ref b12), (.ref b15a)]))
    refine Go.step (fun _ k => XS.iconst X22.here hx rfl (hb hby at_216) k) ?_
    show Go FrameEnd p e below s 16 128 (Q0 Z p1 p2 p3 p4 p5 p6 h0 n0) (T22.setTop (mkF m 217 #[.val (.int p1), .val (.int p2), .val (.int p3), .val (.int p4), .val (.int p5), .val (.int p6), .val (.int (1 : Int32)), .val (.ref b12), .val (.ref b15a)] [(.int (5 : Int32)), (.ref b12), (.ref b15a)]))
    obtain ⟨_, _, ⟨T23, L23, k23, n23⟩, -, X23, ⟨Lc23, hQ23, l23, y23, z23⟩, st23⟩ := Jvm.LawKit.callS X22 hx (y := (⟨"example/zedbox/PeriodsOfEachPrefixPinLaw", "ok", "([I[II)Z"⟩ : MethodName)) hown (mvT hZ (hw _ (List.mem_of_getElem? (i := 6) rfl))) (mvT hZ (hw _ (List.mem_of_getElem? (i := 7) rfl))) (mvT hZ (hw _ (List.mem_of_getElem? (i := 8) rfl))) (mvT hZ (hw _ (List.mem_of_getElem? (i := 9) rfl))) (by decide) (backOf (W := 0) (rm2 l Z a0 hw [] b15a b12 (zsel 1 (0 : Int32) (0 : Int32) (0 : Int32) (0 : Int32) (0 : Int32)) 5 1 T15.heap f_17 xA15_1 (by decide) hz) hZ (hw _ (List.mem_of_getElem? (i := 9) rfl)) (hw _ (List.mem_of_getElem? (i := 8) rfl)) (by decide) (by decide)) (g := (mkF m 217 #[.val (.int p1), .val (.int p2), .val (.int p3), .val (.int p4), .val (.int p5), .val (.int p6), .val (.int (1 : Int32)), .val (.ref b12), .val (.ref b15a)] [(.int (5 : Int32)), (.ref b12), (.ref b15a)])) rfl (by rw [hml]; rfl) (argsL := [(.ref b15a), (.ref b12), (.int (5 : Int32))]) (rest := []) (lenOf pd___I_II_Z rfl) rfl (by show 2 * 0 + _ ≤ _; exact Nat.le_of_eq rfl) (hb hby at_217) (fun _ _ => ⟨rfl, e22, (by decide : 2 + 0 ≤ _), (by decide : 8 + 0 ≤ _)⟩)
    dsimp only [Pt.U, Pt.locs, Pt.cells, Pt.slots] at X23 l23 y23 z23 st23 hQ23
    subst l23 y23 z23
    obtain ⟨rfl, rfl, e23⟩ := hQ23
    have N23 := Fr.app N22 (Fr.nil n0)
    refine Go.step st23 ?_
    show Go FrameEnd p e below s 16 128 (Q0 Z p1 p2 p3 p4 p5 p6 h0 n0) (T23.setTop (mkF m 220 #[.val (.int p1), .val (.int p2), .val (.int p3), .val (.int p4), .val (.int p5), .val (.int p6), .val (.int (1 : Int32)), .val (.ref b12), .val (.ref b15a)] [(.int (1 : Int32))]))
    refine Go.step (fun _ k => XS.ifNo X23.here hx rfl (hb hby at_220) rfl ((if0 _ _).trans (feq (by decide)).1) k) ?_
    show Go FrameEnd p e below s 16 128 (Q0 Z p1 p2 p3 p4 p5 p6 h0 n0) (T23.setTop (mkF m 223 #[.val (.int p1), .val (.int p2), .val (.int p3), .val (.int p4), .val (.int p5), .val (.int p6), .val (.int (1 : Int32)), .val (.ref b12), .val (.ref b15a)] []))
    refine Go.step (fun _ k => XS.aload X23.here hx rfl (hb hby at_223) rfl rfl k) ?_
    show Go FrameEnd p e below s 16 128 (Q0 Z p1 p2 p3 p4 p5 p6 h0 n0) (T23.setTop (mkF m 225 #[.val (.int p1), .val (.int p2), .val (.int p3), .val (.int p4), .val (.int p5), .val (.int p6), .val (.int (1 : Int32)), .val (.ref b12), .val (.ref b15a)] [(.ref b15a)]))
    refine Go.step (fun _ k => XS.aload X23.here hx rfl (hb hby at_225) rfl rfl k) ?_
    show Go FrameEnd p e below s 16 128 (Q0 Z p1 p2 p3 p4 p5 p6 h0 n0) (T23.setTop (mkF m 227 #[.val (.int p1), .val (.int p2), .val (.int p3), .val (.int p4), .val (.int p5), .val (.int p6), .val (.int (1 : Int32)), .val (.ref b12), .val (.ref b15a)] [(.ref b12), (.ref b15a)]))
    refine Go.step (fun _ k => XS.bipush X23.here hx rfl (hb hby at_227) k) ?_
    show Go FrameEnd p e below s 16 128 (Q0 Z p1 p2 p3 p4 p5 p6 h0 n0) (T23.setTop (mkF m 229 #[.val (.int p1), .val (.int p2), .val (.int p3), .val (.int p4), .val (.int p5), .val (.int p6), .val (.int (1 : Int32)), .val (.ref b12), .val (.ref b15a)] [(.int (6 : Int32)), (.ref b12), (.ref b15a)]))
    obtain ⟨_, _, ⟨T24, L24, k24, n24⟩, -, X24, ⟨Lc24, hQ24, l24, y24, z24⟩, st24⟩ := Jvm.LawKit.callS X23 hx (y := (⟨"example/zedbox/PeriodsOfEachPrefixPinLaw", "ok", "([I[II)Z"⟩ : MethodName)) hown (mvT hZ (hw _ (List.mem_of_getElem? (i := 6) rfl))) (mvT hZ (hw _ (List.mem_of_getElem? (i := 7) rfl))) (mvT hZ (hw _ (List.mem_of_getElem? (i := 8) rfl))) (mvT hZ (hw _ (List.mem_of_getElem? (i := 9) rfl))) (by decide) (backOf (W := 0) (rm2 l Z a0 hw [] b15a b12 (zsel 1 (0 : Int32) (0 : Int32) (0 : Int32) (0 : Int32) (0 : Int32)) 6 1 T15.heap f_17 xA15_1 (by decide) hz) hZ (hw _ (List.mem_of_getElem? (i := 9) rfl)) (hw _ (List.mem_of_getElem? (i := 8) rfl)) (by decide) (by decide)) (g := (mkF m 229 #[.val (.int p1), .val (.int p2), .val (.int p3), .val (.int p4), .val (.int p5), .val (.int p6), .val (.int (1 : Int32)), .val (.ref b12), .val (.ref b15a)] [(.int (6 : Int32)), (.ref b12), (.ref b15a)])) rfl (by rw [hml]; rfl) (argsL := [(.ref b15a), (.ref b12), (.int (6 : Int32))]) (rest := []) (lenOf pd___I_II_Z rfl) rfl (by show 2 * 0 + _ ≤ _; exact Nat.le_of_eq rfl) (hb hby at_229) (fun _ _ => ⟨rfl, e23, (by decide : 2 + 0 ≤ _), (by decide : 8 + 0 ≤ _)⟩)
    dsimp only [Pt.U, Pt.locs, Pt.cells, Pt.slots] at X24 l24 y24 z24 st24 hQ24
    subst l24 y24 z24
    obtain ⟨rfl, rfl, e24⟩ := hQ24
    have N24 := Fr.app N23 (Fr.nil n0)
    refine Go.step st24 ?_
    show Go FrameEnd p e below s 16 128 (Q0 Z p1 p2 p3 p4 p5 p6 h0 n0) (T24.setTop (mkF m 232 #[.val (.int p1), .val (.int p2), .val (.int p3), .val (.int p4), .val (.int p5), .val (.int p6), .val (.int (1 : Int32)), .val (.ref b12), .val (.ref b15a)] [(.int (1 : Int32))]))
    refine Go.step (fun _ k => XS.ifNo X24.here hx rfl (hb hby at_232) rfl ((if0 _ _).trans (feq (by decide)).1) k) ?_
    show Go FrameEnd p e below s 16 128 (Q0 Z p1 p2 p3 p4 p5 p6 h0 n0) (T24.setTop (mkF m 235 #[.val (.int p1), .val (.int p2), .val (.int p3), .val (.int p4), .val (.int p5), .val (.int p6), .val (.int (1 : Int32)), .val (.ref b12), .val (.ref b15a)] []))
    refine Go.step (fun _ k => XS.iconst X24.here hx rfl (hb hby at_235) k) ?_
    show Go FrameEnd p e below s 16 128 (Q0 Z p1 p2 p3 p4 p5 p6 h0 n0) (T24.setTop (mkF m 236 #[.val (.int p1), .val (.int p2), .val (.int p3), .val (.int p4), .val (.int p5), .val (.int p6), .val (.int (1 : Int32)), .val (.ref b12), .val (.ref b15a)] [(.int (1 : Int32))]))
    refine Go.step (fun _ k => XS.goto X24.here hx rfl (pc0 := 236) (pc' := 240) rfl (hb hby at_236) (by decide) (by decide) k) ?_
    show Go FrameEnd p e below s 16 128 (Q0 Z p1 p2 p3 p4 p5 p6 h0 n0) (T24.setTop (mkF m 240 #[.val (.int p1), .val (.int p2), .val (.int p3), .val (.int p4), .val (.int p5), .val (.int p6), .val (.int (1 : Int32)), .val (.ref b12), .val (.ref b15a)] [(.int (1 : Int32))]))
    refine Go.retN X24 hx (t := .boolean) Bd.returns (by simp) (by decide) (hb hby at_240) (BodyLoose.notSynchronized Bd) e24 (by decide) (by decide) ?_
    exact ⟨rfl, N24⟩
  · skip
    rw [q]
    show Go FrameEnd p e below s 16 128 (Q0 Z p1 p2 p3 p4 p5 p6 h0 n0) (s₁.setTop (mkF m 7 #[.val (.int p1), .val (.int p2), .val (.int p3), .val (.int p4), .val (.int p5), .val (.int p6), .unset, .unset, .unset] [(.int (2 : Int32))]))
    refine Go.step (fun _ k => XS.istore X0.here hx rfl (hb hby at_7) rfl (l' := #[.val (.int p1), .val (.int p2), .val (.int p3), .val (.int p4), .val (.int p5), .val (.int p6), .val (.int (2 : Int32)), .unset, .unset]) rfl k) ?_
    show Go FrameEnd p e below s 16 128 (Q0 Z p1 p2 p3 p4 p5 p6 h0 n0) (s₁.setTop (mkF m 9 #[.val (.int p1), .val (.int p2), .val (.int p3), .val (.int p4), .val (.int p5), .val (.int p6), .val (.int (2 : Int32)), .unset, .unset] []))
    refine Go.step (fun _ k => XS.iload X0.here hx rfl (hb hby at_9) rfl k) ?_
    show Go FrameEnd p e below s 16 128 (Q0 Z p1 p2 p3 p4 p5 p6 h0 n0) (s₁.setTop (mkF m 11 #[.val (.int p1), .val (.int p2), .val (.int p3), .val (.int p4), .val (.int p5), .val (.int p6), .val (.int (2 : Int32)), .unset, .unset] [(.int (2 : Int32))]))
    obtain ⟨T25, h25, k25, X25, e25, E25, A25, st25⟩ := newP X0 hx hZ (hw _ (List.mem_of_getElem? (i := 1) rfl)) e0 (g := (mkF m 11 #[.val (.int p1), .val (.int p2), .val (.int p3), .val (.int p4), .val (.int p5), .val (.int p6), .val (.int (2 : Int32)), .unset, .unset] [(.int (2 : Int32))])) rfl (hb hby at_11) rfl (by decide) (cap := 2) (by decide) (by decide) (by decide) (by decide)
    refine Go.step st25 ?_
    obtain ⟨b25, g25⟩ : ∃ z, z = h0.size := ⟨_, rfl⟩
    rw [← g25] at A25 ⊢
    have g_b25 : n0 ≤ b25 := Nat.le_trans Z0 (Nat.le_of_eq g25.symm)
    have Z25 : n0 ≤ h25.size := Nat.le_trans Z0 E25.1
    have V25 : Av Z h25 b25 .int 2 (fun _ => (.int (0 : Int32))) := Av.new A25 (by decide) rfl
    show Go FrameEnd p e below s 16 128 (Q0 Z p1 p2 p3 p4 p5 p6 h0 n0) (T25.setTop (mkF m 13 #[.val (.int p1), .val (.int p2), .val (.int p3), .val (.int p4), .val (.int p5), .val (.int p6), .val (.int (2 : Int32)), .unset, .unset] [(.ref b25)]))
    refine Go.step (fun _ k => XS.astore X25.here hx rfl (hb hby at_13) rfl rfl (l' := #[.val (.int p1), .val (.int p2), .val (.int p3), .val (.int p4), .val (.int p5), .val (.int p6), .val (.int (2 : Int32)), .val (.ref b25), .unset]) rfl k) ?_
    show Go FrameEnd p e below s 16 128 (Q0 Z p1 p2 p3 p4 p5 p6 h0 n0) (T25.setTop (mkF m 15 #[.val (.int p1), .val (.int p2), .val (.int p3), .val (.int p4), .val (.int p5), .val (.int p6), .val (.int (2 : Int32)), .val (.ref b25), .unset] []))
    refine Go.step (fun _ k => XS.iload X25.here hx rfl (hb hby at_15) rfl k) ?_
    show Go FrameEnd p e below s 16 128 (Q0 Z p1 p2 p3 p4 p5 p6 h0 n0) (T25.setTop (mkF m 17 #[.val (.int p1), .val (.int p2), .val (.int p3), .val (.int p4), .val (.int p5), .val (.int p6), .val (.int (2 : Int32)), .val (.ref b25), .unset] [(.int (2 : Int32))]))
    refine Go.step (fun _ k => XS.ifNo X25.here hx rfl (hb hby at_17) rfl ((if0 _ _).trans (tlt (by decide)).2.2.2) k) ?_
    show Go FrameEnd p e below s 16 128 (Q0 Z p1 p2 p3 p4 p5 p6 h0 n0) (T25.setTop (mkF m 20 #[.val (.int p1), .val (.int p2), .val (.int p3), .val (.int p4), .val (.int p5), .val (.int p6), .val (.int (2 : Int32)), .val (.ref b25), .unset] []))
    refine Go.step (fun _ k => XS.aload X25.here hx rfl (hb hby at_20) rfl rfl k) ?_
    show Go FrameEnd p e below s 16 128 (Q0 Z p1 p2 p3 p4 p5 p6 h0 n0) (T25.setTop (mkF m 22 #[.val (.int p1), .val (.int p2), .val (.int p3), .val (.int p4), .val (.int p5), .val (.int p6), .val (.int (2 : Int32)), .val (.ref b25), .unset] [(.ref b25)]))
    refine Go.step (fun _ k => XS.iconst X25.here hx rfl (hb hby at_22) k) ?_
    show Go FrameEnd p e below s 16 128 (Q0 Z p1 p2 p3 p4 p5 p6 h0 n0) (T25.setTop (mkF m 23 #[.val (.int p1), .val (.int p2), .val (.int p3), .val (.int p4), .val (.int p5), .val (.int p6), .val (.int (2 : Int32)), .val (.ref b25), .unset] [(.int (0 : Int32)), (.ref b25)]))
    refine Go.step (fun _ k => XS.iload X25.here hx rfl (hb hby at_23) rfl k) ?_
    show Go FrameEnd p e below s 16 128 (Q0 Z p1 p2 p3 p4 p5 p6 h0 n0) (T25.setTop (mkF m 25 #[.val (.int p1), .val (.int p2), .val (.int p3), .val (.int p4), .val (.int p5), .val (.int p6), .val (.int (2 : Int32)), .val (.ref b25), .unset] [(.int (2 : Int32)), (.int (0 : Int32)), (.ref b25)]))
    obtain ⟨c26, Ac26, Sc26, Mc26, Gc26⟩ := id V25
    obtain ⟨T27, h27, X27, e27, W27, st27⟩ := stI X25 hx hZ e25 Ac26 (j := (0 : Int32)) (own_in Sc26 (by decide) (by decide)) (g := (mkF m 25 #[.val (.int p1), .val (.int p2), .val (.int p3), .val (.int p4), .val (.int p5), .val (.int p6), .val (.int (2 : Int32)), .val (.ref b25), .unset] [(.int (2 : Int32)), (.int (0 : Int32)), (.ref b25)])) rfl rfl (hb hby at_25)
    refine Go.step st27 ?_
    have N27 := Fr.snoc X27 N0 g_b25
    have Z27 : n0 ≤ h27.size := Nat.le_trans Z25 (Keep.of_wr W27).1
    have V27 : Av Z h27 b25 .int 2 (aset (fun _ => (.int (0 : Int32))) 0 (.int (2 : Int32))) := Av.set Ac26 Sc26 Mc26 Gc26 W27 (by rfl) (own_in Sc26 (by decide) (by decide))
    show Go FrameEnd p e below s 16 128 (Q0 Z p1 p2 p3 p4 p5 p6 h0 n0) (T27.setTop (mkF m 26 #[.val (.int p1), .val (.int p2), .val (.int p3), .val (.int p4), .val (.int p5), .val (.int p6), .val (.int (2 : Int32)), .val (.ref b25), .unset] []))
    refine Go.step (fun _ k => XS.iload X27.here hx rfl (hb hby at_26) rfl k) ?_
    show Go FrameEnd p e below s 16 128 (Q0 Z p1 p2 p3 p4 p5 p6 h0 n0) (T27.setTop (mkF m 28 #[.val (.int p1), .val (.int p2), .val (.int p3), .val (.int p4), .val (.int p5), .val (.int p6), .val (.int (2 : Int32)), .val (.ref b25), .unset] [(.int (2 : Int32))]))
    refine Go.step (fun _ k => XS.iconst X27.here hx rfl (hb hby at_28) k) ?_
    show Go FrameEnd p e below s 16 128 (Q0 Z p1 p2 p3 p4 p5 p6 h0 n0) (T27.setTop (mkF m 29 #[.val (.int p1), .val (.int p2), .val (.int p3), .val (.int p4), .val (.int p5), .val (.int p6), .val (.int (2 : Int32)), .val (.ref b25), .unset] [(.int (1 : Int32)), (.int (2 : Int32))]))
    refine Go.step (fun _ k => XS.icmpNo X27.here hx rfl (hb hby at_29) rfl (tlt (by decide)).2.2.2 k) ?_
    show Go FrameEnd p e below s 16 128 (Q0 Z p1 p2 p3 p4 p5 p6 h0 n0) (T27.setTop (mkF m 32 #[.val (.int p1), .val (.int p2), .val (.int p3), .val (.int p4), .val (.int p5), .val (.int p6), .val (.int (2 : Int32)), .val (.ref b25), .unset] []))
    refine Go.step (fun _ k => XS.aload X27.here hx rfl (hb hby at_32) rfl rfl k) ?_
    show Go FrameEnd p e below s 16 128 (Q0 Z p1 p2 p3 p4 p5 p6 h0 n0) (T27.setTop (mkF m 34 #[.val (.int p1), .val (.int p2), .val (.int p3), .val (.int p4), .val (.int p5), .val (.int p6), .val (.int (2 : Int32)), .val (.ref b25), .unset] [(.ref b25)]))
    refine Go.step (fun _ k => XS.iconst X27.here hx rfl (hb hby at_34) k) ?_
    show Go FrameEnd p e below s 16 128 (Q0 Z p1 p2 p3 p4 p5 p6 h0 n0) (T27.setTop (mkF m 35 #[.val (.int p1), .val (.int p2), .val (.int p3), .val (.int p4), .val (.int p5), .val (.int p6), .val (.int (2 : Int32)), .val (.ref b25), .unset] [(.int (1 : Int32)), (.ref b25)]))
    refine Go.step (fun _ k => XS.iloadN X27.here hx rfl (hb hby at_35) rfl k) ?_
    show Go FrameEnd p e below s 16 128 (Q0 Z p1 p2 p3 p4 p5 p6 h0 n0) (T27.setTop (mkF m 36 #[.val (.int p1), .val (.int p2), .val (.int p3), .val (.int p4), .val (.int p5), .val (.int p6), .val (.int (2 : Int32)), .val (.ref b25), .unset] [(.int p2), (.int (1 : Int32)), (.ref b25)]))
    refine Go.step (X27.ldcInt hx hown (mvT hZ (hw _ (List.mem_of_getElem? (i := 0) rfl))) (g := (mkF m 36 #[.val (.int p1), .val (.int p2), .val (.int p3), .val (.int p4), .val (.int p5), .val (.int p6), .val (.int (2 : Int32)), .val (.ref b25), .unset] [(.int p2), (.int (1 : Int32)), (.ref b25)])) rfl (hb hby at_36)) ?_
    show Go FrameEnd p e below s 16 128 (Q0 Z p1 p2 p3 p4 p5 p6 h0 n0) (T27.setTop (mkF m 38 #[.val (.int p1), .val (.int p2), .val (.int p3), .val (.int p4), .val (.int p5), .val (.int p6), .val (.int (2 : Int32)), .val (.ref b25), .unset] [(.int (2147483647 : Int32)), (.int p2), (.int (1 : Int32)), (.ref b25)]))
    refine Go.step (fun _ k => XS.iand X27.here hx rfl (hb hby at_38) rfl k) ?_
    show Go FrameEnd p e below s 16 128 (Q0 Z p1 p2 p3 p4 p5 p6 h0 n0) (T27.setTop (mkF m 39 #[.val (.int p1), .val (.int p2), .val (.int p3), .val (.int p4), .val (.int p5), .val (.int p6), .val (.int (2 : Int32)), .val (.ref b25), .unset] [(.int (p2 &&& (2147483647 : Int32))), (.int (1 : Int32)), (.ref b25)]))
    refine Go.step (fun _ k => XS.iload X27.here hx rfl (hb hby at_39) rfl k) ?_
    show Go FrameEnd p e below s 16 128 (Q0 Z p1 p2 p3 p4 p5 p6 h0 n0) (T27.setTop (mkF m 41 #[.val (.int p1), .val (.int p2), .val (.int p3), .val (.int p4), .val (.int p5), .val (.int p6), .val (.int (2 : Int32)), .val (.ref b25), .unset] [(.int (2 : Int32)), (.int (p2 &&& (2147483647 : Int32))), (.int (1 : Int32)), (.ref b25)]))
    refine Go.step (fun _ k => XS.iconst X27.here hx rfl (hb hby at_41) k) ?_
    show Go FrameEnd p e below s 16 128 (Q0 Z p1 p2 p3 p4 p5 p6 h0 n0) (T27.setTop (mkF m 42 #[.val (.int p1), .val (.int p2), .val (.int p3), .val (.int p4), .val (.int p5), .val (.int p6), .val (.int (2 : Int32)), .val (.ref b25), .unset] [(.int (1 : Int32)), (.int (2 : Int32)), (.int (p2 &&& (2147483647 : Int32))), (.int (1 : Int32)), (.ref b25)]))
    refine Go.step (fun _ k => XS.isub X27.here hx rfl (hb hby at_42) rfl k) ?_
    show Go FrameEnd p e below s 16 128 (Q0 Z p1 p2 p3 p4 p5 p6 h0 n0) (T27.setTop (mkF m 43 #[.val (.int p1), .val (.int p2), .val (.int p3), .val (.int p4), .val (.int p5), .val (.int p6), .val (.int (2 : Int32)), .val (.ref b25), .unset] [(.int (1 : Int32)), (.int (p2 &&& (2147483647 : Int32))), (.int (1 : Int32)), (.ref b25)]))
    refine Go.step (fun _ k => XS.iconst X27.here hx rfl (hb hby at_43) k) ?_
    show Go FrameEnd p e below s 16 128 (Q0 Z p1 p2 p3 p4 p5 p6 h0 n0) (T27.setTop (mkF m 44 #[.val (.int p1), .val (.int p2), .val (.int p3), .val (.int p4), .val (.int p5), .val (.int p6), .val (.int (2 : Int32)), .val (.ref b25), .unset] [(.int (1 : Int32)), (.int (1 : Int32)), (.int (p2 &&& (2147483647 : Int32))), (.int (1 : Int32)), (.ref b25)]))
    refine Go.step (fun _ k => XS.iadd X27.here hx rfl (hb hby at_44) rfl k) ?_
    show Go FrameEnd p e below s 16 128 (Q0 Z p1 p2 p3 p4 p5 p6 h0 n0) (T27.setTop (mkF m 45 #[.val (.int p1), .val (.int p2), .val (.int p3), .val (.int p4), .val (.int p5), .val (.int p6), .val (.int (2 : Int32)), .val (.ref b25), .unset] [(.int (2 : Int32)), (.int (p2 &&& (2147483647 : Int32))), (.int (1 : Int32)), (.ref b25)]))
    refine Go.step (fun _ k => iremM X27 hx rfl (hb hby at_45) rfl (by decide) k) ?_
    show Go FrameEnd p e below s 16 128 (Q0 Z p1 p2 p3 p4 p5 p6 h0 n0) (T27.setTop (mkF m 46 #[.val (.int p1), .val (.int p2), .val (.int p3), .val (.int p4), .val (.int p5), .val (.int p6), .val (.int (2 : Int32)), .val (.ref b25), .unset] [(.int ((p2 &&& (2147483647 : Int32)) % (2 : Int32))), (.int (1 : Int32)), (.ref b25)]))
    obtain ⟨c28, Ac28, Sc28, Mc28, Gc28⟩ := id V27
    obtain ⟨T29, h29, X29, e29, W29, st29⟩ := stI X27 hx hZ e27 Ac28 (j := (1 : Int32)) (own_in Sc28 (by decide) (by decide)) (g := (mkF m 46 #[.val (.int p1), .val (.int p2), .val (.int p3), .val (.int p4), .val (.int p5), .val (.int p6), .val (.int (2 : Int32)), .val (.ref b25), .unset] [(.int ((p2 &&& (2147483647 : Int32)) % (2 : Int32))), (.int (1 : Int32)), (.ref b25)])) rfl rfl (hb hby at_46)
    refine Go.step st29 ?_
    have N29 := Fr.snoc X29 N27 g_b25
    have Z29 : n0 ≤ h29.size := Nat.le_trans Z27 (Keep.of_wr W29).1
    have V29 : Av Z h29 b25 .int 2 (aset (aset (fun _ => (.int (0 : Int32))) 0 (.int (2 : Int32))) 1 (.int ((p2 &&& (2147483647 : Int32)) % (2 : Int32)))) := Av.set Ac28 Sc28 Mc28 Gc28 W29 (by rfl) (own_in Sc28 (by decide) (by decide))
    show Go FrameEnd p e below s 16 128 (Q0 Z p1 p2 p3 p4 p5 p6 h0 n0) (T29.setTop (mkF m 47 #[.val (.int p1), .val (.int p2), .val (.int p3), .val (.int p4), .val (.int p5), .val (.int p6), .val (.int (2 : Int32)), .val (.ref b25), .unset] []))
    refine Go.step (fun _ k => XS.iload X29.here hx rfl (hb hby at_47) rfl k) ?_
    show Go FrameEnd p e below s 16 128 (Q0 Z p1 p2 p3 p4 p5 p6 h0 n0) (T29.setTop (mkF m 49 #[.val (.int p1), .val (.int p2), .val (.int p3), .val (.int p4), .val (.int p5), .val (.int p6), .val (.int (2 : Int32)), .val (.ref b25), .unset] [(.int (2 : Int32))]))
    refine Go.step (fun _ k => XS.iconst X29.here hx rfl (hb hby at_49) k) ?_
    show Go FrameEnd p e below s 16 128 (Q0 Z p1 p2 p3 p4 p5 p6 h0 n0) (T29.setTop (mkF m 50 #[.val (.int p1), .val (.int p2), .val (.int p3), .val (.int p4), .val (.int p5), .val (.int p6), .val (.int (2 : Int32)), .val (.ref b25), .unset] [(.int (2 : Int32)), (.int (2 : Int32))]))
    refine Go.step (fun _ k => XS.icmpYes X29.here hx rfl (pc0 := 50) (pc' := 68) rfl (hb hby at_50) rfl (flt (by decide)).2.2.2 (by decide) (by decide) k) ?_
    show Go FrameEnd p e below s 16 128 (Q0 Z p1 p2 p3 p4 p5 p6 h0 n0) (T29.setTop (mkF m 68 #[.val (.int p1), .val (.int p2), .val (.int p3), .val (.int p4), .val (.int p5), .val (.int p6), .val (.int (2 : Int32)), .val (.ref b25), .unset] []))
    refine Go.step (fun _ k => XS.iload X29.here hx rfl (hb hby at_68) rfl k) ?_
    show Go FrameEnd p e below s 16 128 (Q0 Z p1 p2 p3 p4 p5 p6 h0 n0) (T29.setTop (mkF m 70 #[.val (.int p1), .val (.int p2), .val (.int p3), .val (.int p4), .val (.int p5), .val (.int p6), .val (.int (2 : Int32)), .val (.ref b25), .unset] [(.int (2 : Int32))]))
    refine Go.step (fun _ k => XS.iconst X29.here hx rfl (hb hby at_70) k) ?_
    show Go FrameEnd p e below s 16 128 (Q0 Z p1 p2 p3 p4 p5 p6 h0 n0) (T29.setTop (mkF m 71 #[.val (.int p1), .val (.int p2), .val (.int p3), .val (.int p4), .val (.int p5), .val (.int p6), .val (.int (2 : Int32)), .val (.ref b25), .unset] [(.int (3 : Int32)), (.int (2 : Int32))]))
    refine Go.step (fun _ k => XS.icmpYes X29.here hx rfl (pc0 := 71) (pc' := 89) rfl (hb hby at_71) rfl (flt (by decide)).2.2.2 (by decide) (by decide) k) ?_
    show Go FrameEnd p e below s 16 128 (Q0 Z p1 p2 p3 p4 p5 p6 h0 n0) (T29.setTop (mkF m 89 #[.val (.int p1), .val (.int p2), .val (.int p3), .val (.int p4), .val (.int p5), .val (.int p6), .val (.int (2 : Int32)), .val (.ref b25), .unset] []))
    refine Go.step (fun _ k => XS.iload X29.here hx rfl (hb hby at_89) rfl k) ?_
    show Go FrameEnd p e below s 16 128 (Q0 Z p1 p2 p3 p4 p5 p6 h0 n0) (T29.setTop (mkF m 91 #[.val (.int p1), .val (.int p2), .val (.int p3), .val (.int p4), .val (.int p5), .val (.int p6), .val (.int (2 : Int32)), .val (.ref b25), .unset] [(.int (2 : Int32))]))
    refine Go.step (fun _ k => XS.iconst X29.here hx rfl (hb hby at_91) k) ?_
    show Go FrameEnd p e below s 16 128 (Q0 Z p1 p2 p3 p4 p5 p6 h0 n0) (T29.setTop (mkF m 92 #[.val (.int p1), .val (.int p2), .val (.int p3), .val (.int p4), .val (.int p5), .val (.int p6), .val (.int (2 : Int32)), .val (.ref b25), .unset] [(.int (4 : Int32)), (.int (2 : Int32))]))
    refine Go.step (fun _ k => XS.icmpYes X29.here hx rfl (pc0 := 92) (pc' := 111) rfl (hb hby at_92) rfl (flt (by decide)).2.2.2 (by decide) (by decide) k) ?_
    show Go FrameEnd p e below s 16 128 (Q0 Z p1 p2 p3 p4 p5 p6 h0 n0) (T29.setTop (mkF m 111 #[.val (.int p1), .val (.int p2), .val (.int p3), .val (.int p4), .val (.int p5), .val (.int p6), .val (.int (2 : Int32)), .val (.ref b25), .unset] []))
    refine Go.step (fun _ k => XS.iload X29.here hx rfl (hb hby at_111) rfl k) ?_
    show Go FrameEnd p e below s 16 128 (Q0 Z p1 p2 p3 p4 p5 p6 h0 n0) (T29.setTop (mkF m 113 #[.val (.int p1), .val (.int p2), .val (.int p3), .val (.int p4), .val (.int p5), .val (.int p6), .val (.int (2 : Int32)), .val (.ref b25), .unset] [(.int (2 : Int32))]))
    refine Go.step (fun _ k => XS.iconst X29.here hx rfl (hb hby at_113) k) ?_
    show Go FrameEnd p e below s 16 128 (Q0 Z p1 p2 p3 p4 p5 p6 h0 n0) (T29.setTop (mkF m 114 #[.val (.int p1), .val (.int p2), .val (.int p3), .val (.int p4), .val (.int p5), .val (.int p6), .val (.int (2 : Int32)), .val (.ref b25), .unset] [(.int (5 : Int32)), (.int (2 : Int32))]))
    refine Go.step (fun _ k => XS.icmpYes X29.here hx rfl (pc0 := 114) (pc' := 133) rfl (hb hby at_114) rfl (flt (by decide)).2.2.2 (by decide) (by decide) k) ?_
    show Go FrameEnd p e below s 16 128 (Q0 Z p1 p2 p3 p4 p5 p6 h0 n0) (T29.setTop (mkF m 133 #[.val (.int p1), .val (.int p2), .val (.int p3), .val (.int p4), .val (.int p5), .val (.int p6), .val (.int (2 : Int32)), .val (.ref b25), .unset] []))
    have x1 := own_rem p2 (2 : Int32) (by decide)
    rw [show ((2 : Int32)).toInt = 2 from by decide] at x1
    have Vz : Av Z h29 b25 .int 2 (fun j => .int (Int32.ofNat ((zsel 2 ((p2 &&& (2147483647 : Int32)) % (2 : Int32)) (0 : Int32) (0 : Int32) (0 : Int32) (0 : Int32)) j))) := (V29).eq (fun j hj => by
      rcases (by omega : j = 0 ∨ j = 1) with rfl | rfl
      · rfl
      · exact congrArg Value.int (own_back x1.1).symm)
    have hz : ∀ j, 1 ≤ j → j < 2 → j + (zsel 2 ((p2 &&& (2147483647 : Int32)) % (2 : Int32)) (0 : Int32) (0 : Int32) (0 : Int32) (0 : Int32)) j ≤ 2 := fun j h1 h2 => by
      rcases (by omega : j = 1) with rfl
      · show 1 + (((p2 &&& (2147483647 : Int32)) % (2 : Int32))).toInt.toNat ≤ 2; omega
    refine Go.step (fun _ k => XS.aload X29.here hx rfl (hb hby at_133) rfl rfl k) ?_
    show Go FrameEnd p e below s 16 128 (Q0 Z p1 p2 p3 p4 p5 p6 h0 n0) (T29.setTop (mkF m 135 #[.val (.int p1), .val (.int p2), .val (.int p3), .val (.int p4), .val (.int p5), .val (.int p6), .val (.int (2 : Int32)), .val (.ref b25), .unset] [(.ref b25)]))
    obtain ⟨_, _, ⟨T30, L30, k30, n30⟩, -, X30, ⟨Lc30, hQ30, l30, y30, z30⟩, st30⟩ := Jvm.LawKit.callS X29 hx (y := (⟨"example/zedbox/Periods", "ofEachPrefix", "([I)[I"⟩ : MethodName)) hown (mvT hZ (hw _ (List.mem_of_getElem? (i := 2) rfl))) (mvT hZ (hw _ (List.mem_of_getElem? (i := 3) rfl))) (mvT hZ (hw _ (List.mem_of_getElem? (i := 4) rfl))) (mvT hZ (hw _ (List.mem_of_getElem? (i := 5) rfl))) (by decide) (backOf (W := 0) (rm3 l Z a0 hw [] b25 (zsel 2 ((p2 &&& (2147483647 : Int32)) % (2 : Int32)) (0 : Int32) (0 : Int32) (0 : Int32) (0 : Int32)) 2 h29 n0 Z29 Vz (by decide) hz) hZ (hw _ (List.mem_of_getElem? (i := 5) rfl)) (hw _ (List.mem_of_getElem? (i := 4) rfl)) (by decide) (by decide)) (g := (mkF m 135 #[.val (.int p1), .val (.int p2), .val (.int p3), .val (.int p4), .val (.int p5), .val (.int p6), .val (.int (2 : Int32)), .val (.ref b25), .unset] [(.ref b25)])) rfl (by rw [hml]; rfl) (argsL := [(.ref b25)]) (rest := []) (lenOf pd___I__I rfl) rfl (by show 2 * 0 + _ ≤ _; exact Nat.le_of_eq rfl) (hb hby at_135) (fun _ _ => ⟨rfl, e29, (by decide : 1 + 1 ≤ _), (by decide : 2 + 7 ≤ _)⟩)
    dsimp only [Pt.U, Pt.locs, Pt.cells, Pt.slots] at X30 l30 y30 z30 st30 hQ30
    subst l30 y30 z30
    obtain ⟨b30a, rfl, N30q, szb30a, K30_0, xA30_1⟩ := hQ30
    have N30 := Fr.app N29 N30q
    have ne_b25_b30a : b25 ≠ b30a := Nat.ne_of_lt (Nat.lt_of_lt_of_le Vz.lt szb30a)
    have g_b30a : n0 ≤ b30a := Nat.le_trans Z29 szb30a
    have Z30 : n0 ≤ T30.heap.size := Nat.le_trans Z29 K30_0.1
    refine Go.step st30 ?_
    show Go FrameEnd p e below s 16 128 (Q0 Z p1 p2 p3 p4 p5 p6 h0 n0) (T30.setTop (mkF m 138 #[.val (.int p1), .val (.int p2), .val (.int p3), .val (.int p4), .val (.int p5), .val (.int p6), .val (.int (2 : Int32)), .val (.ref b25), .unset] [(.ref b30a)]))
    refine Go.step (fun _ k => XS.astore X30.here hx rfl (hb hby at_138) rfl rfl (l' := #[.val (.int p1), .val (.int p2), .val (.int p3), .val (.int p4), .val (.int p5), .val (.int p6), .val (.int (2 : Int32)), .val (.ref b25), .val (.ref b30a)]) rfl k) ?_
    show Go FrameEnd p e below s 16 128 (Q0 Z p1 p2 p3 p4 p5 p6 h0 n0) (T30.setTop (mkF m 140 #[.val (.int p1), .val (.int p2), .val (.int p3), .val (.int p4), .val (.int p5), .val (.int p6), .val (.int (2 : Int32)), .val (.ref b25), .val (.ref b30a)] []))
    refine Go.step (fun _ k => XS.aload X30.here hx rfl (hb hby at_140) rfl rfl k) ?_
    show Go FrameEnd p e below s 16 128 (Q0 Z p1 p2 p3 p4 p5 p6 h0 n0) (T30.setTop (mkF m 142 #[.val (.int p1), .val (.int p2), .val (.int p3), .val (.int p4), .val (.int p5), .val (.int p6), .val (.int (2 : Int32)), .val (.ref b25), .val (.ref b30a)] [(.ref b30a)]))
    refine Go.step (fun _ k => XS.ifnullNo X30.here hx rfl (hb hby at_142) rfl k) ?_
    show Go FrameEnd p e below s 16 128 (Q0 Z p1 p2 p3 p4 p5 p6 h0 n0) (T30.setTop (mkF m 145 #[.val (.int p1), .val (.int p2), .val (.int p3), .val (.int p4), .val (.int p5), .val (.int p6), .val (.int (2 : Int32)), .val (.ref b25), .val (.ref b30a)] []))
    refine Go.step (fun _ k => XS.aload X30.here hx rfl (hb hby at_145) rfl rfl k) ?_
    show Go FrameEnd p e below s 16 128 (Q0 Z p1 p2 p3 p4 p5 p6 h0 n0) (T30.setTop (mkF m 147 #[.val (.int p1), .val (.int p2), .val (.int p3), .val (.int p4), .val (.int p5), .val (.int p6), .val (.int (2 : Int32)), .val (.ref b25), .val (.ref b30a)] [(.ref b30a)]))
    obtain ⟨c31, Ac31, Sc31, Mc31, Gc31⟩ := id xA30_1
    refine Go.step (X30.arraylength hx Ac31.1 (State.isArrayOf_alike hZ.alike Ac31.2.1) (g := (mkF m 147 #[.val (.int p1), .val (.int p2), .val (.int p3), .val (.int p4), .val (.int p5), .val (.int p6), .val (.int (2 : Int32)), .val (.ref b25), .val (.ref b30a)] [(.ref b30a)])) rfl rfl (hb hby at_147)) ?_
    rw [show c31.slots.size.toInt32 = (3 : Int32) from congrArg Nat.toInt32 Sc31]
    show Go FrameEnd p e below s 16 128 (Q0 Z p1 p2 p3 p4 p5 p6 h0 n0) (T30.setTop (mkF m 148 #[.val (.int p1), .val (.int p2), .val (.int p3), .val (.int p4), .val (.int p5), .val (.int p6), .val (.int (2 : Int32)), .val (.ref b25), .val (.ref b30a)] [(.int (3 : Int32))]))
    refine Go.step (fun _ k => XS.iload X30.here hx rfl (hb hby at_148) rfl k) ?_
    show Go FrameEnd p e below s 16 128 (Q0 Z p1 p2 p3 p4 p5 p6 h0 n0) (T30.setTop (mkF m 150 #[.val (.int p1), .val (.int p2), .val (.int p3), .val (.int p4), .val (.int p5), .val (.int p6), .val (.int (2 : Int32)), .val (.ref b25), .val (.ref b30a)] [(.int (2 : Int32)), (.int (3 : Int32))]))
    refine Go.step (fun _ k => XS.iconst X30.here hx rfl (hb hby at_150) k) ?_
    show Go FrameEnd p e below s 16 128 (Q0 Z p1 p2 p3 p4 p5 p6 h0 n0) (T30.setTop (mkF m 151 #[.val (.int p1), .val (.int p2), .val (.int p3), .val (.int p4), .val (.int p5), .val (.int p6), .val (.int (2 : Int32)), .val (.ref b25), .val (.ref b30a)] [(.int (1 : Int32)), (.int (2 : Int32)), (.int (3 : Int32))]))
    refine Go.step (fun _ k => XS.iadd X30.here hx rfl (hb hby at_151) rfl k) ?_
    show Go FrameEnd p e below s 16 128 (Q0 Z p1 p2 p3 p4 p5 p6 h0 n0) (T30.setTop (mkF m 152 #[.val (.int p1), .val (.int p2), .val (.int p3), .val (.int p4), .val (.int p5), .val (.int p6), .val (.int (2 : Int32)), .val (.ref b25), .val (.ref b30a)] [(.int (3 : Int32)), (.int (3 : Int32))]))
    refine Go.step (fun _ k => XS.icmpYes X30.here hx rfl (pc0 := 152) (pc' := 157) rfl (hb hby at_152) rfl (teq rfl).1 (by decide) (by decide) k) ?_
    show Go FrameEnd p e below s 16 128 (Q0 Z p1 p2 p3 p4 p5 p6 h0 n0) (T30.setTop (mkF m 157 #[.val (.int p1), .val (.int p2), .val (.int p3), .val (.int p4), .val (.int p5), .val (.int p6), .val (.int (2 : Int32)), .val (.ref b25), .val (.ref b30a)] []))
    refine Go.step (fun _ k => XS.aload X30.here hx rfl (hb hby at_157) rfl rfl k) ?_
    show Go FrameEnd p e below s 16 128 (Q0 Z p1 p2 p3 p4 p5 p6 h0 n0) (T30.setTop (mkF m 159 #[.val (.int p1), .val (.int p2), .val (.int p3), .val (.int p4), .val (.int p5), .val (.int p6), .val (.int (2 : Int32)), .val (.ref b25), .val (.ref b30a)] [(.ref b30a)]))
    refine Go.step (fun _ k => XS.aload X30.here hx rfl (hb hby at_159) rfl rfl k) ?_
    show Go FrameEnd p e below s 16 128 (Q0 Z p1 p2 p3 p4 p5 p6 h0 n0) (T30.setTop (mkF m 161 #[.val (.int p1), .val (.int p2), .val (.int p3), .val (.int p4), .val (.int p5), .val (.int p6), .val (.int (2 : Int32)), .val (.ref b25), .val (.ref b30a)] [(.ref b25), (.ref b30a)]))
    refine Go.step (fun _ k => XS.iconst X30.here hx rfl (hb hby at_161) k) ?_
    show Go FrameEnd p e below s 16 128 (Q0 Z p1 p2 p3 p4 p5 p6 h0 n0) (T30.setTop (mkF m 162 #[.val (.int p1), .val (.int p2), .val (.int p3), .val (.int p4), .val (.int p5), .val (.int p6), .val (.int (2 : Int32)), .val (.ref b25), .val (.ref b30a)] [(.int (0 : Int32)), (.ref b25), (.ref b30a)]))
    have f_32 := (Vz.keep K30_0 nin0)
    obtain ⟨_, _, ⟨T33, L33, k33, n33⟩, -, X33, ⟨Lc33, hQ33, l33, y33, z33⟩, st33⟩ := Jvm.LawKit.callS X30 hx (y := (⟨"example/zedbox/PeriodsOfEachPrefixPinLaw", "ok", "([I[II)Z"⟩ : MethodName)) hown (mvT hZ (hw _ (List.mem_of_getElem? (i := 6) rfl))) (mvT hZ (hw _ (List.mem_of_getElem? (i := 7) rfl))) (mvT hZ (hw _ (List.mem_of_getElem? (i := 8) rfl))) (mvT hZ (hw _ (List.mem_of_getElem? (i := 9) rfl))) (by decide) (backOf (W := 0) (rm2 l Z a0 hw [] b30a b25 (zsel 2 ((p2 &&& (2147483647 : Int32)) % (2 : Int32)) (0 : Int32) (0 : Int32) (0 : Int32) (0 : Int32)) 0 2 T30.heap f_32 xA30_1 (by decide) hz) hZ (hw _ (List.mem_of_getElem? (i := 9) rfl)) (hw _ (List.mem_of_getElem? (i := 8) rfl)) (by decide) (by decide)) (g := (mkF m 162 #[.val (.int p1), .val (.int p2), .val (.int p3), .val (.int p4), .val (.int p5), .val (.int p6), .val (.int (2 : Int32)), .val (.ref b25), .val (.ref b30a)] [(.int (0 : Int32)), (.ref b25), (.ref b30a)])) rfl (by rw [hml]; rfl) (argsL := [(.ref b30a), (.ref b25), (.int (0 : Int32))]) (rest := []) (lenOf pd___I_II_Z rfl) rfl (by show 2 * 0 + _ ≤ _; exact Nat.le_of_eq rfl) (hb hby at_162) (fun _ _ => ⟨rfl, rfl, (by decide : 2 + 0 ≤ _), (by decide : 9 + 0 ≤ _)⟩)
    dsimp only [Pt.U, Pt.locs, Pt.cells, Pt.slots] at X33 l33 y33 z33 st33 hQ33
    subst l33 y33 z33
    obtain ⟨rfl, rfl, e33⟩ := hQ33
    have N33 := Fr.app N30 (Fr.nil n0)
    refine Go.step st33 ?_
    show Go FrameEnd p e below s 16 128 (Q0 Z p1 p2 p3 p4 p5 p6 h0 n0) (T33.setTop (mkF m 165 #[.val (.int p1), .val (.int p2), .val (.int p3), .val (.int p4), .val (.int p5), .val (.int p6), .val (.int (2 : Int32)), .val (.ref b25), .val (.ref b30a)] [(.int (1 : Int32))]))
    refine Go.step (fun _ k => XS.ifNo X33.here hx rfl (hb hby at_165) rfl ((if0 _ _).trans (feq (by decide)).1) k) ?_
    show Go FrameEnd p e below s 16 128 (Q0 Z p1 p2 p3 p4 p5 p6 h0 n0) (T33.setTop (mkF m 168 #[.val (.int p1), .val (.int p2), .val (.int p3), .val (.int p4), .val (.int p5), .val (.int p6), .val (.int (2 : Int32)), .val (.ref b25), .val (.ref b30a)] []))
    refine Go.step (fun _ k => XS.aload X33.here hx rfl (hb hby at_168) rfl rfl k) ?_
    show Go FrameEnd p e below s 16 128 (Q0 Z p1 p2 p3 p4 p5 p6 h0 n0) (T33.setTop (mkF m 170 #[.val (.int p1), .val (.int p2), .val (.int p3), .val (.int p4), .val (.int p5), .val (.int p6), .val (.int (2 : Int32)), .val (.ref b25), .val (.ref b30a)] [(.ref b30a)]))
    refine Go.step (fun _ k => XS.aload X33.here hx rfl (hb hby at_170) rfl rfl k) ?_
    show Go FrameEnd p e below s 16 128 (Q0 Z p1 p2 p3 p4 p5 p6 h0 n0) (T33.setTop (mkF m 172 #[.val (.int p1), .val (.int p2), .val (.int p3), .val (.int p4), .val (.int p5), .val (.int p6), .val (.int (2 : Int32)), .val (.ref b25), .val (.ref b30a)] [(.ref b25), (.ref b30a)]))
    refine Go.step (fun _ k => XS.iconst X33.here hx rfl (hb hby at_172) k) ?_
    show Go FrameEnd p e below s 16 128 (Q0 Z p1 p2 p3 p4 p5 p6 h0 n0) (T33.setTop (mkF m 173 #[.val (.int p1), .val (.int p2), .val (.int p3), .val (.int p4), .val (.int p5), .val (.int p6), .val (.int (2 : Int32)), .val (.ref b25), .val (.ref b30a)] [(.int (1 : Int32)), (.ref b25), (.ref b30a)]))
    obtain ⟨_, _, ⟨T34, L34, k34, n34⟩, -, X34, ⟨Lc34, hQ34, l34, y34, z34⟩, st34⟩ := Jvm.LawKit.callS X33 hx (y := (⟨"example/zedbox/PeriodsOfEachPrefixPinLaw", "ok", "([I[II)Z"⟩ : MethodName)) hown (mvT hZ (hw _ (List.mem_of_getElem? (i := 6) rfl))) (mvT hZ (hw _ (List.mem_of_getElem? (i := 7) rfl))) (mvT hZ (hw _ (List.mem_of_getElem? (i := 8) rfl))) (mvT hZ (hw _ (List.mem_of_getElem? (i := 9) rfl))) (by decide) (backOf (W := 0) (rm2 l Z a0 hw [] b30a b25 (zsel 2 ((p2 &&& (2147483647 : Int32)) % (2 : Int32)) (0 : Int32) (0 : Int32) (0 : Int32) (0 : Int32)) 1 2 T30.heap f_32 xA30_1 (by decide) hz) hZ (hw _ (List.mem_of_getElem? (i := 9) rfl)) (hw _ (List.mem_of_getElem? (i := 8) rfl)) (by decide) (by decide)) (g := (mkF m 173 #[.val (.int p1), .val (.int p2), .val (.int p3), .val (.int p4), .val (.int p5), .val (.int p6), .val (.int (2 : Int32)), .val (.ref b25), .val (.ref b30a)] [(.int (1 : Int32)), (.ref b25), (.ref b30a)])) rfl (by rw [hml]; rfl) (argsL := [(.ref b30a), (.ref b25), (.int (1 : Int32))]) (rest := []) (lenOf pd___I_II_Z rfl) rfl (by show 2 * 0 + _ ≤ _; exact Nat.le_of_eq rfl) (hb hby at_173) (fun _ _ => ⟨rfl, e33, (by decide : 2 + 0 ≤ _), (by decide : 9 + 0 ≤ _)⟩)
    dsimp only [Pt.U, Pt.locs, Pt.cells, Pt.slots] at X34 l34 y34 z34 st34 hQ34
    subst l34 y34 z34
    obtain ⟨rfl, rfl, e34⟩ := hQ34
    have N34 := Fr.app N33 (Fr.nil n0)
    refine Go.step st34 ?_
    show Go FrameEnd p e below s 16 128 (Q0 Z p1 p2 p3 p4 p5 p6 h0 n0) (T34.setTop (mkF m 176 #[.val (.int p1), .val (.int p2), .val (.int p3), .val (.int p4), .val (.int p5), .val (.int p6), .val (.int (2 : Int32)), .val (.ref b25), .val (.ref b30a)] [(.int (1 : Int32))]))
    refine Go.step (fun _ k => XS.ifNo X34.here hx rfl (hb hby at_176) rfl ((if0 _ _).trans (feq (by decide)).1) k) ?_
    show Go FrameEnd p e below s 16 128 (Q0 Z p1 p2 p3 p4 p5 p6 h0 n0) (T34.setTop (mkF m 179 #[.val (.int p1), .val (.int p2), .val (.int p3), .val (.int p4), .val (.int p5), .val (.int p6), .val (.int (2 : Int32)), .val (.ref b25), .val (.ref b30a)] []))
    refine Go.step (fun _ k => XS.aload X34.here hx rfl (hb hby at_179) rfl rfl k) ?_
    show Go FrameEnd p e below s 16 128 (Q0 Z p1 p2 p3 p4 p5 p6 h0 n0) (T34.setTop (mkF m 181 #[.val (.int p1), .val (.int p2), .val (.int p3), .val (.int p4), .val (.int p5), .val (.int p6), .val (.int (2 : Int32)), .val (.ref b25), .val (.ref b30a)] [(.ref b30a)]))
    refine Go.step (fun _ k => XS.aload X34.here hx rfl (hb hby at_181) rfl rfl k) ?_
    show Go FrameEnd p e below s 16 128 (Q0 Z p1 p2 p3 p4 p5 p6 h0 n0) (T34.setTop (mkF m 183 #[.val (.int p1), .val (.int p2), .val (.int p3), .val (.int p4), .val (.int p5), .val (.int p6), .val (.int (2 : Int32)), .val (.ref b25), .val (.ref b30a)] [(.ref b25), (.ref b30a)]))
    refine Go.step (fun _ k => XS.iconst X34.here hx rfl (hb hby at_183) k) ?_
    show Go FrameEnd p e below s 16 128 (Q0 Z p1 p2 p3 p4 p5 p6 h0 n0) (T34.setTop (mkF m 184 #[.val (.int p1), .val (.int p2), .val (.int p3), .val (.int p4), .val (.int p5), .val (.int p6), .val (.int (2 : Int32)), .val (.ref b25), .val (.ref b30a)] [(.int (2 : Int32)), (.ref b25), (.ref b30a)]))
    obtain ⟨_, _, ⟨T35, L35, k35, n35⟩, -, X35, ⟨Lc35, hQ35, l35, y35, z35⟩, st35⟩ := Jvm.LawKit.callS X34 hx (y := (⟨"example/zedbox/PeriodsOfEachPrefixPinLaw", "ok", "([I[II)Z"⟩ : MethodName)) hown (mvT hZ (hw _ (List.mem_of_getElem? (i := 6) rfl))) (mvT hZ (hw _ (List.mem_of_getElem? (i := 7) rfl))) (mvT hZ (hw _ (List.mem_of_getElem? (i := 8) rfl))) (mvT hZ (hw _ (List.mem_of_getElem? (i := 9) rfl))) (by decide) (backOf (W := 0) (rm2 l Z a0 hw [] b30a b25 (zsel 2 ((p2 &&& (2147483647 : Int32)) % (2 : Int32)) (0 : Int32) (0 : Int32) (0 : Int32) (0 : Int32)) 2 2 T30.heap f_32 xA30_1 (by decide) hz) hZ (hw _ (List.mem_of_getElem? (i := 9) rfl)) (hw _ (List.mem_of_getElem? (i := 8) rfl)) (by decide) (by decide)) (g := (mkF m 184 #[.val (.int p1), .val (.int p2), .val (.int p3), .val (.int p4), .val (.int p5), .val (.int p6), .val (.int (2 : Int32)), .val (.ref b25), .val (.ref b30a)] [(.int (2 : Int32)), (.ref b25), (.ref b30a)])) rfl (by rw [hml]; rfl) (argsL := [(.ref b30a), (.ref b25), (.int (2 : Int32))]) (rest := []) (lenOf pd___I_II_Z rfl) rfl (by show 2 * 0 + _ ≤ _; exact Nat.le_of_eq rfl) (hb hby at_184) (fun _ _ => ⟨rfl, e34, (by decide : 2 + 0 ≤ _), (by decide : 9 + 0 ≤ _)⟩)
    dsimp only [Pt.U, Pt.locs, Pt.cells, Pt.slots] at X35 l35 y35 z35 st35 hQ35
    subst l35 y35 z35
    obtain ⟨rfl, rfl, e35⟩ := hQ35
    have N35 := Fr.app N34 (Fr.nil n0)
    refine Go.step st35 ?_
    show Go FrameEnd p e below s 16 128 (Q0 Z p1 p2 p3 p4 p5 p6 h0 n0) (T35.setTop (mkF m 187 #[.val (.int p1), .val (.int p2), .val (.int p3), .val (.int p4), .val (.int p5), .val (.int p6), .val (.int (2 : Int32)), .val (.ref b25), .val (.ref b30a)] [(.int (1 : Int32))]))
    refine Go.step (fun _ k => XS.ifNo X35.here hx rfl (hb hby at_187) rfl ((if0 _ _).trans (feq (by decide)).1) k) ?_
    show Go FrameEnd p e below s 16 128 (Q0 Z p1 p2 p3 p4 p5 p6 h0 n0) (T35.setTop (mkF m 190 #[.val (.int p1), .val (.int p2), .val (.int p3), .val (.int p4), .val (.int p5), .val (.int p6), .val (.int (2 : Int32)), .val (.ref b25), .val (.ref b30a)] []))
    refine Go.step (fun _ k => XS.aload X35.here hx rfl (hb hby at_190) rfl rfl k) ?_
    show Go FrameEnd p e below s 16 128 (Q0 Z p1 p2 p3 p4 p5 p6 h0 n0) (T35.setTop (mkF m 192 #[.val (.int p1), .val (.int p2), .val (.int p3), .val (.int p4), .val (.int p5), .val (.int p6), .val (.int (2 : Int32)), .val (.ref b25), .val (.ref b30a)] [(.ref b30a)]))
    refine Go.step (fun _ k => XS.aload X35.here hx rfl (hb hby at_192) rfl rfl k) ?_
    show Go FrameEnd p e below s 16 128 (Q0 Z p1 p2 p3 p4 p5 p6 h0 n0) (T35.setTop (mkF m 194 #[.val (.int p1), .val (.int p2), .val (.int p3), .val (.int p4), .val (.int p5), .val (.int p6), .val (.int (2 : Int32)), .val (.ref b25), .val (.ref b30a)] [(.ref b25), (.ref b30a)]))
    refine Go.step (fun _ k => XS.iconst X35.here hx rfl (hb hby at_194) k) ?_
    show Go FrameEnd p e below s 16 128 (Q0 Z p1 p2 p3 p4 p5 p6 h0 n0) (T35.setTop (mkF m 195 #[.val (.int p1), .val (.int p2), .val (.int p3), .val (.int p4), .val (.int p5), .val (.int p6), .val (.int (2 : Int32)), .val (.ref b25), .val (.ref b30a)] [(.int (3 : Int32)), (.ref b25), (.ref b30a)]))
    obtain ⟨_, _, ⟨T36, L36, k36, n36⟩, -, X36, ⟨Lc36, hQ36, l36, y36, z36⟩, st36⟩ := Jvm.LawKit.callS X35 hx (y := (⟨"example/zedbox/PeriodsOfEachPrefixPinLaw", "ok", "([I[II)Z"⟩ : MethodName)) hown (mvT hZ (hw _ (List.mem_of_getElem? (i := 6) rfl))) (mvT hZ (hw _ (List.mem_of_getElem? (i := 7) rfl))) (mvT hZ (hw _ (List.mem_of_getElem? (i := 8) rfl))) (mvT hZ (hw _ (List.mem_of_getElem? (i := 9) rfl))) (by decide) (backOf (W := 0) (rm2 l Z a0 hw [] b30a b25 (zsel 2 ((p2 &&& (2147483647 : Int32)) % (2 : Int32)) (0 : Int32) (0 : Int32) (0 : Int32) (0 : Int32)) 3 2 T30.heap f_32 xA30_1 (by decide) hz) hZ (hw _ (List.mem_of_getElem? (i := 9) rfl)) (hw _ (List.mem_of_getElem? (i := 8) rfl)) (by decide) (by decide)) (g := (mkF m 195 #[.val (.int p1), .val (.int p2), .val (.int p3), .val (.int p4), .val (.int p5), .val (.int p6), .val (.int (2 : Int32)), .val (.ref b25), .val (.ref b30a)] [(.int (3 : Int32)), (.ref b25), (.ref b30a)])) rfl (by rw [hml]; rfl) (argsL := [(.ref b30a), (.ref b25), (.int (3 : Int32))]) (rest := []) (lenOf pd___I_II_Z rfl) rfl (by show 2 * 0 + _ ≤ _; exact Nat.le_of_eq rfl) (hb hby at_195) (fun _ _ => ⟨rfl, e35, (by decide : 2 + 0 ≤ _), (by decide : 9 + 0 ≤ _)⟩)
    dsimp only [Pt.U, Pt.locs, Pt.cells, Pt.slots] at X36 l36 y36 z36 st36 hQ36
    subst l36 y36 z36
    obtain ⟨rfl, rfl, e36⟩ := hQ36
    have N36 := Fr.app N35 (Fr.nil n0)
    refine Go.step st36 ?_
    show Go FrameEnd p e below s 16 128 (Q0 Z p1 p2 p3 p4 p5 p6 h0 n0) (T36.setTop (mkF m 198 #[.val (.int p1), .val (.int p2), .val (.int p3), .val (.int p4), .val (.int p5), .val (.int p6), .val (.int (2 : Int32)), .val (.ref b25), .val (.ref b30a)] [(.int (1 : Int32))]))
    refine Go.step (fun _ k => XS.ifNo X36.here hx rfl (hb hby at_198) rfl ((if0 _ _).trans (feq (by decide)).1) k) ?_
    show Go FrameEnd p e below s 16 128 (Q0 Z p1 p2 p3 p4 p5 p6 h0 n0) (T36.setTop (mkF m 201 #[.val (.int p1), .val (.int p2), .val (.int p3), .val (.int p4), .val (.int p5), .val (.int p6), .val (.int (2 : Int32)), .val (.ref b25), .val (.ref b30a)] []))
    refine Go.step (fun _ k => XS.aload X36.here hx rfl (hb hby at_201) rfl rfl k) ?_
    show Go FrameEnd p e below s 16 128 (Q0 Z p1 p2 p3 p4 p5 p6 h0 n0) (T36.setTop (mkF m 203 #[.val (.int p1), .val (.int p2), .val (.int p3), .val (.int p4), .val (.int p5), .val (.int p6), .val (.int (2 : Int32)), .val (.ref b25), .val (.ref b30a)] [(.ref b30a)]))
    refine Go.step (fun _ k => XS.aload X36.here hx rfl (hb hby at_203) rfl rfl k) ?_
    show Go FrameEnd p e below s 16 128 (Q0 Z p1 p2 p3 p4 p5 p6 h0 n0) (T36.setTop (mkF m 205 #[.val (.int p1), .val (.int p2), .val (.int p3), .val (.int p4), .val (.int p5), .val (.int p6), .val (.int (2 : Int32)), .val (.ref b25), .val (.ref b30a)] [(.ref b25), (.ref b30a)]))
    refine Go.step (fun _ k => XS.iconst X36.here hx rfl (hb hby at_205) k) ?_
    show Go FrameEnd p e below s 16 128 (Q0 Z p1 p2 p3 p4 p5 p6 h0 n0) (T36.setTop (mkF m 206 #[.val (.int p1), .val (.int p2), .val (.int p3), .val (.int p4), .val (.int p5), .val (.int p6), .val (.int (2 : Int32)), .val (.ref b25), .val (.ref b30a)] [(.int (4 : Int32)), (.ref b25), (.ref b30a)]))
    obtain ⟨_, _, ⟨T37, L37, k37, n37⟩, -, X37, ⟨Lc37, hQ37, l37, y37, z37⟩, st37⟩ := Jvm.LawKit.callS X36 hx (y := (⟨"example/zedbox/PeriodsOfEachPrefixPinLaw", "ok", "([I[II)Z"⟩ : MethodName)) hown (mvT hZ (hw _ (List.mem_of_getElem? (i := 6) rfl))) (mvT hZ (hw _ (List.mem_of_getElem? (i := 7) rfl))) (mvT hZ (hw _ (List.mem_of_getElem? (i := 8) rfl))) (mvT hZ (hw _ (List.mem_of_getElem? (i := 9) rfl))) (by decide) (backOf (W := 0) (rm2 l Z a0 hw [] b30a b25 (zsel 2 ((p2 &&& (2147483647 : Int32)) % (2 : Int32)) (0 : Int32) (0 : Int32) (0 : Int32) (0 : Int32)) 4 2 T30.heap f_32 xA30_1 (by decide) hz) hZ (hw _ (List.mem_of_getElem? (i := 9) rfl)) (hw _ (List.mem_of_getElem? (i := 8) rfl)) (by decide) (by decide)) (g := (mkF m 206 #[.val (.int p1), .val (.int p2), .val (.int p3), .val (.int p4), .val (.int p5), .val (.int p6), .val (.int (2 : Int32)), .val (.ref b25), .val (.ref b30a)] [(.int (4 : Int32)), (.ref b25), (.ref b30a)])) rfl (by rw [hml]; rfl) (argsL := [(.ref b30a), (.ref b25), (.int (4 : Int32))]) (rest := []) (lenOf pd___I_II_Z rfl) rfl (by show 2 * 0 + _ ≤ _; exact Nat.le_of_eq rfl) (hb hby at_206) (fun _ _ => ⟨rfl, e36, (by decide : 2 + 0 ≤ _), (by decide : 9 + 0 ≤ _)⟩)
    dsimp only [Pt.U, Pt.locs, Pt.cells, Pt.slots] at X37 l37 y37 z37 st37 hQ37
    subst l37 y37 z37
    obtain ⟨rfl, rfl, e37⟩ := hQ37
    have N37 := Fr.app N36 (Fr.nil n0)
    refine Go.step st37 ?_
    show Go FrameEnd p e below s 16 128 (Q0 Z p1 p2 p3 p4 p5 p6 h0 n0) (T37.setTop (mkF m 209 #[.val (.int p1), .val (.int p2), .val (.int p3), .val (.int p4), .val (.int p5), .val (.int p6), .val (.int (2 : Int32)), .val (.ref b25), .val (.ref b30a)] [(.int (1 : Int32))]))
    refine Go.step (fun _ k => XS.ifNo X37.here hx rfl (hb hby at_209) rfl ((if0 _ _).trans (feq (by decide)).1) k) ?_
    show Go FrameEnd p e below s 16 128 (Q0 Z p1 p2 p3 p4 p5 p6 h0 n0) (T37.setTop (mkF m 212 #[.val (.int p1), .val (.int p2), .val (.int p3), .val (.int p4), .val (.int p5), .val (.int p6), .val (.int (2 : Int32)), .val (.ref b25), .val (.ref b30a)] []))
    refine Go.step (fun _ k => XS.aload X37.here hx rfl (hb hby at_212) rfl rfl k) ?_
    show Go FrameEnd p e below s 16 128 (Q0 Z p1 p2 p3 p4 p5 p6 h0 n0) (T37.setTop (mkF m 214 #[.val (.int p1), .val (.int p2), .val (.int p3), .val (.int p4), .val (.int p5), .val (.int p6), .val (.int (2 : Int32)), .val (.ref b25), .val (.ref b30a)] [(.ref b30a)]))
    refine Go.step (fun _ k => XS.aload X37.here hx rfl (hb hby at_214) rfl rfl k) ?_
    show Go FrameEnd p e below s 16 128 (Q0 Z p1 p2 p3 p4 p5 p6 h0 n0) (T37.setTop (mkF m 216 #[.val (.int p1), .val (.int p2), .val (.int p3), .val (.int p4), .val (.int p5), .val (.int p6), .val (.int (2 : Int32)), .val (.ref b25), .val (.ref b30a)] [(.ref b25), (.ref b30a)]))
    refine Go.step (fun _ k => XS.iconst X37.here hx rfl (hb hby at_216) k) ?_
    show Go FrameEnd p e below s 16 128 (Q0 Z p1 p2 p3 p4 p5 p6 h0 n0) (T37.setTop (mkF m 217 #[.val (.int p1), .val (.int p2), .val (.int p3), .val (.int p4), .val (.int p5), .val (.int p6), .val (.int (2 : Int32)), .val (.ref b25), .val (.ref b30a)] [(.int (5 : Int32)), (.ref b25), (.ref b30a)]))
    obtain ⟨_, _, ⟨T38, L38, k38, n38⟩, -, X38, ⟨Lc38, hQ38, l38, y38, z38⟩, st38⟩ := Jvm.LawKit.callS X37 hx (y := (⟨"example/zedbox/PeriodsOfEachPrefixPinLaw", "ok", "([I[II)Z"⟩ : MethodName)) hown (mvT hZ (hw _ (List.mem_of_getElem? (i := 6) rfl))) (mvT hZ (hw _ (List.mem_of_getElem? (i := 7) rfl))) (mvT hZ (hw _ (List.mem_of_getElem? (i := 8) rfl))) (mvT hZ (hw _ (List.mem_of_getElem? (i := 9) rfl))) (by decide) (backOf (W := 0) (rm2 l Z a0 hw [] b30a b25 (zsel 2 ((p2 &&& (2147483647 : Int32)) % (2 : Int32)) (0 : Int32) (0 : Int32) (0 : Int32) (0 : Int32)) 5 2 T30.heap f_32 xA30_1 (by decide) hz) hZ (hw _ (List.mem_of_getElem? (i := 9) rfl)) (hw _ (List.mem_of_getElem? (i := 8) rfl)) (by decide) (by decide)) (g := (mkF m 217 #[.val (.int p1), .val (.int p2), .val (.int p3), .val (.int p4), .val (.int p5), .val (.int p6), .val (.int (2 : Int32)), .val (.ref b25), .val (.ref b30a)] [(.int (5 : Int32)), (.ref b25), (.ref b30a)])) rfl (by rw [hml]; rfl) (argsL := [(.ref b30a), (.ref b25), (.int (5 : Int32))]) (rest := []) (lenOf pd___I_II_Z rfl) rfl (by show 2 * 0 + _ ≤ _; exact Nat.le_of_eq rfl) (hb hby at_217) (fun _ _ => ⟨rfl, e37, (by decide : 2 + 0 ≤ _), (by decide : 9 + 0 ≤ _)⟩)
    dsimp only [Pt.U, Pt.locs, Pt.cells, Pt.slots] at X38 l38 y38 z38 st38 hQ38
    subst l38 y38 z38
    obtain ⟨rfl, rfl, e38⟩ := hQ38
    have N38 := Fr.app N37 (Fr.nil n0)
    refine Go.step st38 ?_
    show Go FrameEnd p e below s 16 128 (Q0 Z p1 p2 p3 p4 p5 p6 h0 n0) (T38.setTop (mkF m 220 #[.val (.int p1), .val (.int p2), .val (.int p3), .val (.int p4), .val (.int p5), .val (.int p6), .val (.int (2 : Int32)), .val (.ref b25), .val (.ref b30a)] [(.int (1 : Int32))]))
    refine Go.step (fun _ k => XS.ifNo X38.here hx rfl (hb hby at_220) rfl ((if0 _ _).trans (feq (by decide)).1) k) ?_
    show Go FrameEnd p e below s 16 128 (Q0 Z p1 p2 p3 p4 p5 p6 h0 n0) (T38.setTop (mkF m 223 #[.val (.int p1), .val (.int p2), .val (.int p3), .val (.int p4), .val (.int p5), .val (.int p6), .val (.int (2 : Int32)), .val (.ref b25), .val (.ref b30a)] []))
    refine Go.step (fun _ k => XS.aload X38.here hx rfl (hb hby at_223) rfl rfl k) ?_
    show Go FrameEnd p e below s 16 128 (Q0 Z p1 p2 p3 p4 p5 p6 h0 n0) (T38.setTop (mkF m 225 #[.val (.int p1), .val (.int p2), .val (.int p3), .val (.int p4), .val (.int p5), .val (.int p6), .val (.int (2 : Int32)), .val (.ref b25), .val (.ref b30a)] [(.ref b30a)]))
    refine Go.step (fun _ k => XS.aload X38.here hx rfl (hb hby at_225) rfl rfl k) ?_
    show Go FrameEnd p e below s 16 128 (Q0 Z p1 p2 p3 p4 p5 p6 h0 n0) (T38.setTop (mkF m 227 #[.val (.int p1), .val (.int p2), .val (.int p3), .val (.int p4), .val (.int p5), .val (.int p6), .val (.int (2 : Int32)), .val (.ref b25), .val (.ref b30a)] [(.ref b25), (.ref b30a)]))
    refine Go.step (fun _ k => XS.bipush X38.here hx rfl (hb hby at_227) k) ?_
    show Go FrameEnd p e below s 16 128 (Q0 Z p1 p2 p3 p4 p5 p6 h0 n0) (T38.setTop (mkF m 229 #[.val (.int p1), .val (.int p2), .val (.int p3), .val (.int p4), .val (.int p5), .val (.int p6), .val (.int (2 : Int32)), .val (.ref b25), .val (.ref b30a)] [(.int (6 : Int32)), (.ref b25), (.ref b30a)]))
    obtain ⟨_, _, ⟨T39, L39, k39, n39⟩, -, X39, ⟨Lc39, hQ39, l39, y39, z39⟩, st39⟩ := Jvm.LawKit.callS X38 hx (y := (⟨"example/zedbox/PeriodsOfEachPrefixPinLaw", "ok", "([I[II)Z"⟩ : MethodName)) hown (mvT hZ (hw _ (List.mem_of_getElem? (i := 6) rfl))) (mvT hZ (hw _ (List.mem_of_getElem? (i := 7) rfl))) (mvT hZ (hw _ (List.mem_of_getElem? (i := 8) rfl))) (mvT hZ (hw _ (List.mem_of_getElem? (i := 9) rfl))) (by decide) (backOf (W := 0) (rm2 l Z a0 hw [] b30a b25 (zsel 2 ((p2 &&& (2147483647 : Int32)) % (2 : Int32)) (0 : Int32) (0 : Int32) (0 : Int32) (0 : Int32)) 6 2 T30.heap f_32 xA30_1 (by decide) hz) hZ (hw _ (List.mem_of_getElem? (i := 9) rfl)) (hw _ (List.mem_of_getElem? (i := 8) rfl)) (by decide) (by decide)) (g := (mkF m 229 #[.val (.int p1), .val (.int p2), .val (.int p3), .val (.int p4), .val (.int p5), .val (.int p6), .val (.int (2 : Int32)), .val (.ref b25), .val (.ref b30a)] [(.int (6 : Int32)), (.ref b25), (.ref b30a)])) rfl (by rw [hml]; rfl) (argsL := [(.ref b30a), (.ref b25), (.int (6 : Int32))]) (rest := []) (lenOf pd___I_II_Z rfl) rfl (by show 2 * 0 + _ ≤ _; exact Nat.le_of_eq rfl) (hb hby at_229) (fun _ _ => ⟨rfl, e38, (by decide : 2 + 0 ≤ _), (by decide : 9 + 0 ≤ _)⟩)
    dsimp only [Pt.U, Pt.locs, Pt.cells, Pt.slots] at X39 l39 y39 z39 st39 hQ39
    subst l39 y39 z39
    obtain ⟨rfl, rfl, e39⟩ := hQ39
    have N39 := Fr.app N38 (Fr.nil n0)
    refine Go.step st39 ?_
    show Go FrameEnd p e below s 16 128 (Q0 Z p1 p2 p3 p4 p5 p6 h0 n0) (T39.setTop (mkF m 232 #[.val (.int p1), .val (.int p2), .val (.int p3), .val (.int p4), .val (.int p5), .val (.int p6), .val (.int (2 : Int32)), .val (.ref b25), .val (.ref b30a)] [(.int (1 : Int32))]))
    refine Go.step (fun _ k => XS.ifNo X39.here hx rfl (hb hby at_232) rfl ((if0 _ _).trans (feq (by decide)).1) k) ?_
    show Go FrameEnd p e below s 16 128 (Q0 Z p1 p2 p3 p4 p5 p6 h0 n0) (T39.setTop (mkF m 235 #[.val (.int p1), .val (.int p2), .val (.int p3), .val (.int p4), .val (.int p5), .val (.int p6), .val (.int (2 : Int32)), .val (.ref b25), .val (.ref b30a)] []))
    refine Go.step (fun _ k => XS.iconst X39.here hx rfl (hb hby at_235) k) ?_
    show Go FrameEnd p e below s 16 128 (Q0 Z p1 p2 p3 p4 p5 p6 h0 n0) (T39.setTop (mkF m 236 #[.val (.int p1), .val (.int p2), .val (.int p3), .val (.int p4), .val (.int p5), .val (.int p6), .val (.int (2 : Int32)), .val (.ref b25), .val (.ref b30a)] [(.int (1 : Int32))]))
    refine Go.step (fun _ k => XS.goto X39.here hx rfl (pc0 := 236) (pc' := 240) rfl (hb hby at_236) (by decide) (by decide) k) ?_
    show Go FrameEnd p e below s 16 128 (Q0 Z p1 p2 p3 p4 p5 p6 h0 n0) (T39.setTop (mkF m 240 #[.val (.int p1), .val (.int p2), .val (.int p3), .val (.int p4), .val (.int p5), .val (.int p6), .val (.int (2 : Int32)), .val (.ref b25), .val (.ref b30a)] [(.int (1 : Int32))]))
    refine Go.retN X39 hx (t := .boolean) Bd.returns (by simp) (by decide) (hb hby at_240) (BodyLoose.notSynchronized Bd) e39 (by decide) (by decide) ?_
    exact ⟨rfl, N39⟩
  · skip
    rw [q]
    show Go FrameEnd p e below s 16 128 (Q0 Z p1 p2 p3 p4 p5 p6 h0 n0) (s₁.setTop (mkF m 7 #[.val (.int p1), .val (.int p2), .val (.int p3), .val (.int p4), .val (.int p5), .val (.int p6), .unset, .unset, .unset] [(.int (3 : Int32))]))
    refine Go.step (fun _ k => XS.istore X0.here hx rfl (hb hby at_7) rfl (l' := #[.val (.int p1), .val (.int p2), .val (.int p3), .val (.int p4), .val (.int p5), .val (.int p6), .val (.int (3 : Int32)), .unset, .unset]) rfl k) ?_
    show Go FrameEnd p e below s 16 128 (Q0 Z p1 p2 p3 p4 p5 p6 h0 n0) (s₁.setTop (mkF m 9 #[.val (.int p1), .val (.int p2), .val (.int p3), .val (.int p4), .val (.int p5), .val (.int p6), .val (.int (3 : Int32)), .unset, .unset] []))
    refine Go.step (fun _ k => XS.iload X0.here hx rfl (hb hby at_9) rfl k) ?_
    show Go FrameEnd p e below s 16 128 (Q0 Z p1 p2 p3 p4 p5 p6 h0 n0) (s₁.setTop (mkF m 11 #[.val (.int p1), .val (.int p2), .val (.int p3), .val (.int p4), .val (.int p5), .val (.int p6), .val (.int (3 : Int32)), .unset, .unset] [(.int (3 : Int32))]))
    obtain ⟨T40, h40, k40, X40, e40, E40, A40, st40⟩ := newP X0 hx hZ (hw _ (List.mem_of_getElem? (i := 1) rfl)) e0 (g := (mkF m 11 #[.val (.int p1), .val (.int p2), .val (.int p3), .val (.int p4), .val (.int p5), .val (.int p6), .val (.int (3 : Int32)), .unset, .unset] [(.int (3 : Int32))])) rfl (hb hby at_11) rfl (by decide) (cap := 3) (by decide) (by decide) (by decide) (by decide)
    refine Go.step st40 ?_
    obtain ⟨b40, g40⟩ : ∃ z, z = h0.size := ⟨_, rfl⟩
    rw [← g40] at A40 ⊢
    have g_b40 : n0 ≤ b40 := Nat.le_trans Z0 (Nat.le_of_eq g40.symm)
    have Z40 : n0 ≤ h40.size := Nat.le_trans Z0 E40.1
    have V40 : Av Z h40 b40 .int 3 (fun _ => (.int (0 : Int32))) := Av.new A40 (by decide) rfl
    show Go FrameEnd p e below s 16 128 (Q0 Z p1 p2 p3 p4 p5 p6 h0 n0) (T40.setTop (mkF m 13 #[.val (.int p1), .val (.int p2), .val (.int p3), .val (.int p4), .val (.int p5), .val (.int p6), .val (.int (3 : Int32)), .unset, .unset] [(.ref b40)]))
    refine Go.step (fun _ k => XS.astore X40.here hx rfl (hb hby at_13) rfl rfl (l' := #[.val (.int p1), .val (.int p2), .val (.int p3), .val (.int p4), .val (.int p5), .val (.int p6), .val (.int (3 : Int32)), .val (.ref b40), .unset]) rfl k) ?_
    show Go FrameEnd p e below s 16 128 (Q0 Z p1 p2 p3 p4 p5 p6 h0 n0) (T40.setTop (mkF m 15 #[.val (.int p1), .val (.int p2), .val (.int p3), .val (.int p4), .val (.int p5), .val (.int p6), .val (.int (3 : Int32)), .val (.ref b40), .unset] []))
    refine Go.step (fun _ k => XS.iload X40.here hx rfl (hb hby at_15) rfl k) ?_
    show Go FrameEnd p e below s 16 128 (Q0 Z p1 p2 p3 p4 p5 p6 h0 n0) (T40.setTop (mkF m 17 #[.val (.int p1), .val (.int p2), .val (.int p3), .val (.int p4), .val (.int p5), .val (.int p6), .val (.int (3 : Int32)), .val (.ref b40), .unset] [(.int (3 : Int32))]))
    refine Go.step (fun _ k => XS.ifNo X40.here hx rfl (hb hby at_17) rfl ((if0 _ _).trans (tlt (by decide)).2.2.2) k) ?_
    show Go FrameEnd p e below s 16 128 (Q0 Z p1 p2 p3 p4 p5 p6 h0 n0) (T40.setTop (mkF m 20 #[.val (.int p1), .val (.int p2), .val (.int p3), .val (.int p4), .val (.int p5), .val (.int p6), .val (.int (3 : Int32)), .val (.ref b40), .unset] []))
    refine Go.step (fun _ k => XS.aload X40.here hx rfl (hb hby at_20) rfl rfl k) ?_
    show Go FrameEnd p e below s 16 128 (Q0 Z p1 p2 p3 p4 p5 p6 h0 n0) (T40.setTop (mkF m 22 #[.val (.int p1), .val (.int p2), .val (.int p3), .val (.int p4), .val (.int p5), .val (.int p6), .val (.int (3 : Int32)), .val (.ref b40), .unset] [(.ref b40)]))
    refine Go.step (fun _ k => XS.iconst X40.here hx rfl (hb hby at_22) k) ?_
    show Go FrameEnd p e below s 16 128 (Q0 Z p1 p2 p3 p4 p5 p6 h0 n0) (T40.setTop (mkF m 23 #[.val (.int p1), .val (.int p2), .val (.int p3), .val (.int p4), .val (.int p5), .val (.int p6), .val (.int (3 : Int32)), .val (.ref b40), .unset] [(.int (0 : Int32)), (.ref b40)]))
    refine Go.step (fun _ k => XS.iload X40.here hx rfl (hb hby at_23) rfl k) ?_
    show Go FrameEnd p e below s 16 128 (Q0 Z p1 p2 p3 p4 p5 p6 h0 n0) (T40.setTop (mkF m 25 #[.val (.int p1), .val (.int p2), .val (.int p3), .val (.int p4), .val (.int p5), .val (.int p6), .val (.int (3 : Int32)), .val (.ref b40), .unset] [(.int (3 : Int32)), (.int (0 : Int32)), (.ref b40)]))
    obtain ⟨c41, Ac41, Sc41, Mc41, Gc41⟩ := id V40
    obtain ⟨T42, h42, X42, e42, W42, st42⟩ := stI X40 hx hZ e40 Ac41 (j := (0 : Int32)) (own_in Sc41 (by decide) (by decide)) (g := (mkF m 25 #[.val (.int p1), .val (.int p2), .val (.int p3), .val (.int p4), .val (.int p5), .val (.int p6), .val (.int (3 : Int32)), .val (.ref b40), .unset] [(.int (3 : Int32)), (.int (0 : Int32)), (.ref b40)])) rfl rfl (hb hby at_25)
    refine Go.step st42 ?_
    have N42 := Fr.snoc X42 N0 g_b40
    have Z42 : n0 ≤ h42.size := Nat.le_trans Z40 (Keep.of_wr W42).1
    have V42 : Av Z h42 b40 .int 3 (aset (fun _ => (.int (0 : Int32))) 0 (.int (3 : Int32))) := Av.set Ac41 Sc41 Mc41 Gc41 W42 (by rfl) (own_in Sc41 (by decide) (by decide))
    show Go FrameEnd p e below s 16 128 (Q0 Z p1 p2 p3 p4 p5 p6 h0 n0) (T42.setTop (mkF m 26 #[.val (.int p1), .val (.int p2), .val (.int p3), .val (.int p4), .val (.int p5), .val (.int p6), .val (.int (3 : Int32)), .val (.ref b40), .unset] []))
    refine Go.step (fun _ k => XS.iload X42.here hx rfl (hb hby at_26) rfl k) ?_
    show Go FrameEnd p e below s 16 128 (Q0 Z p1 p2 p3 p4 p5 p6 h0 n0) (T42.setTop (mkF m 28 #[.val (.int p1), .val (.int p2), .val (.int p3), .val (.int p4), .val (.int p5), .val (.int p6), .val (.int (3 : Int32)), .val (.ref b40), .unset] [(.int (3 : Int32))]))
    refine Go.step (fun _ k => XS.iconst X42.here hx rfl (hb hby at_28) k) ?_
    show Go FrameEnd p e below s 16 128 (Q0 Z p1 p2 p3 p4 p5 p6 h0 n0) (T42.setTop (mkF m 29 #[.val (.int p1), .val (.int p2), .val (.int p3), .val (.int p4), .val (.int p5), .val (.int p6), .val (.int (3 : Int32)), .val (.ref b40), .unset] [(.int (1 : Int32)), (.int (3 : Int32))]))
    refine Go.step (fun _ k => XS.icmpNo X42.here hx rfl (hb hby at_29) rfl (tlt (by decide)).2.2.2 k) ?_
    show Go FrameEnd p e below s 16 128 (Q0 Z p1 p2 p3 p4 p5 p6 h0 n0) (T42.setTop (mkF m 32 #[.val (.int p1), .val (.int p2), .val (.int p3), .val (.int p4), .val (.int p5), .val (.int p6), .val (.int (3 : Int32)), .val (.ref b40), .unset] []))
    refine Go.step (fun _ k => XS.aload X42.here hx rfl (hb hby at_32) rfl rfl k) ?_
    show Go FrameEnd p e below s 16 128 (Q0 Z p1 p2 p3 p4 p5 p6 h0 n0) (T42.setTop (mkF m 34 #[.val (.int p1), .val (.int p2), .val (.int p3), .val (.int p4), .val (.int p5), .val (.int p6), .val (.int (3 : Int32)), .val (.ref b40), .unset] [(.ref b40)]))
    refine Go.step (fun _ k => XS.iconst X42.here hx rfl (hb hby at_34) k) ?_
    show Go FrameEnd p e below s 16 128 (Q0 Z p1 p2 p3 p4 p5 p6 h0 n0) (T42.setTop (mkF m 35 #[.val (.int p1), .val (.int p2), .val (.int p3), .val (.int p4), .val (.int p5), .val (.int p6), .val (.int (3 : Int32)), .val (.ref b40), .unset] [(.int (1 : Int32)), (.ref b40)]))
    refine Go.step (fun _ k => XS.iloadN X42.here hx rfl (hb hby at_35) rfl k) ?_
    show Go FrameEnd p e below s 16 128 (Q0 Z p1 p2 p3 p4 p5 p6 h0 n0) (T42.setTop (mkF m 36 #[.val (.int p1), .val (.int p2), .val (.int p3), .val (.int p4), .val (.int p5), .val (.int p6), .val (.int (3 : Int32)), .val (.ref b40), .unset] [(.int p2), (.int (1 : Int32)), (.ref b40)]))
    refine Go.step (X42.ldcInt hx hown (mvT hZ (hw _ (List.mem_of_getElem? (i := 0) rfl))) (g := (mkF m 36 #[.val (.int p1), .val (.int p2), .val (.int p3), .val (.int p4), .val (.int p5), .val (.int p6), .val (.int (3 : Int32)), .val (.ref b40), .unset] [(.int p2), (.int (1 : Int32)), (.ref b40)])) rfl (hb hby at_36)) ?_
    show Go FrameEnd p e below s 16 128 (Q0 Z p1 p2 p3 p4 p5 p6 h0 n0) (T42.setTop (mkF m 38 #[.val (.int p1), .val (.int p2), .val (.int p3), .val (.int p4), .val (.int p5), .val (.int p6), .val (.int (3 : Int32)), .val (.ref b40), .unset] [(.int (2147483647 : Int32)), (.int p2), (.int (1 : Int32)), (.ref b40)]))
    refine Go.step (fun _ k => XS.iand X42.here hx rfl (hb hby at_38) rfl k) ?_
    show Go FrameEnd p e below s 16 128 (Q0 Z p1 p2 p3 p4 p5 p6 h0 n0) (T42.setTop (mkF m 39 #[.val (.int p1), .val (.int p2), .val (.int p3), .val (.int p4), .val (.int p5), .val (.int p6), .val (.int (3 : Int32)), .val (.ref b40), .unset] [(.int (p2 &&& (2147483647 : Int32))), (.int (1 : Int32)), (.ref b40)]))
    refine Go.step (fun _ k => XS.iload X42.here hx rfl (hb hby at_39) rfl k) ?_
    show Go FrameEnd p e below s 16 128 (Q0 Z p1 p2 p3 p4 p5 p6 h0 n0) (T42.setTop (mkF m 41 #[.val (.int p1), .val (.int p2), .val (.int p3), .val (.int p4), .val (.int p5), .val (.int p6), .val (.int (3 : Int32)), .val (.ref b40), .unset] [(.int (3 : Int32)), (.int (p2 &&& (2147483647 : Int32))), (.int (1 : Int32)), (.ref b40)]))
    refine Go.step (fun _ k => XS.iconst X42.here hx rfl (hb hby at_41) k) ?_
    show Go FrameEnd p e below s 16 128 (Q0 Z p1 p2 p3 p4 p5 p6 h0 n0) (T42.setTop (mkF m 42 #[.val (.int p1), .val (.int p2), .val (.int p3), .val (.int p4), .val (.int p5), .val (.int p6), .val (.int (3 : Int32)), .val (.ref b40), .unset] [(.int (1 : Int32)), (.int (3 : Int32)), (.int (p2 &&& (2147483647 : Int32))), (.int (1 : Int32)), (.ref b40)]))
    refine Go.step (fun _ k => XS.isub X42.here hx rfl (hb hby at_42) rfl k) ?_
    show Go FrameEnd p e below s 16 128 (Q0 Z p1 p2 p3 p4 p5 p6 h0 n0) (T42.setTop (mkF m 43 #[.val (.int p1), .val (.int p2), .val (.int p3), .val (.int p4), .val (.int p5), .val (.int p6), .val (.int (3 : Int32)), .val (.ref b40), .unset] [(.int (2 : Int32)), (.int (p2 &&& (2147483647 : Int32))), (.int (1 : Int32)), (.ref b40)]))
    refine Go.step (fun _ k => XS.iconst X42.here hx rfl (hb hby at_43) k) ?_
    show Go FrameEnd p e below s 16 128 (Q0 Z p1 p2 p3 p4 p5 p6 h0 n0) (T42.setTop (mkF m 44 #[.val (.int p1), .val (.int p2), .val (.int p3), .val (.int p4), .val (.int p5), .val (.int p6), .val (.int (3 : Int32)), .val (.ref b40), .unset] [(.int (1 : Int32)), (.int (2 : Int32)), (.int (p2 &&& (2147483647 : Int32))), (.int (1 : Int32)), (.ref b40)]))
    refine Go.step (fun _ k => XS.iadd X42.here hx rfl (hb hby at_44) rfl k) ?_
    show Go FrameEnd p e below s 16 128 (Q0 Z p1 p2 p3 p4 p5 p6 h0 n0) (T42.setTop (mkF m 45 #[.val (.int p1), .val (.int p2), .val (.int p3), .val (.int p4), .val (.int p5), .val (.int p6), .val (.int (3 : Int32)), .val (.ref b40), .unset] [(.int (3 : Int32)), (.int (p2 &&& (2147483647 : Int32))), (.int (1 : Int32)), (.ref b40)]))
    refine Go.step (fun _ k => iremM X42 hx rfl (hb hby at_45) rfl (by decide) k) ?_
    show Go FrameEnd p e below s 16 128 (Q0 Z p1 p2 p3 p4 p5 p6 h0 n0) (T42.setTop (mkF m 46 #[.val (.int p1), .val (.int p2), .val (.int p3), .val (.int p4), .val (.int p5), .val (.int p6), .val (.int (3 : Int32)), .val (.ref b40), .unset] [(.int ((p2 &&& (2147483647 : Int32)) % (3 : Int32))), (.int (1 : Int32)), (.ref b40)]))
    obtain ⟨c43, Ac43, Sc43, Mc43, Gc43⟩ := id V42
    obtain ⟨T44, h44, X44, e44, W44, st44⟩ := stI X42 hx hZ e42 Ac43 (j := (1 : Int32)) (own_in Sc43 (by decide) (by decide)) (g := (mkF m 46 #[.val (.int p1), .val (.int p2), .val (.int p3), .val (.int p4), .val (.int p5), .val (.int p6), .val (.int (3 : Int32)), .val (.ref b40), .unset] [(.int ((p2 &&& (2147483647 : Int32)) % (3 : Int32))), (.int (1 : Int32)), (.ref b40)])) rfl rfl (hb hby at_46)
    refine Go.step st44 ?_
    have N44 := Fr.snoc X44 N42 g_b40
    have Z44 : n0 ≤ h44.size := Nat.le_trans Z42 (Keep.of_wr W44).1
    have V44 : Av Z h44 b40 .int 3 (aset (aset (fun _ => (.int (0 : Int32))) 0 (.int (3 : Int32))) 1 (.int ((p2 &&& (2147483647 : Int32)) % (3 : Int32)))) := Av.set Ac43 Sc43 Mc43 Gc43 W44 (by rfl) (own_in Sc43 (by decide) (by decide))
    show Go FrameEnd p e below s 16 128 (Q0 Z p1 p2 p3 p4 p5 p6 h0 n0) (T44.setTop (mkF m 47 #[.val (.int p1), .val (.int p2), .val (.int p3), .val (.int p4), .val (.int p5), .val (.int p6), .val (.int (3 : Int32)), .val (.ref b40), .unset] []))
    refine Go.step (fun _ k => XS.iload X44.here hx rfl (hb hby at_47) rfl k) ?_
    show Go FrameEnd p e below s 16 128 (Q0 Z p1 p2 p3 p4 p5 p6 h0 n0) (T44.setTop (mkF m 49 #[.val (.int p1), .val (.int p2), .val (.int p3), .val (.int p4), .val (.int p5), .val (.int p6), .val (.int (3 : Int32)), .val (.ref b40), .unset] [(.int (3 : Int32))]))
    refine Go.step (fun _ k => XS.iconst X44.here hx rfl (hb hby at_49) k) ?_
    show Go FrameEnd p e below s 16 128 (Q0 Z p1 p2 p3 p4 p5 p6 h0 n0) (T44.setTop (mkF m 50 #[.val (.int p1), .val (.int p2), .val (.int p3), .val (.int p4), .val (.int p5), .val (.int p6), .val (.int (3 : Int32)), .val (.ref b40), .unset] [(.int (2 : Int32)), (.int (3 : Int32))]))
    refine Go.step (fun _ k => XS.icmpNo X44.here hx rfl (hb hby at_50) rfl (tlt (by decide)).2.2.2 k) ?_
    show Go FrameEnd p e below s 16 128 (Q0 Z p1 p2 p3 p4 p5 p6 h0 n0) (T44.setTop (mkF m 53 #[.val (.int p1), .val (.int p2), .val (.int p3), .val (.int p4), .val (.int p5), .val (.int p6), .val (.int (3 : Int32)), .val (.ref b40), .unset] []))
    refine Go.step (fun _ k => XS.aload X44.here hx rfl (hb hby at_53) rfl rfl k) ?_
    show Go FrameEnd p e below s 16 128 (Q0 Z p1 p2 p3 p4 p5 p6 h0 n0) (T44.setTop (mkF m 55 #[.val (.int p1), .val (.int p2), .val (.int p3), .val (.int p4), .val (.int p5), .val (.int p6), .val (.int (3 : Int32)), .val (.ref b40), .unset] [(.ref b40)]))
    refine Go.step (fun _ k => XS.iconst X44.here hx rfl (hb hby at_55) k) ?_
    show Go FrameEnd p e below s 16 128 (Q0 Z p1 p2 p3 p4 p5 p6 h0 n0) (T44.setTop (mkF m 56 #[.val (.int p1), .val (.int p2), .val (.int p3), .val (.int p4), .val (.int p5), .val (.int p6), .val (.int (3 : Int32)), .val (.ref b40), .unset] [(.int (2 : Int32)), (.ref b40)]))
    refine Go.step (fun _ k => XS.iloadN X44.here hx rfl (hb hby at_56) rfl k) ?_
    show Go FrameEnd p e below s 16 128 (Q0 Z p1 p2 p3 p4 p5 p6 h0 n0) (T44.setTop (mkF m 57 #[.val (.int p1), .val (.int p2), .val (.int p3), .val (.int p4), .val (.int p5), .val (.int p6), .val (.int (3 : Int32)), .val (.ref b40), .unset] [(.int p3), (.int (2 : Int32)), (.ref b40)]))
    refine Go.step (X44.ldcInt hx hown (mvT hZ (hw _ (List.mem_of_getElem? (i := 0) rfl))) (g := (mkF m 57 #[.val (.int p1), .val (.int p2), .val (.int p3), .val (.int p4), .val (.int p5), .val (.int p6), .val (.int (3 : Int32)), .val (.ref b40), .unset] [(.int p3), (.int (2 : Int32)), (.ref b40)])) rfl (hb hby at_57)) ?_
    show Go FrameEnd p e below s 16 128 (Q0 Z p1 p2 p3 p4 p5 p6 h0 n0) (T44.setTop (mkF m 59 #[.val (.int p1), .val (.int p2), .val (.int p3), .val (.int p4), .val (.int p5), .val (.int p6), .val (.int (3 : Int32)), .val (.ref b40), .unset] [(.int (2147483647 : Int32)), (.int p3), (.int (2 : Int32)), (.ref b40)]))
    refine Go.step (fun _ k => XS.iand X44.here hx rfl (hb hby at_59) rfl k) ?_
    show Go FrameEnd p e below s 16 128 (Q0 Z p1 p2 p3 p4 p5 p6 h0 n0) (T44.setTop (mkF m 60 #[.val (.int p1), .val (.int p2), .val (.int p3), .val (.int p4), .val (.int p5), .val (.int p6), .val (.int (3 : Int32)), .val (.ref b40), .unset] [(.int (p3 &&& (2147483647 : Int32))), (.int (2 : Int32)), (.ref b40)]))
    refine Go.step (fun _ k => XS.iload X44.here hx rfl (hb hby at_60) rfl k) ?_
    show Go FrameEnd p e below s 16 128 (Q0 Z p1 p2 p3 p4 p5 p6 h0 n0) (T44.setTop (mkF m 62 #[.val (.int p1), .val (.int p2), .val (.int p3), .val (.int p4), .val (.int p5), .val (.int p6), .val (.int (3 : Int32)), .val (.ref b40), .unset] [(.int (3 : Int32)), (.int (p3 &&& (2147483647 : Int32))), (.int (2 : Int32)), (.ref b40)]))
    refine Go.step (fun _ k => XS.iconst X44.here hx rfl (hb hby at_62) k) ?_
    show Go FrameEnd p e below s 16 128 (Q0 Z p1 p2 p3 p4 p5 p6 h0 n0) (T44.setTop (mkF m 63 #[.val (.int p1), .val (.int p2), .val (.int p3), .val (.int p4), .val (.int p5), .val (.int p6), .val (.int (3 : Int32)), .val (.ref b40), .unset] [(.int (2 : Int32)), (.int (3 : Int32)), (.int (p3 &&& (2147483647 : Int32))), (.int (2 : Int32)), (.ref b40)]))
    refine Go.step (fun _ k => XS.isub X44.here hx rfl (hb hby at_63) rfl k) ?_
    show Go FrameEnd p e below s 16 128 (Q0 Z p1 p2 p3 p4 p5 p6 h0 n0) (T44.setTop (mkF m 64 #[.val (.int p1), .val (.int p2), .val (.int p3), .val (.int p4), .val (.int p5), .val (.int p6), .val (.int (3 : Int32)), .val (.ref b40), .unset] [(.int (1 : Int32)), (.int (p3 &&& (2147483647 : Int32))), (.int (2 : Int32)), (.ref b40)]))
    refine Go.step (fun _ k => XS.iconst X44.here hx rfl (hb hby at_64) k) ?_
    show Go FrameEnd p e below s 16 128 (Q0 Z p1 p2 p3 p4 p5 p6 h0 n0) (T44.setTop (mkF m 65 #[.val (.int p1), .val (.int p2), .val (.int p3), .val (.int p4), .val (.int p5), .val (.int p6), .val (.int (3 : Int32)), .val (.ref b40), .unset] [(.int (1 : Int32)), (.int (1 : Int32)), (.int (p3 &&& (2147483647 : Int32))), (.int (2 : Int32)), (.ref b40)]))
    refine Go.step (fun _ k => XS.iadd X44.here hx rfl (hb hby at_65) rfl k) ?_
    show Go FrameEnd p e below s 16 128 (Q0 Z p1 p2 p3 p4 p5 p6 h0 n0) (T44.setTop (mkF m 66 #[.val (.int p1), .val (.int p2), .val (.int p3), .val (.int p4), .val (.int p5), .val (.int p6), .val (.int (3 : Int32)), .val (.ref b40), .unset] [(.int (2 : Int32)), (.int (p3 &&& (2147483647 : Int32))), (.int (2 : Int32)), (.ref b40)]))
    refine Go.step (fun _ k => iremM X44 hx rfl (hb hby at_66) rfl (by decide) k) ?_
    show Go FrameEnd p e below s 16 128 (Q0 Z p1 p2 p3 p4 p5 p6 h0 n0) (T44.setTop (mkF m 67 #[.val (.int p1), .val (.int p2), .val (.int p3), .val (.int p4), .val (.int p5), .val (.int p6), .val (.int (3 : Int32)), .val (.ref b40), .unset] [(.int ((p3 &&& (2147483647 : Int32)) % (2 : Int32))), (.int (2 : Int32)), (.ref b40)]))
    obtain ⟨c45, Ac45, Sc45, Mc45, Gc45⟩ := id V44
    obtain ⟨T46, h46, X46, e46, W46, st46⟩ := stI X44 hx hZ e44 Ac45 (j := (2 : Int32)) (own_in Sc45 (by decide) (by decide)) (g := (mkF m 67 #[.val (.int p1), .val (.int p2), .val (.int p3), .val (.int p4), .val (.int p5), .val (.int p6), .val (.int (3 : Int32)), .val (.ref b40), .unset] [(.int ((p3 &&& (2147483647 : Int32)) % (2 : Int32))), (.int (2 : Int32)), (.ref b40)])) rfl rfl (hb hby at_67)
    refine Go.step st46 ?_
    have N46 := Fr.snoc X46 N44 g_b40
    have Z46 : n0 ≤ h46.size := Nat.le_trans Z44 (Keep.of_wr W46).1
    have V46 : Av Z h46 b40 .int 3 (aset (aset (aset (fun _ => (.int (0 : Int32))) 0 (.int (3 : Int32))) 1 (.int ((p2 &&& (2147483647 : Int32)) % (3 : Int32)))) 2 (.int ((p3 &&& (2147483647 : Int32)) % (2 : Int32)))) := Av.set Ac45 Sc45 Mc45 Gc45 W46 (by rfl) (own_in Sc45 (by decide) (by decide))
    show Go FrameEnd p e below s 16 128 (Q0 Z p1 p2 p3 p4 p5 p6 h0 n0) (T46.setTop (mkF m 68 #[.val (.int p1), .val (.int p2), .val (.int p3), .val (.int p4), .val (.int p5), .val (.int p6), .val (.int (3 : Int32)), .val (.ref b40), .unset] []))
    refine Go.step (fun _ k => XS.iload X46.here hx rfl (hb hby at_68) rfl k) ?_
    show Go FrameEnd p e below s 16 128 (Q0 Z p1 p2 p3 p4 p5 p6 h0 n0) (T46.setTop (mkF m 70 #[.val (.int p1), .val (.int p2), .val (.int p3), .val (.int p4), .val (.int p5), .val (.int p6), .val (.int (3 : Int32)), .val (.ref b40), .unset] [(.int (3 : Int32))]))
    refine Go.step (fun _ k => XS.iconst X46.here hx rfl (hb hby at_70) k) ?_
    show Go FrameEnd p e below s 16 128 (Q0 Z p1 p2 p3 p4 p5 p6 h0 n0) (T46.setTop (mkF m 71 #[.val (.int p1), .val (.int p2), .val (.int p3), .val (.int p4), .val (.int p5), .val (.int p6), .val (.int (3 : Int32)), .val (.ref b40), .unset] [(.int (3 : Int32)), (.int (3 : Int32))]))
    refine Go.step (fun _ k => XS.icmpYes X46.here hx rfl (pc0 := 71) (pc' := 89) rfl (hb hby at_71) rfl (flt (by decide)).2.2.2 (by decide) (by decide) k) ?_
    show Go FrameEnd p e below s 16 128 (Q0 Z p1 p2 p3 p4 p5 p6 h0 n0) (T46.setTop (mkF m 89 #[.val (.int p1), .val (.int p2), .val (.int p3), .val (.int p4), .val (.int p5), .val (.int p6), .val (.int (3 : Int32)), .val (.ref b40), .unset] []))
    refine Go.step (fun _ k => XS.iload X46.here hx rfl (hb hby at_89) rfl k) ?_
    show Go FrameEnd p e below s 16 128 (Q0 Z p1 p2 p3 p4 p5 p6 h0 n0) (T46.setTop (mkF m 91 #[.val (.int p1), .val (.int p2), .val (.int p3), .val (.int p4), .val (.int p5), .val (.int p6), .val (.int (3 : Int32)), .val (.ref b40), .unset] [(.int (3 : Int32))]))
    refine Go.step (fun _ k => XS.iconst X46.here hx rfl (hb hby at_91) k) ?_
    show Go FrameEnd p e below s 16 128 (Q0 Z p1 p2 p3 p4 p5 p6 h0 n0) (T46.setTop (mkF m 92 #[.val (.int p1), .val (.int p2), .val (.int p3), .val (.int p4), .val (.int p5), .val (.int p6), .val (.int (3 : Int32)), .val (.ref b40), .unset] [(.int (4 : Int32)), (.int (3 : Int32))]))
    refine Go.step (fun _ k => XS.icmpYes X46.here hx rfl (pc0 := 92) (pc' := 111) rfl (hb hby at_92) rfl (flt (by decide)).2.2.2 (by decide) (by decide) k) ?_
    show Go FrameEnd p e below s 16 128 (Q0 Z p1 p2 p3 p4 p5 p6 h0 n0) (T46.setTop (mkF m 111 #[.val (.int p1), .val (.int p2), .val (.int p3), .val (.int p4), .val (.int p5), .val (.int p6), .val (.int (3 : Int32)), .val (.ref b40), .unset] []))
    refine Go.step (fun _ k => XS.iload X46.here hx rfl (hb hby at_111) rfl k) ?_
    show Go FrameEnd p e below s 16 128 (Q0 Z p1 p2 p3 p4 p5 p6 h0 n0) (T46.setTop (mkF m 113 #[.val (.int p1), .val (.int p2), .val (.int p3), .val (.int p4), .val (.int p5), .val (.int p6), .val (.int (3 : Int32)), .val (.ref b40), .unset] [(.int (3 : Int32))]))
    refine Go.step (fun _ k => XS.iconst X46.here hx rfl (hb hby at_113) k) ?_
    show Go FrameEnd p e below s 16 128 (Q0 Z p1 p2 p3 p4 p5 p6 h0 n0) (T46.setTop (mkF m 114 #[.val (.int p1), .val (.int p2), .val (.int p3), .val (.int p4), .val (.int p5), .val (.int p6), .val (.int (3 : Int32)), .val (.ref b40), .unset] [(.int (5 : Int32)), (.int (3 : Int32))]))
    refine Go.step (fun _ k => XS.icmpYes X46.here hx rfl (pc0 := 114) (pc' := 133) rfl (hb hby at_114) rfl (flt (by decide)).2.2.2 (by decide) (by decide) k) ?_
    show Go FrameEnd p e below s 16 128 (Q0 Z p1 p2 p3 p4 p5 p6 h0 n0) (T46.setTop (mkF m 133 #[.val (.int p1), .val (.int p2), .val (.int p3), .val (.int p4), .val (.int p5), .val (.int p6), .val (.int (3 : Int32)), .val (.ref b40), .unset] []))
    have x1 := own_rem p2 (3 : Int32) (by decide)
    rw [show ((3 : Int32)).toInt = 3 from by decide] at x1
    have x2 := own_rem p3 (2 : Int32) (by decide)
    rw [show ((2 : Int32)).toInt = 2 from by decide] at x2
    have Vz : Av Z h46 b40 .int 3 (fun j => .int (Int32.ofNat ((zsel 3 ((p2 &&& (2147483647 : Int32)) % (3 : Int32)) ((p3 &&& (2147483647 : Int32)) % (2 : Int32)) (0 : Int32) (0 : Int32) (0 : Int32)) j))) := (V46).eq (fun j hj => by
      rcases (by omega : j = 0 ∨ j = 1 ∨ j = 2) with rfl | rfl | rfl
      · rfl
      · exact congrArg Value.int (own_back x1.1).symm
      · exact congrArg Value.int (own_back x2.1).symm)
    have hz : ∀ j, 1 ≤ j → j < 3 → j + (zsel 3 ((p2 &&& (2147483647 : Int32)) % (3 : Int32)) ((p3 &&& (2147483647 : Int32)) % (2 : Int32)) (0 : Int32) (0 : Int32) (0 : Int32)) j ≤ 3 := fun j h1 h2 => by
      rcases (by omega : j = 1 ∨ j = 2) with rfl | rfl
      · show 1 + (((p2 &&& (2147483647 : Int32)) % (3 : Int32))).toInt.toNat ≤ 3; omega
      · show 2 + (((p3 &&& (2147483647 : Int32)) % (2 : Int32))).toInt.toNat ≤ 3; omega
    refine Go.step (fun _ k => XS.aload X46.here hx rfl (hb hby at_133) rfl rfl k) ?_
    show Go FrameEnd p e below s 16 128 (Q0 Z p1 p2 p3 p4 p5 p6 h0 n0) (T46.setTop (mkF m 135 #[.val (.int p1), .val (.int p2), .val (.int p3), .val (.int p4), .val (.int p5), .val (.int p6), .val (.int (3 : Int32)), .val (.ref b40), .unset] [(.ref b40)]))
    obtain ⟨_, _, ⟨T47, L47, k47, n47⟩, -, X47, ⟨Lc47, hQ47, l47, y47, z47⟩, st47⟩ := Jvm.LawKit.callS X46 hx (y := (⟨"example/zedbox/Periods", "ofEachPrefix", "([I)[I"⟩ : MethodName)) hown (mvT hZ (hw _ (List.mem_of_getElem? (i := 2) rfl))) (mvT hZ (hw _ (List.mem_of_getElem? (i := 3) rfl))) (mvT hZ (hw _ (List.mem_of_getElem? (i := 4) rfl))) (mvT hZ (hw _ (List.mem_of_getElem? (i := 5) rfl))) (by decide) (backOf (W := 0) (rm3 l Z a0 hw [] b40 (zsel 3 ((p2 &&& (2147483647 : Int32)) % (3 : Int32)) ((p3 &&& (2147483647 : Int32)) % (2 : Int32)) (0 : Int32) (0 : Int32) (0 : Int32)) 3 h46 n0 Z46 Vz (by decide) hz) hZ (hw _ (List.mem_of_getElem? (i := 5) rfl)) (hw _ (List.mem_of_getElem? (i := 4) rfl)) (by decide) (by decide)) (g := (mkF m 135 #[.val (.int p1), .val (.int p2), .val (.int p3), .val (.int p4), .val (.int p5), .val (.int p6), .val (.int (3 : Int32)), .val (.ref b40), .unset] [(.ref b40)])) rfl (by rw [hml]; rfl) (argsL := [(.ref b40)]) (rest := []) (lenOf pd___I__I rfl) rfl (by show 2 * 0 + _ ≤ _; exact Nat.le_of_eq rfl) (hb hby at_135) (fun _ _ => ⟨rfl, e46, (by decide : 1 + 1 ≤ _), (by decide : 3 + 7 ≤ _)⟩)
    dsimp only [Pt.U, Pt.locs, Pt.cells, Pt.slots] at X47 l47 y47 z47 st47 hQ47
    subst l47 y47 z47
    obtain ⟨b47a, rfl, N47q, szb47a, K47_0, xA47_1⟩ := hQ47
    have N47 := Fr.app N46 N47q
    have ne_b40_b47a : b40 ≠ b47a := Nat.ne_of_lt (Nat.lt_of_lt_of_le Vz.lt szb47a)
    have g_b47a : n0 ≤ b47a := Nat.le_trans Z46 szb47a
    have Z47 : n0 ≤ T47.heap.size := Nat.le_trans Z46 K47_0.1
    refine Go.step st47 ?_
    show Go FrameEnd p e below s 16 128 (Q0 Z p1 p2 p3 p4 p5 p6 h0 n0) (T47.setTop (mkF m 138 #[.val (.int p1), .val (.int p2), .val (.int p3), .val (.int p4), .val (.int p5), .val (.int p6), .val (.int (3 : Int32)), .val (.ref b40), .unset] [(.ref b47a)]))
    refine Go.step (fun _ k => XS.astore X47.here hx rfl (hb hby at_138) rfl rfl (l' := #[.val (.int p1), .val (.int p2), .val (.int p3), .val (.int p4), .val (.int p5), .val (.int p6), .val (.int (3 : Int32)), .val (.ref b40), .val (.ref b47a)]) rfl k) ?_
    show Go FrameEnd p e below s 16 128 (Q0 Z p1 p2 p3 p4 p5 p6 h0 n0) (T47.setTop (mkF m 140 #[.val (.int p1), .val (.int p2), .val (.int p3), .val (.int p4), .val (.int p5), .val (.int p6), .val (.int (3 : Int32)), .val (.ref b40), .val (.ref b47a)] []))
    refine Go.step (fun _ k => XS.aload X47.here hx rfl (hb hby at_140) rfl rfl k) ?_
    show Go FrameEnd p e below s 16 128 (Q0 Z p1 p2 p3 p4 p5 p6 h0 n0) (T47.setTop (mkF m 142 #[.val (.int p1), .val (.int p2), .val (.int p3), .val (.int p4), .val (.int p5), .val (.int p6), .val (.int (3 : Int32)), .val (.ref b40), .val (.ref b47a)] [(.ref b47a)]))
    refine Go.step (fun _ k => XS.ifnullNo X47.here hx rfl (hb hby at_142) rfl k) ?_
    show Go FrameEnd p e below s 16 128 (Q0 Z p1 p2 p3 p4 p5 p6 h0 n0) (T47.setTop (mkF m 145 #[.val (.int p1), .val (.int p2), .val (.int p3), .val (.int p4), .val (.int p5), .val (.int p6), .val (.int (3 : Int32)), .val (.ref b40), .val (.ref b47a)] []))
    refine Go.step (fun _ k => XS.aload X47.here hx rfl (hb hby at_145) rfl rfl k) ?_
    show Go FrameEnd p e below s 16 128 (Q0 Z p1 p2 p3 p4 p5 p6 h0 n0) (T47.setTop (mkF m 147 #[.val (.int p1), .val (.int p2), .val (.int p3), .val (.int p4), .val (.int p5), .val (.int p6), .val (.int (3 : Int32)), .val (.ref b40), .val (.ref b47a)] [(.ref b47a)]))
    obtain ⟨c48, Ac48, Sc48, Mc48, Gc48⟩ := id xA47_1
    refine Go.step (X47.arraylength hx Ac48.1 (State.isArrayOf_alike hZ.alike Ac48.2.1) (g := (mkF m 147 #[.val (.int p1), .val (.int p2), .val (.int p3), .val (.int p4), .val (.int p5), .val (.int p6), .val (.int (3 : Int32)), .val (.ref b40), .val (.ref b47a)] [(.ref b47a)])) rfl rfl (hb hby at_147)) ?_
    rw [show c48.slots.size.toInt32 = (4 : Int32) from congrArg Nat.toInt32 Sc48]
    show Go FrameEnd p e below s 16 128 (Q0 Z p1 p2 p3 p4 p5 p6 h0 n0) (T47.setTop (mkF m 148 #[.val (.int p1), .val (.int p2), .val (.int p3), .val (.int p4), .val (.int p5), .val (.int p6), .val (.int (3 : Int32)), .val (.ref b40), .val (.ref b47a)] [(.int (4 : Int32))]))
    refine Go.step (fun _ k => XS.iload X47.here hx rfl (hb hby at_148) rfl k) ?_
    show Go FrameEnd p e below s 16 128 (Q0 Z p1 p2 p3 p4 p5 p6 h0 n0) (T47.setTop (mkF m 150 #[.val (.int p1), .val (.int p2), .val (.int p3), .val (.int p4), .val (.int p5), .val (.int p6), .val (.int (3 : Int32)), .val (.ref b40), .val (.ref b47a)] [(.int (3 : Int32)), (.int (4 : Int32))]))
    refine Go.step (fun _ k => XS.iconst X47.here hx rfl (hb hby at_150) k) ?_
    show Go FrameEnd p e below s 16 128 (Q0 Z p1 p2 p3 p4 p5 p6 h0 n0) (T47.setTop (mkF m 151 #[.val (.int p1), .val (.int p2), .val (.int p3), .val (.int p4), .val (.int p5), .val (.int p6), .val (.int (3 : Int32)), .val (.ref b40), .val (.ref b47a)] [(.int (1 : Int32)), (.int (3 : Int32)), (.int (4 : Int32))]))
    refine Go.step (fun _ k => XS.iadd X47.here hx rfl (hb hby at_151) rfl k) ?_
    show Go FrameEnd p e below s 16 128 (Q0 Z p1 p2 p3 p4 p5 p6 h0 n0) (T47.setTop (mkF m 152 #[.val (.int p1), .val (.int p2), .val (.int p3), .val (.int p4), .val (.int p5), .val (.int p6), .val (.int (3 : Int32)), .val (.ref b40), .val (.ref b47a)] [(.int (4 : Int32)), (.int (4 : Int32))]))
    refine Go.step (fun _ k => XS.icmpYes X47.here hx rfl (pc0 := 152) (pc' := 157) rfl (hb hby at_152) rfl (teq rfl).1 (by decide) (by decide) k) ?_
    show Go FrameEnd p e below s 16 128 (Q0 Z p1 p2 p3 p4 p5 p6 h0 n0) (T47.setTop (mkF m 157 #[.val (.int p1), .val (.int p2), .val (.int p3), .val (.int p4), .val (.int p5), .val (.int p6), .val (.int (3 : Int32)), .val (.ref b40), .val (.ref b47a)] []))
    refine Go.step (fun _ k => XS.aload X47.here hx rfl (hb hby at_157) rfl rfl k) ?_
    show Go FrameEnd p e below s 16 128 (Q0 Z p1 p2 p3 p4 p5 p6 h0 n0) (T47.setTop (mkF m 159 #[.val (.int p1), .val (.int p2), .val (.int p3), .val (.int p4), .val (.int p5), .val (.int p6), .val (.int (3 : Int32)), .val (.ref b40), .val (.ref b47a)] [(.ref b47a)]))
    refine Go.step (fun _ k => XS.aload X47.here hx rfl (hb hby at_159) rfl rfl k) ?_
    show Go FrameEnd p e below s 16 128 (Q0 Z p1 p2 p3 p4 p5 p6 h0 n0) (T47.setTop (mkF m 161 #[.val (.int p1), .val (.int p2), .val (.int p3), .val (.int p4), .val (.int p5), .val (.int p6), .val (.int (3 : Int32)), .val (.ref b40), .val (.ref b47a)] [(.ref b40), (.ref b47a)]))
    refine Go.step (fun _ k => XS.iconst X47.here hx rfl (hb hby at_161) k) ?_
    show Go FrameEnd p e below s 16 128 (Q0 Z p1 p2 p3 p4 p5 p6 h0 n0) (T47.setTop (mkF m 162 #[.val (.int p1), .val (.int p2), .val (.int p3), .val (.int p4), .val (.int p5), .val (.int p6), .val (.int (3 : Int32)), .val (.ref b40), .val (.ref b47a)] [(.int (0 : Int32)), (.ref b40), (.ref b47a)]))
    have f_49 := (Vz.keep K47_0 nin0)
    obtain ⟨_, _, ⟨T50, L50, k50, n50⟩, -, X50, ⟨Lc50, hQ50, l50, y50, z50⟩, st50⟩ := Jvm.LawKit.callS X47 hx (y := (⟨"example/zedbox/PeriodsOfEachPrefixPinLaw", "ok", "([I[II)Z"⟩ : MethodName)) hown (mvT hZ (hw _ (List.mem_of_getElem? (i := 6) rfl))) (mvT hZ (hw _ (List.mem_of_getElem? (i := 7) rfl))) (mvT hZ (hw _ (List.mem_of_getElem? (i := 8) rfl))) (mvT hZ (hw _ (List.mem_of_getElem? (i := 9) rfl))) (by decide) (backOf (W := 0) (rm2 l Z a0 hw [] b47a b40 (zsel 3 ((p2 &&& (2147483647 : Int32)) % (3 : Int32)) ((p3 &&& (2147483647 : Int32)) % (2 : Int32)) (0 : Int32) (0 : Int32) (0 : Int32)) 0 3 T47.heap f_49 xA47_1 (by decide) hz) hZ (hw _ (List.mem_of_getElem? (i := 9) rfl)) (hw _ (List.mem_of_getElem? (i := 8) rfl)) (by decide) (by decide)) (g := (mkF m 162 #[.val (.int p1), .val (.int p2), .val (.int p3), .val (.int p4), .val (.int p5), .val (.int p6), .val (.int (3 : Int32)), .val (.ref b40), .val (.ref b47a)] [(.int (0 : Int32)), (.ref b40), (.ref b47a)])) rfl (by rw [hml]; rfl) (argsL := [(.ref b47a), (.ref b40), (.int (0 : Int32))]) (rest := []) (lenOf pd___I_II_Z rfl) rfl (by show 2 * 0 + _ ≤ _; exact Nat.le_of_eq rfl) (hb hby at_162) (fun _ _ => ⟨rfl, rfl, (by decide : 2 + 0 ≤ _), (by decide : 10 + 0 ≤ _)⟩)
    dsimp only [Pt.U, Pt.locs, Pt.cells, Pt.slots] at X50 l50 y50 z50 st50 hQ50
    subst l50 y50 z50
    obtain ⟨rfl, rfl, e50⟩ := hQ50
    have N50 := Fr.app N47 (Fr.nil n0)
    refine Go.step st50 ?_
    show Go FrameEnd p e below s 16 128 (Q0 Z p1 p2 p3 p4 p5 p6 h0 n0) (T50.setTop (mkF m 165 #[.val (.int p1), .val (.int p2), .val (.int p3), .val (.int p4), .val (.int p5), .val (.int p6), .val (.int (3 : Int32)), .val (.ref b40), .val (.ref b47a)] [(.int (1 : Int32))]))
    refine Go.step (fun _ k => XS.ifNo X50.here hx rfl (hb hby at_165) rfl ((if0 _ _).trans (feq (by decide)).1) k) ?_
    show Go FrameEnd p e below s 16 128 (Q0 Z p1 p2 p3 p4 p5 p6 h0 n0) (T50.setTop (mkF m 168 #[.val (.int p1), .val (.int p2), .val (.int p3), .val (.int p4), .val (.int p5), .val (.int p6), .val (.int (3 : Int32)), .val (.ref b40), .val (.ref b47a)] []))
    refine Go.step (fun _ k => XS.aload X50.here hx rfl (hb hby at_168) rfl rfl k) ?_
    show Go FrameEnd p e below s 16 128 (Q0 Z p1 p2 p3 p4 p5 p6 h0 n0) (T50.setTop (mkF m 170 #[.val (.int p1), .val (.int p2), .val (.int p3), .val (.int p4), .val (.int p5), .val (.int p6), .val (.int (3 : Int32)), .val (.ref b40), .val (.ref b47a)] [(.ref b47a)]))
    refine Go.step (fun _ k => XS.aload X50.here hx rfl (hb hby at_170) rfl rfl k) ?_
    show Go FrameEnd p e below s 16 128 (Q0 Z p1 p2 p3 p4 p5 p6 h0 n0) (T50.setTop (mkF m 172 #[.val (.int p1), .val (.int p2), .val (.int p3), .val (.int p4), .val (.int p5), .val (.int p6), .val (.int (3 : Int32)), .val (.ref b40), .val (.ref b47a)] [(.ref b40), (.ref b47a)]))
    refine Go.step (fun _ k => XS.iconst X50.here hx rfl (hb hby at_172) k) ?_
    show Go FrameEnd p e below s 16 128 (Q0 Z p1 p2 p3 p4 p5 p6 h0 n0) (T50.setTop (mkF m 173 #[.val (.int p1), .val (.int p2), .val (.int p3), .val (.int p4), .val (.int p5), .val (.int p6), .val (.int (3 : Int32)), .val (.ref b40), .val (.ref b47a)] [(.int (1 : Int32)), (.ref b40), (.ref b47a)]))
    obtain ⟨_, _, ⟨T51, L51, k51, n51⟩, -, X51, ⟨Lc51, hQ51, l51, y51, z51⟩, st51⟩ := Jvm.LawKit.callS X50 hx (y := (⟨"example/zedbox/PeriodsOfEachPrefixPinLaw", "ok", "([I[II)Z"⟩ : MethodName)) hown (mvT hZ (hw _ (List.mem_of_getElem? (i := 6) rfl))) (mvT hZ (hw _ (List.mem_of_getElem? (i := 7) rfl))) (mvT hZ (hw _ (List.mem_of_getElem? (i := 8) rfl))) (mvT hZ (hw _ (List.mem_of_getElem? (i := 9) rfl))) (by decide) (backOf (W := 0) (rm2 l Z a0 hw [] b47a b40 (zsel 3 ((p2 &&& (2147483647 : Int32)) % (3 : Int32)) ((p3 &&& (2147483647 : Int32)) % (2 : Int32)) (0 : Int32) (0 : Int32) (0 : Int32)) 1 3 T47.heap f_49 xA47_1 (by decide) hz) hZ (hw _ (List.mem_of_getElem? (i := 9) rfl)) (hw _ (List.mem_of_getElem? (i := 8) rfl)) (by decide) (by decide)) (g := (mkF m 173 #[.val (.int p1), .val (.int p2), .val (.int p3), .val (.int p4), .val (.int p5), .val (.int p6), .val (.int (3 : Int32)), .val (.ref b40), .val (.ref b47a)] [(.int (1 : Int32)), (.ref b40), (.ref b47a)])) rfl (by rw [hml]; rfl) (argsL := [(.ref b47a), (.ref b40), (.int (1 : Int32))]) (rest := []) (lenOf pd___I_II_Z rfl) rfl (by show 2 * 0 + _ ≤ _; exact Nat.le_of_eq rfl) (hb hby at_173) (fun _ _ => ⟨rfl, e50, (by decide : 2 + 0 ≤ _), (by decide : 10 + 0 ≤ _)⟩)
    dsimp only [Pt.U, Pt.locs, Pt.cells, Pt.slots] at X51 l51 y51 z51 st51 hQ51
    subst l51 y51 z51
    obtain ⟨rfl, rfl, e51⟩ := hQ51
    have N51 := Fr.app N50 (Fr.nil n0)
    refine Go.step st51 ?_
    show Go FrameEnd p e below s 16 128 (Q0 Z p1 p2 p3 p4 p5 p6 h0 n0) (T51.setTop (mkF m 176 #[.val (.int p1), .val (.int p2), .val (.int p3), .val (.int p4), .val (.int p5), .val (.int p6), .val (.int (3 : Int32)), .val (.ref b40), .val (.ref b47a)] [(.int (1 : Int32))]))
    refine Go.step (fun _ k => XS.ifNo X51.here hx rfl (hb hby at_176) rfl ((if0 _ _).trans (feq (by decide)).1) k) ?_
    show Go FrameEnd p e below s 16 128 (Q0 Z p1 p2 p3 p4 p5 p6 h0 n0) (T51.setTop (mkF m 179 #[.val (.int p1), .val (.int p2), .val (.int p3), .val (.int p4), .val (.int p5), .val (.int p6), .val (.int (3 : Int32)), .val (.ref b40), .val (.ref b47a)] []))
    refine Go.step (fun _ k => XS.aload X51.here hx rfl (hb hby at_179) rfl rfl k) ?_
    show Go FrameEnd p e below s 16 128 (Q0 Z p1 p2 p3 p4 p5 p6 h0 n0) (T51.setTop (mkF m 181 #[.val (.int p1), .val (.int p2), .val (.int p3), .val (.int p4), .val (.int p5), .val (.int p6), .val (.int (3 : Int32)), .val (.ref b40), .val (.ref b47a)] [(.ref b47a)]))
    refine Go.step (fun _ k => XS.aload X51.here hx rfl (hb hby at_181) rfl rfl k) ?_
    show Go FrameEnd p e below s 16 128 (Q0 Z p1 p2 p3 p4 p5 p6 h0 n0) (T51.setTop (mkF m 183 #[.val (.int p1), .val (.int p2), .val (.int p3), .val (.int p4), .val (.int p5), .val (.int p6), .val (.int (3 : Int32)), .val (.ref b40), .val (.ref b47a)] [(.ref b40), (.ref b47a)]))
    refine Go.step (fun _ k => XS.iconst X51.here hx rfl (hb hby at_183) k) ?_
    show Go FrameEnd p e below s 16 128 (Q0 Z p1 p2 p3 p4 p5 p6 h0 n0) (T51.setTop (mkF m 184 #[.val (.int p1), .val (.int p2), .val (.int p3), .val (.int p4), .val (.int p5), .val (.int p6), .val (.int (3 : Int32)), .val (.ref b40), .val (.ref b47a)] [(.int (2 : Int32)), (.ref b40), (.ref b47a)]))
    obtain ⟨_, _, ⟨T52, L52, k52, n52⟩, -, X52, ⟨Lc52, hQ52, l52, y52, z52⟩, st52⟩ := Jvm.LawKit.callS X51 hx (y := (⟨"example/zedbox/PeriodsOfEachPrefixPinLaw", "ok", "([I[II)Z"⟩ : MethodName)) hown (mvT hZ (hw _ (List.mem_of_getElem? (i := 6) rfl))) (mvT hZ (hw _ (List.mem_of_getElem? (i := 7) rfl))) (mvT hZ (hw _ (List.mem_of_getElem? (i := 8) rfl))) (mvT hZ (hw _ (List.mem_of_getElem? (i := 9) rfl))) (by decide) (backOf (W := 0) (rm2 l Z a0 hw [] b47a b40 (zsel 3 ((p2 &&& (2147483647 : Int32)) % (3 : Int32)) ((p3 &&& (2147483647 : Int32)) % (2 : Int32)) (0 : Int32) (0 : Int32) (0 : Int32)) 2 3 T47.heap f_49 xA47_1 (by decide) hz) hZ (hw _ (List.mem_of_getElem? (i := 9) rfl)) (hw _ (List.mem_of_getElem? (i := 8) rfl)) (by decide) (by decide)) (g := (mkF m 184 #[.val (.int p1), .val (.int p2), .val (.int p3), .val (.int p4), .val (.int p5), .val (.int p6), .val (.int (3 : Int32)), .val (.ref b40), .val (.ref b47a)] [(.int (2 : Int32)), (.ref b40), (.ref b47a)])) rfl (by rw [hml]; rfl) (argsL := [(.ref b47a), (.ref b40), (.int (2 : Int32))]) (rest := []) (lenOf pd___I_II_Z rfl) rfl (by show 2 * 0 + _ ≤ _; exact Nat.le_of_eq rfl) (hb hby at_184) (fun _ _ => ⟨rfl, e51, (by decide : 2 + 0 ≤ _), (by decide : 10 + 0 ≤ _)⟩)
    dsimp only [Pt.U, Pt.locs, Pt.cells, Pt.slots] at X52 l52 y52 z52 st52 hQ52
    subst l52 y52 z52
    obtain ⟨rfl, rfl, e52⟩ := hQ52
    have N52 := Fr.app N51 (Fr.nil n0)
    refine Go.step st52 ?_
    show Go FrameEnd p e below s 16 128 (Q0 Z p1 p2 p3 p4 p5 p6 h0 n0) (T52.setTop (mkF m 187 #[.val (.int p1), .val (.int p2), .val (.int p3), .val (.int p4), .val (.int p5), .val (.int p6), .val (.int (3 : Int32)), .val (.ref b40), .val (.ref b47a)] [(.int (1 : Int32))]))
    refine Go.step (fun _ k => XS.ifNo X52.here hx rfl (hb hby at_187) rfl ((if0 _ _).trans (feq (by decide)).1) k) ?_
    show Go FrameEnd p e below s 16 128 (Q0 Z p1 p2 p3 p4 p5 p6 h0 n0) (T52.setTop (mkF m 190 #[.val (.int p1), .val (.int p2), .val (.int p3), .val (.int p4), .val (.int p5), .val (.int p6), .val (.int (3 : Int32)), .val (.ref b40), .val (.ref b47a)] []))
    refine Go.step (fun _ k => XS.aload X52.here hx rfl (hb hby at_190) rfl rfl k) ?_
    show Go FrameEnd p e below s 16 128 (Q0 Z p1 p2 p3 p4 p5 p6 h0 n0) (T52.setTop (mkF m 192 #[.val (.int p1), .val (.int p2), .val (.int p3), .val (.int p4), .val (.int p5), .val (.int p6), .val (.int (3 : Int32)), .val (.ref b40), .val (.ref b47a)] [(.ref b47a)]))
    refine Go.step (fun _ k => XS.aload X52.here hx rfl (hb hby at_192) rfl rfl k) ?_
    show Go FrameEnd p e below s 16 128 (Q0 Z p1 p2 p3 p4 p5 p6 h0 n0) (T52.setTop (mkF m 194 #[.val (.int p1), .val (.int p2), .val (.int p3), .val (.int p4), .val (.int p5), .val (.int p6), .val (.int (3 : Int32)), .val (.ref b40), .val (.ref b47a)] [(.ref b40), (.ref b47a)]))
    refine Go.step (fun _ k => XS.iconst X52.here hx rfl (hb hby at_194) k) ?_
    show Go FrameEnd p e below s 16 128 (Q0 Z p1 p2 p3 p4 p5 p6 h0 n0) (T52.setTop (mkF m 195 #[.val (.int p1), .val (.int p2), .val (.int p3), .val (.int p4), .val (.int p5), .val (.int p6), .val (.int (3 : Int32)), .val (.ref b40), .val (.ref b47a)] [(.int (3 : Int32)), (.ref b40), (.ref b47a)]))
    obtain ⟨_, _, ⟨T53, L53, k53, n53⟩, -, X53, ⟨Lc53, hQ53, l53, y53, z53⟩, st53⟩ := Jvm.LawKit.callS X52 hx (y := (⟨"example/zedbox/PeriodsOfEachPrefixPinLaw", "ok", "([I[II)Z"⟩ : MethodName)) hown (mvT hZ (hw _ (List.mem_of_getElem? (i := 6) rfl))) (mvT hZ (hw _ (List.mem_of_getElem? (i := 7) rfl))) (mvT hZ (hw _ (List.mem_of_getElem? (i := 8) rfl))) (mvT hZ (hw _ (List.mem_of_getElem? (i := 9) rfl))) (by decide) (backOf (W := 0) (rm2 l Z a0 hw [] b47a b40 (zsel 3 ((p2 &&& (2147483647 : Int32)) % (3 : Int32)) ((p3 &&& (2147483647 : Int32)) % (2 : Int32)) (0 : Int32) (0 : Int32) (0 : Int32)) 3 3 T47.heap f_49 xA47_1 (by decide) hz) hZ (hw _ (List.mem_of_getElem? (i := 9) rfl)) (hw _ (List.mem_of_getElem? (i := 8) rfl)) (by decide) (by decide)) (g := (mkF m 195 #[.val (.int p1), .val (.int p2), .val (.int p3), .val (.int p4), .val (.int p5), .val (.int p6), .val (.int (3 : Int32)), .val (.ref b40), .val (.ref b47a)] [(.int (3 : Int32)), (.ref b40), (.ref b47a)])) rfl (by rw [hml]; rfl) (argsL := [(.ref b47a), (.ref b40), (.int (3 : Int32))]) (rest := []) (lenOf pd___I_II_Z rfl) rfl (by show 2 * 0 + _ ≤ _; exact Nat.le_of_eq rfl) (hb hby at_195) (fun _ _ => ⟨rfl, e52, (by decide : 2 + 0 ≤ _), (by decide : 10 + 0 ≤ _)⟩)
    dsimp only [Pt.U, Pt.locs, Pt.cells, Pt.slots] at X53 l53 y53 z53 st53 hQ53
    subst l53 y53 z53
    obtain ⟨rfl, rfl, e53⟩ := hQ53
    have N53 := Fr.app N52 (Fr.nil n0)
    refine Go.step st53 ?_
    show Go FrameEnd p e below s 16 128 (Q0 Z p1 p2 p3 p4 p5 p6 h0 n0) (T53.setTop (mkF m 198 #[.val (.int p1), .val (.int p2), .val (.int p3), .val (.int p4), .val (.int p5), .val (.int p6), .val (.int (3 : Int32)), .val (.ref b40), .val (.ref b47a)] [(.int (1 : Int32))]))
    refine Go.step (fun _ k => XS.ifNo X53.here hx rfl (hb hby at_198) rfl ((if0 _ _).trans (feq (by decide)).1) k) ?_
    show Go FrameEnd p e below s 16 128 (Q0 Z p1 p2 p3 p4 p5 p6 h0 n0) (T53.setTop (mkF m 201 #[.val (.int p1), .val (.int p2), .val (.int p3), .val (.int p4), .val (.int p5), .val (.int p6), .val (.int (3 : Int32)), .val (.ref b40), .val (.ref b47a)] []))
    refine Go.step (fun _ k => XS.aload X53.here hx rfl (hb hby at_201) rfl rfl k) ?_
    show Go FrameEnd p e below s 16 128 (Q0 Z p1 p2 p3 p4 p5 p6 h0 n0) (T53.setTop (mkF m 203 #[.val (.int p1), .val (.int p2), .val (.int p3), .val (.int p4), .val (.int p5), .val (.int p6), .val (.int (3 : Int32)), .val (.ref b40), .val (.ref b47a)] [(.ref b47a)]))
    refine Go.step (fun _ k => XS.aload X53.here hx rfl (hb hby at_203) rfl rfl k) ?_
    show Go FrameEnd p e below s 16 128 (Q0 Z p1 p2 p3 p4 p5 p6 h0 n0) (T53.setTop (mkF m 205 #[.val (.int p1), .val (.int p2), .val (.int p3), .val (.int p4), .val (.int p5), .val (.int p6), .val (.int (3 : Int32)), .val (.ref b40), .val (.ref b47a)] [(.ref b40), (.ref b47a)]))
    refine Go.step (fun _ k => XS.iconst X53.here hx rfl (hb hby at_205) k) ?_
    show Go FrameEnd p e below s 16 128 (Q0 Z p1 p2 p3 p4 p5 p6 h0 n0) (T53.setTop (mkF m 206 #[.val (.int p1), .val (.int p2), .val (.int p3), .val (.int p4), .val (.int p5), .val (.int p6), .val (.int (3 : Int32)), .val (.ref b40), .val (.ref b47a)] [(.int (4 : Int32)), (.ref b40), (.ref b47a)]))
    obtain ⟨_, _, ⟨T54, L54, k54, n54⟩, -, X54, ⟨Lc54, hQ54, l54, y54, z54⟩, st54⟩ := Jvm.LawKit.callS X53 hx (y := (⟨"example/zedbox/PeriodsOfEachPrefixPinLaw", "ok", "([I[II)Z"⟩ : MethodName)) hown (mvT hZ (hw _ (List.mem_of_getElem? (i := 6) rfl))) (mvT hZ (hw _ (List.mem_of_getElem? (i := 7) rfl))) (mvT hZ (hw _ (List.mem_of_getElem? (i := 8) rfl))) (mvT hZ (hw _ (List.mem_of_getElem? (i := 9) rfl))) (by decide) (backOf (W := 0) (rm2 l Z a0 hw [] b47a b40 (zsel 3 ((p2 &&& (2147483647 : Int32)) % (3 : Int32)) ((p3 &&& (2147483647 : Int32)) % (2 : Int32)) (0 : Int32) (0 : Int32) (0 : Int32)) 4 3 T47.heap f_49 xA47_1 (by decide) hz) hZ (hw _ (List.mem_of_getElem? (i := 9) rfl)) (hw _ (List.mem_of_getElem? (i := 8) rfl)) (by decide) (by decide)) (g := (mkF m 206 #[.val (.int p1), .val (.int p2), .val (.int p3), .val (.int p4), .val (.int p5), .val (.int p6), .val (.int (3 : Int32)), .val (.ref b40), .val (.ref b47a)] [(.int (4 : Int32)), (.ref b40), (.ref b47a)])) rfl (by rw [hml]; rfl) (argsL := [(.ref b47a), (.ref b40), (.int (4 : Int32))]) (rest := []) (lenOf pd___I_II_Z rfl) rfl (by show 2 * 0 + _ ≤ _; exact Nat.le_of_eq rfl) (hb hby at_206) (fun _ _ => ⟨rfl, e53, (by decide : 2 + 0 ≤ _), (by decide : 10 + 0 ≤ _)⟩)
    dsimp only [Pt.U, Pt.locs, Pt.cells, Pt.slots] at X54 l54 y54 z54 st54 hQ54
    subst l54 y54 z54
    obtain ⟨rfl, rfl, e54⟩ := hQ54
    have N54 := Fr.app N53 (Fr.nil n0)
    refine Go.step st54 ?_
    show Go FrameEnd p e below s 16 128 (Q0 Z p1 p2 p3 p4 p5 p6 h0 n0) (T54.setTop (mkF m 209 #[.val (.int p1), .val (.int p2), .val (.int p3), .val (.int p4), .val (.int p5), .val (.int p6), .val (.int (3 : Int32)), .val (.ref b40), .val (.ref b47a)] [(.int (1 : Int32))]))
    refine Go.step (fun _ k => XS.ifNo X54.here hx rfl (hb hby at_209) rfl ((if0 _ _).trans (feq (by decide)).1) k) ?_
    show Go FrameEnd p e below s 16 128 (Q0 Z p1 p2 p3 p4 p5 p6 h0 n0) (T54.setTop (mkF m 212 #[.val (.int p1), .val (.int p2), .val (.int p3), .val (.int p4), .val (.int p5), .val (.int p6), .val (.int (3 : Int32)), .val (.ref b40), .val (.ref b47a)] []))
    refine Go.step (fun _ k => XS.aload X54.here hx rfl (hb hby at_212) rfl rfl k) ?_
    show Go FrameEnd p e below s 16 128 (Q0 Z p1 p2 p3 p4 p5 p6 h0 n0) (T54.setTop (mkF m 214 #[.val (.int p1), .val (.int p2), .val (.int p3), .val (.int p4), .val (.int p5), .val (.int p6), .val (.int (3 : Int32)), .val (.ref b40), .val (.ref b47a)] [(.ref b47a)]))
    refine Go.step (fun _ k => XS.aload X54.here hx rfl (hb hby at_214) rfl rfl k) ?_
    show Go FrameEnd p e below s 16 128 (Q0 Z p1 p2 p3 p4 p5 p6 h0 n0) (T54.setTop (mkF m 216 #[.val (.int p1), .val (.int p2), .val (.int p3), .val (.int p4), .val (.int p5), .val (.int p6), .val (.int (3 : Int32)), .val (.ref b40), .val (.ref b47a)] [(.ref b40), (.ref b47a)]))
    refine Go.step (fun _ k => XS.iconst X54.here hx rfl (hb hby at_216) k) ?_
    show Go FrameEnd p e below s 16 128 (Q0 Z p1 p2 p3 p4 p5 p6 h0 n0) (T54.setTop (mkF m 217 #[.val (.int p1), .val (.int p2), .val (.int p3), .val (.int p4), .val (.int p5), .val (.int p6), .val (.int (3 : Int32)), .val (.ref b40), .val (.ref b47a)] [(.int (5 : Int32)), (.ref b40), (.ref b47a)]))
    obtain ⟨_, _, ⟨T55, L55, k55, n55⟩, -, X55, ⟨Lc55, hQ55, l55, y55, z55⟩, st55⟩ := Jvm.LawKit.callS X54 hx (y := (⟨"example/zedbox/PeriodsOfEachPrefixPinLaw", "ok", "([I[II)Z"⟩ : MethodName)) hown (mvT hZ (hw _ (List.mem_of_getElem? (i := 6) rfl))) (mvT hZ (hw _ (List.mem_of_getElem? (i := 7) rfl))) (mvT hZ (hw _ (List.mem_of_getElem? (i := 8) rfl))) (mvT hZ (hw _ (List.mem_of_getElem? (i := 9) rfl))) (by decide) (backOf (W := 0) (rm2 l Z a0 hw [] b47a b40 (zsel 3 ((p2 &&& (2147483647 : Int32)) % (3 : Int32)) ((p3 &&& (2147483647 : Int32)) % (2 : Int32)) (0 : Int32) (0 : Int32) (0 : Int32)) 5 3 T47.heap f_49 xA47_1 (by decide) hz) hZ (hw _ (List.mem_of_getElem? (i := 9) rfl)) (hw _ (List.mem_of_getElem? (i := 8) rfl)) (by decide) (by decide)) (g := (mkF m 217 #[.val (.int p1), .val (.int p2), .val (.int p3), .val (.int p4), .val (.int p5), .val (.int p6), .val (.int (3 : Int32)), .val (.ref b40), .val (.ref b47a)] [(.int (5 : Int32)), (.ref b40), (.ref b47a)])) rfl (by rw [hml]; rfl) (argsL := [(.ref b47a), (.ref b40), (.int (5 : Int32))]) (rest := []) (lenOf pd___I_II_Z rfl) rfl (by show 2 * 0 + _ ≤ _; exact Nat.le_of_eq rfl) (hb hby at_217) (fun _ _ => ⟨rfl, e54, (by decide : 2 + 0 ≤ _), (by decide : 10 + 0 ≤ _)⟩)
    dsimp only [Pt.U, Pt.locs, Pt.cells, Pt.slots] at X55 l55 y55 z55 st55 hQ55
    subst l55 y55 z55
    obtain ⟨rfl, rfl, e55⟩ := hQ55
    have N55 := Fr.app N54 (Fr.nil n0)
    refine Go.step st55 ?_
    show Go FrameEnd p e below s 16 128 (Q0 Z p1 p2 p3 p4 p5 p6 h0 n0) (T55.setTop (mkF m 220 #[.val (.int p1), .val (.int p2), .val (.int p3), .val (.int p4), .val (.int p5), .val (.int p6), .val (.int (3 : Int32)), .val (.ref b40), .val (.ref b47a)] [(.int (1 : Int32))]))
    refine Go.step (fun _ k => XS.ifNo X55.here hx rfl (hb hby at_220) rfl ((if0 _ _).trans (feq (by decide)).1) k) ?_
    show Go FrameEnd p e below s 16 128 (Q0 Z p1 p2 p3 p4 p5 p6 h0 n0) (T55.setTop (mkF m 223 #[.val (.int p1), .val (.int p2), .val (.int p3), .val (.int p4), .val (.int p5), .val (.int p6), .val (.int (3 : Int32)), .val (.ref b40), .val (.ref b47a)] []))
    refine Go.step (fun _ k => XS.aload X55.here hx rfl (hb hby at_223) rfl rfl k) ?_
    show Go FrameEnd p e below s 16 128 (Q0 Z p1 p2 p3 p4 p5 p6 h0 n0) (T55.setTop (mkF m 225 #[.val (.int p1), .val (.int p2), .val (.int p3), .val (.int p4), .val (.int p5), .val (.int p6), .val (.int (3 : Int32)), .val (.ref b40), .val (.ref b47a)] [(.ref b47a)]))
    refine Go.step (fun _ k => XS.aload X55.here hx rfl (hb hby at_225) rfl rfl k) ?_
    show Go FrameEnd p e below s 16 128 (Q0 Z p1 p2 p3 p4 p5 p6 h0 n0) (T55.setTop (mkF m 227 #[.val (.int p1), .val (.int p2), .val (.int p3), .val (.int p4), .val (.int p5), .val (.int p6), .val (.int (3 : Int32)), .val (.ref b40), .val (.ref b47a)] [(.ref b40), (.ref b47a)]))
    refine Go.step (fun _ k => XS.bipush X55.here hx rfl (hb hby at_227) k) ?_
    show Go FrameEnd p e below s 16 128 (Q0 Z p1 p2 p3 p4 p5 p6 h0 n0) (T55.setTop (mkF m 229 #[.val (.int p1), .val (.int p2), .val (.int p3), .val (.int p4), .val (.int p5), .val (.int p6), .val (.int (3 : Int32)), .val (.ref b40), .val (.ref b47a)] [(.int (6 : Int32)), (.ref b40), (.ref b47a)]))
    obtain ⟨_, _, ⟨T56, L56, k56, n56⟩, -, X56, ⟨Lc56, hQ56, l56, y56, z56⟩, st56⟩ := Jvm.LawKit.callS X55 hx (y := (⟨"example/zedbox/PeriodsOfEachPrefixPinLaw", "ok", "([I[II)Z"⟩ : MethodName)) hown (mvT hZ (hw _ (List.mem_of_getElem? (i := 6) rfl))) (mvT hZ (hw _ (List.mem_of_getElem? (i := 7) rfl))) (mvT hZ (hw _ (List.mem_of_getElem? (i := 8) rfl))) (mvT hZ (hw _ (List.mem_of_getElem? (i := 9) rfl))) (by decide) (backOf (W := 0) (rm2 l Z a0 hw [] b47a b40 (zsel 3 ((p2 &&& (2147483647 : Int32)) % (3 : Int32)) ((p3 &&& (2147483647 : Int32)) % (2 : Int32)) (0 : Int32) (0 : Int32) (0 : Int32)) 6 3 T47.heap f_49 xA47_1 (by decide) hz) hZ (hw _ (List.mem_of_getElem? (i := 9) rfl)) (hw _ (List.mem_of_getElem? (i := 8) rfl)) (by decide) (by decide)) (g := (mkF m 229 #[.val (.int p1), .val (.int p2), .val (.int p3), .val (.int p4), .val (.int p5), .val (.int p6), .val (.int (3 : Int32)), .val (.ref b40), .val (.ref b47a)] [(.int (6 : Int32)), (.ref b40), (.ref b47a)])) rfl (by rw [hml]; rfl) (argsL := [(.ref b47a), (.ref b40), (.int (6 : Int32))]) (rest := []) (lenOf pd___I_II_Z rfl) rfl (by show 2 * 0 + _ ≤ _; exact Nat.le_of_eq rfl) (hb hby at_229) (fun _ _ => ⟨rfl, e55, (by decide : 2 + 0 ≤ _), (by decide : 10 + 0 ≤ _)⟩)
    dsimp only [Pt.U, Pt.locs, Pt.cells, Pt.slots] at X56 l56 y56 z56 st56 hQ56
    subst l56 y56 z56
    obtain ⟨rfl, rfl, e56⟩ := hQ56
    have N56 := Fr.app N55 (Fr.nil n0)
    refine Go.step st56 ?_
    show Go FrameEnd p e below s 16 128 (Q0 Z p1 p2 p3 p4 p5 p6 h0 n0) (T56.setTop (mkF m 232 #[.val (.int p1), .val (.int p2), .val (.int p3), .val (.int p4), .val (.int p5), .val (.int p6), .val (.int (3 : Int32)), .val (.ref b40), .val (.ref b47a)] [(.int (1 : Int32))]))
    refine Go.step (fun _ k => XS.ifNo X56.here hx rfl (hb hby at_232) rfl ((if0 _ _).trans (feq (by decide)).1) k) ?_
    show Go FrameEnd p e below s 16 128 (Q0 Z p1 p2 p3 p4 p5 p6 h0 n0) (T56.setTop (mkF m 235 #[.val (.int p1), .val (.int p2), .val (.int p3), .val (.int p4), .val (.int p5), .val (.int p6), .val (.int (3 : Int32)), .val (.ref b40), .val (.ref b47a)] []))
    refine Go.step (fun _ k => XS.iconst X56.here hx rfl (hb hby at_235) k) ?_
    show Go FrameEnd p e below s 16 128 (Q0 Z p1 p2 p3 p4 p5 p6 h0 n0) (T56.setTop (mkF m 236 #[.val (.int p1), .val (.int p2), .val (.int p3), .val (.int p4), .val (.int p5), .val (.int p6), .val (.int (3 : Int32)), .val (.ref b40), .val (.ref b47a)] [(.int (1 : Int32))]))
    refine Go.step (fun _ k => XS.goto X56.here hx rfl (pc0 := 236) (pc' := 240) rfl (hb hby at_236) (by decide) (by decide) k) ?_
    show Go FrameEnd p e below s 16 128 (Q0 Z p1 p2 p3 p4 p5 p6 h0 n0) (T56.setTop (mkF m 240 #[.val (.int p1), .val (.int p2), .val (.int p3), .val (.int p4), .val (.int p5), .val (.int p6), .val (.int (3 : Int32)), .val (.ref b40), .val (.ref b47a)] [(.int (1 : Int32))]))
    refine Go.retN X56 hx (t := .boolean) Bd.returns (by simp) (by decide) (hb hby at_240) (BodyLoose.notSynchronized Bd) e56 (by decide) (by decide) ?_
    exact ⟨rfl, N56⟩
  · skip
    rw [q]
    show Go FrameEnd p e below s 16 128 (Q0 Z p1 p2 p3 p4 p5 p6 h0 n0) (s₁.setTop (mkF m 7 #[.val (.int p1), .val (.int p2), .val (.int p3), .val (.int p4), .val (.int p5), .val (.int p6), .unset, .unset, .unset] [(.int (4 : Int32))]))
    refine Go.step (fun _ k => XS.istore X0.here hx rfl (hb hby at_7) rfl (l' := #[.val (.int p1), .val (.int p2), .val (.int p3), .val (.int p4), .val (.int p5), .val (.int p6), .val (.int (4 : Int32)), .unset, .unset]) rfl k) ?_
    show Go FrameEnd p e below s 16 128 (Q0 Z p1 p2 p3 p4 p5 p6 h0 n0) (s₁.setTop (mkF m 9 #[.val (.int p1), .val (.int p2), .val (.int p3), .val (.int p4), .val (.int p5), .val (.int p6), .val (.int (4 : Int32)), .unset, .unset] []))
    refine Go.step (fun _ k => XS.iload X0.here hx rfl (hb hby at_9) rfl k) ?_
    show Go FrameEnd p e below s 16 128 (Q0 Z p1 p2 p3 p4 p5 p6 h0 n0) (s₁.setTop (mkF m 11 #[.val (.int p1), .val (.int p2), .val (.int p3), .val (.int p4), .val (.int p5), .val (.int p6), .val (.int (4 : Int32)), .unset, .unset] [(.int (4 : Int32))]))
    obtain ⟨T57, h57, k57, X57, e57, E57, A57, st57⟩ := newP X0 hx hZ (hw _ (List.mem_of_getElem? (i := 1) rfl)) e0 (g := (mkF m 11 #[.val (.int p1), .val (.int p2), .val (.int p3), .val (.int p4), .val (.int p5), .val (.int p6), .val (.int (4 : Int32)), .unset, .unset] [(.int (4 : Int32))])) rfl (hb hby at_11) rfl (by decide) (cap := 4) (by decide) (by decide) (by decide) (by decide)
    refine Go.step st57 ?_
    obtain ⟨b57, g57⟩ : ∃ z, z = h0.size := ⟨_, rfl⟩
    rw [← g57] at A57 ⊢
    have g_b57 : n0 ≤ b57 := Nat.le_trans Z0 (Nat.le_of_eq g57.symm)
    have Z57 : n0 ≤ h57.size := Nat.le_trans Z0 E57.1
    have V57 : Av Z h57 b57 .int 4 (fun _ => (.int (0 : Int32))) := Av.new A57 (by decide) rfl
    show Go FrameEnd p e below s 16 128 (Q0 Z p1 p2 p3 p4 p5 p6 h0 n0) (T57.setTop (mkF m 13 #[.val (.int p1), .val (.int p2), .val (.int p3), .val (.int p4), .val (.int p5), .val (.int p6), .val (.int (4 : Int32)), .unset, .unset] [(.ref b57)]))
    refine Go.step (fun _ k => XS.astore X57.here hx rfl (hb hby at_13) rfl rfl (l' := #[.val (.int p1), .val (.int p2), .val (.int p3), .val (.int p4), .val (.int p5), .val (.int p6), .val (.int (4 : Int32)), .val (.ref b57), .unset]) rfl k) ?_
    show Go FrameEnd p e below s 16 128 (Q0 Z p1 p2 p3 p4 p5 p6 h0 n0) (T57.setTop (mkF m 15 #[.val (.int p1), .val (.int p2), .val (.int p3), .val (.int p4), .val (.int p5), .val (.int p6), .val (.int (4 : Int32)), .val (.ref b57), .unset] []))
    refine Go.step (fun _ k => XS.iload X57.here hx rfl (hb hby at_15) rfl k) ?_
    show Go FrameEnd p e below s 16 128 (Q0 Z p1 p2 p3 p4 p5 p6 h0 n0) (T57.setTop (mkF m 17 #[.val (.int p1), .val (.int p2), .val (.int p3), .val (.int p4), .val (.int p5), .val (.int p6), .val (.int (4 : Int32)), .val (.ref b57), .unset] [(.int (4 : Int32))]))
    refine Go.step (fun _ k => XS.ifNo X57.here hx rfl (hb hby at_17) rfl ((if0 _ _).trans (tlt (by decide)).2.2.2) k) ?_
    show Go FrameEnd p e below s 16 128 (Q0 Z p1 p2 p3 p4 p5 p6 h0 n0) (T57.setTop (mkF m 20 #[.val (.int p1), .val (.int p2), .val (.int p3), .val (.int p4), .val (.int p5), .val (.int p6), .val (.int (4 : Int32)), .val (.ref b57), .unset] []))
    refine Go.step (fun _ k => XS.aload X57.here hx rfl (hb hby at_20) rfl rfl k) ?_
    show Go FrameEnd p e below s 16 128 (Q0 Z p1 p2 p3 p4 p5 p6 h0 n0) (T57.setTop (mkF m 22 #[.val (.int p1), .val (.int p2), .val (.int p3), .val (.int p4), .val (.int p5), .val (.int p6), .val (.int (4 : Int32)), .val (.ref b57), .unset] [(.ref b57)]))
    refine Go.step (fun _ k => XS.iconst X57.here hx rfl (hb hby at_22) k) ?_
    show Go FrameEnd p e below s 16 128 (Q0 Z p1 p2 p3 p4 p5 p6 h0 n0) (T57.setTop (mkF m 23 #[.val (.int p1), .val (.int p2), .val (.int p3), .val (.int p4), .val (.int p5), .val (.int p6), .val (.int (4 : Int32)), .val (.ref b57), .unset] [(.int (0 : Int32)), (.ref b57)]))
    refine Go.step (fun _ k => XS.iload X57.here hx rfl (hb hby at_23) rfl k) ?_
    show Go FrameEnd p e below s 16 128 (Q0 Z p1 p2 p3 p4 p5 p6 h0 n0) (T57.setTop (mkF m 25 #[.val (.int p1), .val (.int p2), .val (.int p3), .val (.int p4), .val (.int p5), .val (.int p6), .val (.int (4 : Int32)), .val (.ref b57), .unset] [(.int (4 : Int32)), (.int (0 : Int32)), (.ref b57)]))
    obtain ⟨c58, Ac58, Sc58, Mc58, Gc58⟩ := id V57
    obtain ⟨T59, h59, X59, e59, W59, st59⟩ := stI X57 hx hZ e57 Ac58 (j := (0 : Int32)) (own_in Sc58 (by decide) (by decide)) (g := (mkF m 25 #[.val (.int p1), .val (.int p2), .val (.int p3), .val (.int p4), .val (.int p5), .val (.int p6), .val (.int (4 : Int32)), .val (.ref b57), .unset] [(.int (4 : Int32)), (.int (0 : Int32)), (.ref b57)])) rfl rfl (hb hby at_25)
    refine Go.step st59 ?_
    have N59 := Fr.snoc X59 N0 g_b57
    have Z59 : n0 ≤ h59.size := Nat.le_trans Z57 (Keep.of_wr W59).1
    have V59 : Av Z h59 b57 .int 4 (aset (fun _ => (.int (0 : Int32))) 0 (.int (4 : Int32))) := Av.set Ac58 Sc58 Mc58 Gc58 W59 (by rfl) (own_in Sc58 (by decide) (by decide))
    show Go FrameEnd p e below s 16 128 (Q0 Z p1 p2 p3 p4 p5 p6 h0 n0) (T59.setTop (mkF m 26 #[.val (.int p1), .val (.int p2), .val (.int p3), .val (.int p4), .val (.int p5), .val (.int p6), .val (.int (4 : Int32)), .val (.ref b57), .unset] []))
    refine Go.step (fun _ k => XS.iload X59.here hx rfl (hb hby at_26) rfl k) ?_
    show Go FrameEnd p e below s 16 128 (Q0 Z p1 p2 p3 p4 p5 p6 h0 n0) (T59.setTop (mkF m 28 #[.val (.int p1), .val (.int p2), .val (.int p3), .val (.int p4), .val (.int p5), .val (.int p6), .val (.int (4 : Int32)), .val (.ref b57), .unset] [(.int (4 : Int32))]))
    refine Go.step (fun _ k => XS.iconst X59.here hx rfl (hb hby at_28) k) ?_
    show Go FrameEnd p e below s 16 128 (Q0 Z p1 p2 p3 p4 p5 p6 h0 n0) (T59.setTop (mkF m 29 #[.val (.int p1), .val (.int p2), .val (.int p3), .val (.int p4), .val (.int p5), .val (.int p6), .val (.int (4 : Int32)), .val (.ref b57), .unset] [(.int (1 : Int32)), (.int (4 : Int32))]))
    refine Go.step (fun _ k => XS.icmpNo X59.here hx rfl (hb hby at_29) rfl (tlt (by decide)).2.2.2 k) ?_
    show Go FrameEnd p e below s 16 128 (Q0 Z p1 p2 p3 p4 p5 p6 h0 n0) (T59.setTop (mkF m 32 #[.val (.int p1), .val (.int p2), .val (.int p3), .val (.int p4), .val (.int p5), .val (.int p6), .val (.int (4 : Int32)), .val (.ref b57), .unset] []))
    refine Go.step (fun _ k => XS.aload X59.here hx rfl (hb hby at_32) rfl rfl k) ?_
    show Go FrameEnd p e below s 16 128 (Q0 Z p1 p2 p3 p4 p5 p6 h0 n0) (T59.setTop (mkF m 34 #[.val (.int p1), .val (.int p2), .val (.int p3), .val (.int p4), .val (.int p5), .val (.int p6), .val (.int (4 : Int32)), .val (.ref b57), .unset] [(.ref b57)]))
    refine Go.step (fun _ k => XS.iconst X59.here hx rfl (hb hby at_34) k) ?_
    show Go FrameEnd p e below s 16 128 (Q0 Z p1 p2 p3 p4 p5 p6 h0 n0) (T59.setTop (mkF m 35 #[.val (.int p1), .val (.int p2), .val (.int p3), .val (.int p4), .val (.int p5), .val (.int p6), .val (.int (4 : Int32)), .val (.ref b57), .unset] [(.int (1 : Int32)), (.ref b57)]))
    refine Go.step (fun _ k => XS.iloadN X59.here hx rfl (hb hby at_35) rfl k) ?_
    show Go FrameEnd p e below s 16 128 (Q0 Z p1 p2 p3 p4 p5 p6 h0 n0) (T59.setTop (mkF m 36 #[.val (.int p1), .val (.int p2), .val (.int p3), .val (.int p4), .val (.int p5), .val (.int p6), .val (.int (4 : Int32)), .val (.ref b57), .unset] [(.int p2), (.int (1 : Int32)), (.ref b57)]))
    refine Go.step (X59.ldcInt hx hown (mvT hZ (hw _ (List.mem_of_getElem? (i := 0) rfl))) (g := (mkF m 36 #[.val (.int p1), .val (.int p2), .val (.int p3), .val (.int p4), .val (.int p5), .val (.int p6), .val (.int (4 : Int32)), .val (.ref b57), .unset] [(.int p2), (.int (1 : Int32)), (.ref b57)])) rfl (hb hby at_36)) ?_
    show Go FrameEnd p e below s 16 128 (Q0 Z p1 p2 p3 p4 p5 p6 h0 n0) (T59.setTop (mkF m 38 #[.val (.int p1), .val (.int p2), .val (.int p3), .val (.int p4), .val (.int p5), .val (.int p6), .val (.int (4 : Int32)), .val (.ref b57), .unset] [(.int (2147483647 : Int32)), (.int p2), (.int (1 : Int32)), (.ref b57)]))
    refine Go.step (fun _ k => XS.iand X59.here hx rfl (hb hby at_38) rfl k) ?_
    show Go FrameEnd p e below s 16 128 (Q0 Z p1 p2 p3 p4 p5 p6 h0 n0) (T59.setTop (mkF m 39 #[.val (.int p1), .val (.int p2), .val (.int p3), .val (.int p4), .val (.int p5), .val (.int p6), .val (.int (4 : Int32)), .val (.ref b57), .unset] [(.int (p2 &&& (2147483647 : Int32))), (.int (1 : Int32)), (.ref b57)]))
    refine Go.step (fun _ k => XS.iload X59.here hx rfl (hb hby at_39) rfl k) ?_
    show Go FrameEnd p e below s 16 128 (Q0 Z p1 p2 p3 p4 p5 p6 h0 n0) (T59.setTop (mkF m 41 #[.val (.int p1), .val (.int p2), .val (.int p3), .val (.int p4), .val (.int p5), .val (.int p6), .val (.int (4 : Int32)), .val (.ref b57), .unset] [(.int (4 : Int32)), (.int (p2 &&& (2147483647 : Int32))), (.int (1 : Int32)), (.ref b57)]))
    refine Go.step (fun _ k => XS.iconst X59.here hx rfl (hb hby at_41) k) ?_
    show Go FrameEnd p e below s 16 128 (Q0 Z p1 p2 p3 p4 p5 p6 h0 n0) (T59.setTop (mkF m 42 #[.val (.int p1), .val (.int p2), .val (.int p3), .val (.int p4), .val (.int p5), .val (.int p6), .val (.int (4 : Int32)), .val (.ref b57), .unset] [(.int (1 : Int32)), (.int (4 : Int32)), (.int (p2 &&& (2147483647 : Int32))), (.int (1 : Int32)), (.ref b57)]))
    refine Go.step (fun _ k => XS.isub X59.here hx rfl (hb hby at_42) rfl k) ?_
    show Go FrameEnd p e below s 16 128 (Q0 Z p1 p2 p3 p4 p5 p6 h0 n0) (T59.setTop (mkF m 43 #[.val (.int p1), .val (.int p2), .val (.int p3), .val (.int p4), .val (.int p5), .val (.int p6), .val (.int (4 : Int32)), .val (.ref b57), .unset] [(.int (3 : Int32)), (.int (p2 &&& (2147483647 : Int32))), (.int (1 : Int32)), (.ref b57)]))
    refine Go.step (fun _ k => XS.iconst X59.here hx rfl (hb hby at_43) k) ?_
    show Go FrameEnd p e below s 16 128 (Q0 Z p1 p2 p3 p4 p5 p6 h0 n0) (T59.setTop (mkF m 44 #[.val (.int p1), .val (.int p2), .val (.int p3), .val (.int p4), .val (.int p5), .val (.int p6), .val (.int (4 : Int32)), .val (.ref b57), .unset] [(.int (1 : Int32)), (.int (3 : Int32)), (.int (p2 &&& (2147483647 : Int32))), (.int (1 : Int32)), (.ref b57)]))
    refine Go.step (fun _ k => XS.iadd X59.here hx rfl (hb hby at_44) rfl k) ?_
    show Go FrameEnd p e below s 16 128 (Q0 Z p1 p2 p3 p4 p5 p6 h0 n0) (T59.setTop (mkF m 45 #[.val (.int p1), .val (.int p2), .val (.int p3), .val (.int p4), .val (.int p5), .val (.int p6), .val (.int (4 : Int32)), .val (.ref b57), .unset] [(.int (4 : Int32)), (.int (p2 &&& (2147483647 : Int32))), (.int (1 : Int32)), (.ref b57)]))
    refine Go.step (fun _ k => iremM X59 hx rfl (hb hby at_45) rfl (by decide) k) ?_
    show Go FrameEnd p e below s 16 128 (Q0 Z p1 p2 p3 p4 p5 p6 h0 n0) (T59.setTop (mkF m 46 #[.val (.int p1), .val (.int p2), .val (.int p3), .val (.int p4), .val (.int p5), .val (.int p6), .val (.int (4 : Int32)), .val (.ref b57), .unset] [(.int ((p2 &&& (2147483647 : Int32)) % (4 : Int32))), (.int (1 : Int32)), (.ref b57)]))
    obtain ⟨c60, Ac60, Sc60, Mc60, Gc60⟩ := id V59
    obtain ⟨T61, h61, X61, e61, W61, st61⟩ := stI X59 hx hZ e59 Ac60 (j := (1 : Int32)) (own_in Sc60 (by decide) (by decide)) (g := (mkF m 46 #[.val (.int p1), .val (.int p2), .val (.int p3), .val (.int p4), .val (.int p5), .val (.int p6), .val (.int (4 : Int32)), .val (.ref b57), .unset] [(.int ((p2 &&& (2147483647 : Int32)) % (4 : Int32))), (.int (1 : Int32)), (.ref b57)])) rfl rfl (hb hby at_46)
    refine Go.step st61 ?_
    have N61 := Fr.snoc X61 N59 g_b57
    have Z61 : n0 ≤ h61.size := Nat.le_trans Z59 (Keep.of_wr W61).1
    have V61 : Av Z h61 b57 .int 4 (aset (aset (fun _ => (.int (0 : Int32))) 0 (.int (4 : Int32))) 1 (.int ((p2 &&& (2147483647 : Int32)) % (4 : Int32)))) := Av.set Ac60 Sc60 Mc60 Gc60 W61 (by rfl) (own_in Sc60 (by decide) (by decide))
    show Go FrameEnd p e below s 16 128 (Q0 Z p1 p2 p3 p4 p5 p6 h0 n0) (T61.setTop (mkF m 47 #[.val (.int p1), .val (.int p2), .val (.int p3), .val (.int p4), .val (.int p5), .val (.int p6), .val (.int (4 : Int32)), .val (.ref b57), .unset] []))
    refine Go.step (fun _ k => XS.iload X61.here hx rfl (hb hby at_47) rfl k) ?_
    show Go FrameEnd p e below s 16 128 (Q0 Z p1 p2 p3 p4 p5 p6 h0 n0) (T61.setTop (mkF m 49 #[.val (.int p1), .val (.int p2), .val (.int p3), .val (.int p4), .val (.int p5), .val (.int p6), .val (.int (4 : Int32)), .val (.ref b57), .unset] [(.int (4 : Int32))]))
    refine Go.step (fun _ k => XS.iconst X61.here hx rfl (hb hby at_49) k) ?_
    show Go FrameEnd p e below s 16 128 (Q0 Z p1 p2 p3 p4 p5 p6 h0 n0) (T61.setTop (mkF m 50 #[.val (.int p1), .val (.int p2), .val (.int p3), .val (.int p4), .val (.int p5), .val (.int p6), .val (.int (4 : Int32)), .val (.ref b57), .unset] [(.int (2 : Int32)), (.int (4 : Int32))]))
    refine Go.step (fun _ k => XS.icmpNo X61.here hx rfl (hb hby at_50) rfl (tlt (by decide)).2.2.2 k) ?_
    show Go FrameEnd p e below s 16 128 (Q0 Z p1 p2 p3 p4 p5 p6 h0 n0) (T61.setTop (mkF m 53 #[.val (.int p1), .val (.int p2), .val (.int p3), .val (.int p4), .val (.int p5), .val (.int p6), .val (.int (4 : Int32)), .val (.ref b57), .unset] []))
    refine Go.step (fun _ k => XS.aload X61.here hx rfl (hb hby at_53) rfl rfl k) ?_
    show Go FrameEnd p e below s 16 128 (Q0 Z p1 p2 p3 p4 p5 p6 h0 n0) (T61.setTop (mkF m 55 #[.val (.int p1), .val (.int p2), .val (.int p3), .val (.int p4), .val (.int p5), .val (.int p6), .val (.int (4 : Int32)), .val (.ref b57), .unset] [(.ref b57)]))
    refine Go.step (fun _ k => XS.iconst X61.here hx rfl (hb hby at_55) k) ?_
    show Go FrameEnd p e below s 16 128 (Q0 Z p1 p2 p3 p4 p5 p6 h0 n0) (T61.setTop (mkF m 56 #[.val (.int p1), .val (.int p2), .val (.int p3), .val (.int p4), .val (.int p5), .val (.int p6), .val (.int (4 : Int32)), .val (.ref b57), .unset] [(.int (2 : Int32)), (.ref b57)]))
    refine Go.step (fun _ k => XS.iloadN X61.here hx rfl (hb hby at_56) rfl k) ?_
    show Go FrameEnd p e below s 16 128 (Q0 Z p1 p2 p3 p4 p5 p6 h0 n0) (T61.setTop (mkF m 57 #[.val (.int p1), .val (.int p2), .val (.int p3), .val (.int p4), .val (.int p5), .val (.int p6), .val (.int (4 : Int32)), .val (.ref b57), .unset] [(.int p3), (.int (2 : Int32)), (.ref b57)]))
    refine Go.step (X61.ldcInt hx hown (mvT hZ (hw _ (List.mem_of_getElem? (i := 0) rfl))) (g := (mkF m 57 #[.val (.int p1), .val (.int p2), .val (.int p3), .val (.int p4), .val (.int p5), .val (.int p6), .val (.int (4 : Int32)), .val (.ref b57), .unset] [(.int p3), (.int (2 : Int32)), (.ref b57)])) rfl (hb hby at_57)) ?_
    show Go FrameEnd p e below s 16 128 (Q0 Z p1 p2 p3 p4 p5 p6 h0 n0) (T61.setTop (mkF m 59 #[.val (.int p1), .val (.int p2), .val (.int p3), .val (.int p4), .val (.int p5), .val (.int p6), .val (.int (4 : Int32)), .val (.ref b57), .unset] [(.int (2147483647 : Int32)), (.int p3), (.int (2 : Int32)), (.ref b57)]))
    refine Go.step (fun _ k => XS.iand X61.here hx rfl (hb hby at_59) rfl k) ?_
    show Go FrameEnd p e below s 16 128 (Q0 Z p1 p2 p3 p4 p5 p6 h0 n0) (T61.setTop (mkF m 60 #[.val (.int p1), .val (.int p2), .val (.int p3), .val (.int p4), .val (.int p5), .val (.int p6), .val (.int (4 : Int32)), .val (.ref b57), .unset] [(.int (p3 &&& (2147483647 : Int32))), (.int (2 : Int32)), (.ref b57)]))
    refine Go.step (fun _ k => XS.iload X61.here hx rfl (hb hby at_60) rfl k) ?_
    show Go FrameEnd p e below s 16 128 (Q0 Z p1 p2 p3 p4 p5 p6 h0 n0) (T61.setTop (mkF m 62 #[.val (.int p1), .val (.int p2), .val (.int p3), .val (.int p4), .val (.int p5), .val (.int p6), .val (.int (4 : Int32)), .val (.ref b57), .unset] [(.int (4 : Int32)), (.int (p3 &&& (2147483647 : Int32))), (.int (2 : Int32)), (.ref b57)]))
    refine Go.step (fun _ k => XS.iconst X61.here hx rfl (hb hby at_62) k) ?_
    show Go FrameEnd p e below s 16 128 (Q0 Z p1 p2 p3 p4 p5 p6 h0 n0) (T61.setTop (mkF m 63 #[.val (.int p1), .val (.int p2), .val (.int p3), .val (.int p4), .val (.int p5), .val (.int p6), .val (.int (4 : Int32)), .val (.ref b57), .unset] [(.int (2 : Int32)), (.int (4 : Int32)), (.int (p3 &&& (2147483647 : Int32))), (.int (2 : Int32)), (.ref b57)]))
    refine Go.step (fun _ k => XS.isub X61.here hx rfl (hb hby at_63) rfl k) ?_
    show Go FrameEnd p e below s 16 128 (Q0 Z p1 p2 p3 p4 p5 p6 h0 n0) (T61.setTop (mkF m 64 #[.val (.int p1), .val (.int p2), .val (.int p3), .val (.int p4), .val (.int p5), .val (.int p6), .val (.int (4 : Int32)), .val (.ref b57), .unset] [(.int (2 : Int32)), (.int (p3 &&& (2147483647 : Int32))), (.int (2 : Int32)), (.ref b57)]))
    refine Go.step (fun _ k => XS.iconst X61.here hx rfl (hb hby at_64) k) ?_
    show Go FrameEnd p e below s 16 128 (Q0 Z p1 p2 p3 p4 p5 p6 h0 n0) (T61.setTop (mkF m 65 #[.val (.int p1), .val (.int p2), .val (.int p3), .val (.int p4), .val (.int p5), .val (.int p6), .val (.int (4 : Int32)), .val (.ref b57), .unset] [(.int (1 : Int32)), (.int (2 : Int32)), (.int (p3 &&& (2147483647 : Int32))), (.int (2 : Int32)), (.ref b57)]))
    refine Go.step (fun _ k => XS.iadd X61.here hx rfl (hb hby at_65) rfl k) ?_
    show Go FrameEnd p e below s 16 128 (Q0 Z p1 p2 p3 p4 p5 p6 h0 n0) (T61.setTop (mkF m 66 #[.val (.int p1), .val (.int p2), .val (.int p3), .val (.int p4), .val (.int p5), .val (.int p6), .val (.int (4 : Int32)), .val (.ref b57), .unset] [(.int (3 : Int32)), (.int (p3 &&& (2147483647 : Int32))), (.int (2 : Int32)), (.ref b57)]))
    refine Go.step (fun _ k => iremM X61 hx rfl (hb hby at_66) rfl (by decide) k) ?_
    show Go FrameEnd p e below s 16 128 (Q0 Z p1 p2 p3 p4 p5 p6 h0 n0) (T61.setTop (mkF m 67 #[.val (.int p1), .val (.int p2), .val (.int p3), .val (.int p4), .val (.int p5), .val (.int p6), .val (.int (4 : Int32)), .val (.ref b57), .unset] [(.int ((p3 &&& (2147483647 : Int32)) % (3 : Int32))), (.int (2 : Int32)), (.ref b57)]))
    obtain ⟨c62, Ac62, Sc62, Mc62, Gc62⟩ := id V61
    obtain ⟨T63, h63, X63, e63, W63, st63⟩ := stI X61 hx hZ e61 Ac62 (j := (2 : Int32)) (own_in Sc62 (by decide) (by decide)) (g := (mkF m 67 #[.val (.int p1), .val (.int p2), .val (.int p3), .val (.int p4), .val (.int p5), .val (.int p6), .val (.int (4 : Int32)), .val (.ref b57), .unset] [(.int ((p3 &&& (2147483647 : Int32)) % (3 : Int32))), (.int (2 : Int32)), (.ref b57)])) rfl rfl (hb hby at_67)
    refine Go.step st63 ?_
    have N63 := Fr.snoc X63 N61 g_b57
    have Z63 : n0 ≤ h63.size := Nat.le_trans Z61 (Keep.of_wr W63).1
    have V63 : Av Z h63 b57 .int 4 (aset (aset (aset (fun _ => (.int (0 : Int32))) 0 (.int (4 : Int32))) 1 (.int ((p2 &&& (2147483647 : Int32)) % (4 : Int32)))) 2 (.int ((p3 &&& (2147483647 : Int32)) % (3 : Int32)))) := Av.set Ac62 Sc62 Mc62 Gc62 W63 (by rfl) (own_in Sc62 (by decide) (by decide))
    show Go FrameEnd p e below s 16 128 (Q0 Z p1 p2 p3 p4 p5 p6 h0 n0) (T63.setTop (mkF m 68 #[.val (.int p1), .val (.int p2), .val (.int p3), .val (.int p4), .val (.int p5), .val (.int p6), .val (.int (4 : Int32)), .val (.ref b57), .unset] []))
    refine Go.step (fun _ k => XS.iload X63.here hx rfl (hb hby at_68) rfl k) ?_
    show Go FrameEnd p e below s 16 128 (Q0 Z p1 p2 p3 p4 p5 p6 h0 n0) (T63.setTop (mkF m 70 #[.val (.int p1), .val (.int p2), .val (.int p3), .val (.int p4), .val (.int p5), .val (.int p6), .val (.int (4 : Int32)), .val (.ref b57), .unset] [(.int (4 : Int32))]))
    refine Go.step (fun _ k => XS.iconst X63.here hx rfl (hb hby at_70) k) ?_
    show Go FrameEnd p e below s 16 128 (Q0 Z p1 p2 p3 p4 p5 p6 h0 n0) (T63.setTop (mkF m 71 #[.val (.int p1), .val (.int p2), .val (.int p3), .val (.int p4), .val (.int p5), .val (.int p6), .val (.int (4 : Int32)), .val (.ref b57), .unset] [(.int (3 : Int32)), (.int (4 : Int32))]))
    refine Go.step (fun _ k => XS.icmpNo X63.here hx rfl (hb hby at_71) rfl (tlt (by decide)).2.2.2 k) ?_
    show Go FrameEnd p e below s 16 128 (Q0 Z p1 p2 p3 p4 p5 p6 h0 n0) (T63.setTop (mkF m 74 #[.val (.int p1), .val (.int p2), .val (.int p3), .val (.int p4), .val (.int p5), .val (.int p6), .val (.int (4 : Int32)), .val (.ref b57), .unset] []))
    refine Go.step (fun _ k => XS.aload X63.here hx rfl (hb hby at_74) rfl rfl k) ?_
    show Go FrameEnd p e below s 16 128 (Q0 Z p1 p2 p3 p4 p5 p6 h0 n0) (T63.setTop (mkF m 76 #[.val (.int p1), .val (.int p2), .val (.int p3), .val (.int p4), .val (.int p5), .val (.int p6), .val (.int (4 : Int32)), .val (.ref b57), .unset] [(.ref b57)]))
    refine Go.step (fun _ k => XS.iconst X63.here hx rfl (hb hby at_76) k) ?_
    show Go FrameEnd p e below s 16 128 (Q0 Z p1 p2 p3 p4 p5 p6 h0 n0) (T63.setTop (mkF m 77 #[.val (.int p1), .val (.int p2), .val (.int p3), .val (.int p4), .val (.int p5), .val (.int p6), .val (.int (4 : Int32)), .val (.ref b57), .unset] [(.int (3 : Int32)), (.ref b57)]))
    refine Go.step (fun _ k => XS.iloadN X63.here hx rfl (hb hby at_77) rfl k) ?_
    show Go FrameEnd p e below s 16 128 (Q0 Z p1 p2 p3 p4 p5 p6 h0 n0) (T63.setTop (mkF m 78 #[.val (.int p1), .val (.int p2), .val (.int p3), .val (.int p4), .val (.int p5), .val (.int p6), .val (.int (4 : Int32)), .val (.ref b57), .unset] [(.int p4), (.int (3 : Int32)), (.ref b57)]))
    refine Go.step (X63.ldcInt hx hown (mvT hZ (hw _ (List.mem_of_getElem? (i := 0) rfl))) (g := (mkF m 78 #[.val (.int p1), .val (.int p2), .val (.int p3), .val (.int p4), .val (.int p5), .val (.int p6), .val (.int (4 : Int32)), .val (.ref b57), .unset] [(.int p4), (.int (3 : Int32)), (.ref b57)])) rfl (hb hby at_78)) ?_
    show Go FrameEnd p e below s 16 128 (Q0 Z p1 p2 p3 p4 p5 p6 h0 n0) (T63.setTop (mkF m 80 #[.val (.int p1), .val (.int p2), .val (.int p3), .val (.int p4), .val (.int p5), .val (.int p6), .val (.int (4 : Int32)), .val (.ref b57), .unset] [(.int (2147483647 : Int32)), (.int p4), (.int (3 : Int32)), (.ref b57)]))
    refine Go.step (fun _ k => XS.iand X63.here hx rfl (hb hby at_80) rfl k) ?_
    show Go FrameEnd p e below s 16 128 (Q0 Z p1 p2 p3 p4 p5 p6 h0 n0) (T63.setTop (mkF m 81 #[.val (.int p1), .val (.int p2), .val (.int p3), .val (.int p4), .val (.int p5), .val (.int p6), .val (.int (4 : Int32)), .val (.ref b57), .unset] [(.int (p4 &&& (2147483647 : Int32))), (.int (3 : Int32)), (.ref b57)]))
    refine Go.step (fun _ k => XS.iload X63.here hx rfl (hb hby at_81) rfl k) ?_
    show Go FrameEnd p e below s 16 128 (Q0 Z p1 p2 p3 p4 p5 p6 h0 n0) (T63.setTop (mkF m 83 #[.val (.int p1), .val (.int p2), .val (.int p3), .val (.int p4), .val (.int p5), .val (.int p6), .val (.int (4 : Int32)), .val (.ref b57), .unset] [(.int (4 : Int32)), (.int (p4 &&& (2147483647 : Int32))), (.int (3 : Int32)), (.ref b57)]))
    refine Go.step (fun _ k => XS.iconst X63.here hx rfl (hb hby at_83) k) ?_
    show Go FrameEnd p e below s 16 128 (Q0 Z p1 p2 p3 p4 p5 p6 h0 n0) (T63.setTop (mkF m 84 #[.val (.int p1), .val (.int p2), .val (.int p3), .val (.int p4), .val (.int p5), .val (.int p6), .val (.int (4 : Int32)), .val (.ref b57), .unset] [(.int (3 : Int32)), (.int (4 : Int32)), (.int (p4 &&& (2147483647 : Int32))), (.int (3 : Int32)), (.ref b57)]))
    refine Go.step (fun _ k => XS.isub X63.here hx rfl (hb hby at_84) rfl k) ?_
    show Go FrameEnd p e below s 16 128 (Q0 Z p1 p2 p3 p4 p5 p6 h0 n0) (T63.setTop (mkF m 85 #[.val (.int p1), .val (.int p2), .val (.int p3), .val (.int p4), .val (.int p5), .val (.int p6), .val (.int (4 : Int32)), .val (.ref b57), .unset] [(.int (1 : Int32)), (.int (p4 &&& (2147483647 : Int32))), (.int (3 : Int32)), (.ref b57)]))
    refine Go.step (fun _ k => XS.iconst X63.here hx rfl (hb hby at_85) k) ?_
    show Go FrameEnd p e below s 16 128 (Q0 Z p1 p2 p3 p4 p5 p6 h0 n0) (T63.setTop (mkF m 86 #[.val (.int p1), .val (.int p2), .val (.int p3), .val (.int p4), .val (.int p5), .val (.int p6), .val (.int (4 : Int32)), .val (.ref b57), .unset] [(.int (1 : Int32)), (.int (1 : Int32)), (.int (p4 &&& (2147483647 : Int32))), (.int (3 : Int32)), (.ref b57)]))
    refine Go.step (fun _ k => XS.iadd X63.here hx rfl (hb hby at_86) rfl k) ?_
    show Go FrameEnd p e below s 16 128 (Q0 Z p1 p2 p3 p4 p5 p6 h0 n0) (T63.setTop (mkF m 87 #[.val (.int p1), .val (.int p2), .val (.int p3), .val (.int p4), .val (.int p5), .val (.int p6), .val (.int (4 : Int32)), .val (.ref b57), .unset] [(.int (2 : Int32)), (.int (p4 &&& (2147483647 : Int32))), (.int (3 : Int32)), (.ref b57)]))
    refine Go.step (fun _ k => iremM X63 hx rfl (hb hby at_87) rfl (by decide) k) ?_
    show Go FrameEnd p e below s 16 128 (Q0 Z p1 p2 p3 p4 p5 p6 h0 n0) (T63.setTop (mkF m 88 #[.val (.int p1), .val (.int p2), .val (.int p3), .val (.int p4), .val (.int p5), .val (.int p6), .val (.int (4 : Int32)), .val (.ref b57), .unset] [(.int ((p4 &&& (2147483647 : Int32)) % (2 : Int32))), (.int (3 : Int32)), (.ref b57)]))
    obtain ⟨c64, Ac64, Sc64, Mc64, Gc64⟩ := id V63
    obtain ⟨T65, h65, X65, e65, W65, st65⟩ := stI X63 hx hZ e63 Ac64 (j := (3 : Int32)) (own_in Sc64 (by decide) (by decide)) (g := (mkF m 88 #[.val (.int p1), .val (.int p2), .val (.int p3), .val (.int p4), .val (.int p5), .val (.int p6), .val (.int (4 : Int32)), .val (.ref b57), .unset] [(.int ((p4 &&& (2147483647 : Int32)) % (2 : Int32))), (.int (3 : Int32)), (.ref b57)])) rfl rfl (hb hby at_88)
    refine Go.step st65 ?_
    have N65 := Fr.snoc X65 N63 g_b57
    have Z65 : n0 ≤ h65.size := Nat.le_trans Z63 (Keep.of_wr W65).1
    have V65 : Av Z h65 b57 .int 4 (aset (aset (aset (aset (fun _ => (.int (0 : Int32))) 0 (.int (4 : Int32))) 1 (.int ((p2 &&& (2147483647 : Int32)) % (4 : Int32)))) 2 (.int ((p3 &&& (2147483647 : Int32)) % (3 : Int32)))) 3 (.int ((p4 &&& (2147483647 : Int32)) % (2 : Int32)))) := Av.set Ac64 Sc64 Mc64 Gc64 W65 (by rfl) (own_in Sc64 (by decide) (by decide))
    show Go FrameEnd p e below s 16 128 (Q0 Z p1 p2 p3 p4 p5 p6 h0 n0) (T65.setTop (mkF m 89 #[.val (.int p1), .val (.int p2), .val (.int p3), .val (.int p4), .val (.int p5), .val (.int p6), .val (.int (4 : Int32)), .val (.ref b57), .unset] []))
    refine Go.step (fun _ k => XS.iload X65.here hx rfl (hb hby at_89) rfl k) ?_
    show Go FrameEnd p e below s 16 128 (Q0 Z p1 p2 p3 p4 p5 p6 h0 n0) (T65.setTop (mkF m 91 #[.val (.int p1), .val (.int p2), .val (.int p3), .val (.int p4), .val (.int p5), .val (.int p6), .val (.int (4 : Int32)), .val (.ref b57), .unset] [(.int (4 : Int32))]))
    refine Go.step (fun _ k => XS.iconst X65.here hx rfl (hb hby at_91) k) ?_
    show Go FrameEnd p e below s 16 128 (Q0 Z p1 p2 p3 p4 p5 p6 h0 n0) (T65.setTop (mkF m 92 #[.val (.int p1), .val (.int p2), .val (.int p3), .val (.int p4), .val (.int p5), .val (.int p6), .val (.int (4 : Int32)), .val (.ref b57), .unset] [(.int (4 : Int32)), (.int (4 : Int32))]))
    refine Go.step (fun _ k => XS.icmpYes X65.here hx rfl (pc0 := 92) (pc' := 111) rfl (hb hby at_92) rfl (flt (by decide)).2.2.2 (by decide) (by decide) k) ?_
    show Go FrameEnd p e below s 16 128 (Q0 Z p1 p2 p3 p4 p5 p6 h0 n0) (T65.setTop (mkF m 111 #[.val (.int p1), .val (.int p2), .val (.int p3), .val (.int p4), .val (.int p5), .val (.int p6), .val (.int (4 : Int32)), .val (.ref b57), .unset] []))
    refine Go.step (fun _ k => XS.iload X65.here hx rfl (hb hby at_111) rfl k) ?_
    show Go FrameEnd p e below s 16 128 (Q0 Z p1 p2 p3 p4 p5 p6 h0 n0) (T65.setTop (mkF m 113 #[.val (.int p1), .val (.int p2), .val (.int p3), .val (.int p4), .val (.int p5), .val (.int p6), .val (.int (4 : Int32)), .val (.ref b57), .unset] [(.int (4 : Int32))]))
    refine Go.step (fun _ k => XS.iconst X65.here hx rfl (hb hby at_113) k) ?_
    show Go FrameEnd p e below s 16 128 (Q0 Z p1 p2 p3 p4 p5 p6 h0 n0) (T65.setTop (mkF m 114 #[.val (.int p1), .val (.int p2), .val (.int p3), .val (.int p4), .val (.int p5), .val (.int p6), .val (.int (4 : Int32)), .val (.ref b57), .unset] [(.int (5 : Int32)), (.int (4 : Int32))]))
    refine Go.step (fun _ k => XS.icmpYes X65.here hx rfl (pc0 := 114) (pc' := 133) rfl (hb hby at_114) rfl (flt (by decide)).2.2.2 (by decide) (by decide) k) ?_
    show Go FrameEnd p e below s 16 128 (Q0 Z p1 p2 p3 p4 p5 p6 h0 n0) (T65.setTop (mkF m 133 #[.val (.int p1), .val (.int p2), .val (.int p3), .val (.int p4), .val (.int p5), .val (.int p6), .val (.int (4 : Int32)), .val (.ref b57), .unset] []))
    have x1 := own_rem p2 (4 : Int32) (by decide)
    rw [show ((4 : Int32)).toInt = 4 from by decide] at x1
    have x2 := own_rem p3 (3 : Int32) (by decide)
    rw [show ((3 : Int32)).toInt = 3 from by decide] at x2
    have x3 := own_rem p4 (2 : Int32) (by decide)
    rw [show ((2 : Int32)).toInt = 2 from by decide] at x3
    have Vz : Av Z h65 b57 .int 4 (fun j => .int (Int32.ofNat ((zsel 4 ((p2 &&& (2147483647 : Int32)) % (4 : Int32)) ((p3 &&& (2147483647 : Int32)) % (3 : Int32)) ((p4 &&& (2147483647 : Int32)) % (2 : Int32)) (0 : Int32) (0 : Int32)) j))) := (V65).eq (fun j hj => by
      rcases (by omega : j = 0 ∨ j = 1 ∨ j = 2 ∨ j = 3) with rfl | rfl | rfl | rfl
      · rfl
      · exact congrArg Value.int (own_back x1.1).symm
      · exact congrArg Value.int (own_back x2.1).symm
      · exact congrArg Value.int (own_back x3.1).symm)
    have hz : ∀ j, 1 ≤ j → j < 4 → j + (zsel 4 ((p2 &&& (2147483647 : Int32)) % (4 : Int32)) ((p3 &&& (2147483647 : Int32)) % (3 : Int32)) ((p4 &&& (2147483647 : Int32)) % (2 : Int32)) (0 : Int32) (0 : Int32)) j ≤ 4 := fun j h1 h2 => by
      rcases (by omega : j = 1 ∨ j = 2 ∨ j = 3) with rfl | rfl | rfl
      · show 1 + (((p2 &&& (2147483647 : Int32)) % (4 : Int32))).toInt.toNat ≤ 4; omega
      · show 2 + (((p3 &&& (2147483647 : Int32)) % (3 : Int32))).toInt.toNat ≤ 4; omega
      · show 3 + (((p4 &&& (2147483647 : Int32)) % (2 : Int32))).toInt.toNat ≤ 4; omega
    refine Go.step (fun _ k => XS.aload X65.here hx rfl (hb hby at_133) rfl rfl k) ?_
    show Go FrameEnd p e below s 16 128 (Q0 Z p1 p2 p3 p4 p5 p6 h0 n0) (T65.setTop (mkF m 135 #[.val (.int p1), .val (.int p2), .val (.int p3), .val (.int p4), .val (.int p5), .val (.int p6), .val (.int (4 : Int32)), .val (.ref b57), .unset] [(.ref b57)]))
    obtain ⟨_, _, ⟨T66, L66, k66, n66⟩, -, X66, ⟨Lc66, hQ66, l66, y66, z66⟩, st66⟩ := Jvm.LawKit.callS X65 hx (y := (⟨"example/zedbox/Periods", "ofEachPrefix", "([I)[I"⟩ : MethodName)) hown (mvT hZ (hw _ (List.mem_of_getElem? (i := 2) rfl))) (mvT hZ (hw _ (List.mem_of_getElem? (i := 3) rfl))) (mvT hZ (hw _ (List.mem_of_getElem? (i := 4) rfl))) (mvT hZ (hw _ (List.mem_of_getElem? (i := 5) rfl))) (by decide) (backOf (W := 0) (rm3 l Z a0 hw [] b57 (zsel 4 ((p2 &&& (2147483647 : Int32)) % (4 : Int32)) ((p3 &&& (2147483647 : Int32)) % (3 : Int32)) ((p4 &&& (2147483647 : Int32)) % (2 : Int32)) (0 : Int32) (0 : Int32)) 4 h65 n0 Z65 Vz (by decide) hz) hZ (hw _ (List.mem_of_getElem? (i := 5) rfl)) (hw _ (List.mem_of_getElem? (i := 4) rfl)) (by decide) (by decide)) (g := (mkF m 135 #[.val (.int p1), .val (.int p2), .val (.int p3), .val (.int p4), .val (.int p5), .val (.int p6), .val (.int (4 : Int32)), .val (.ref b57), .unset] [(.ref b57)])) rfl (by rw [hml]; rfl) (argsL := [(.ref b57)]) (rest := []) (lenOf pd___I__I rfl) rfl (by show 2 * 0 + _ ≤ _; exact Nat.le_of_eq rfl) (hb hby at_135) (fun _ _ => ⟨rfl, e65, (by decide : 1 + 1 ≤ _), (by decide : 4 + 7 ≤ _)⟩)
    dsimp only [Pt.U, Pt.locs, Pt.cells, Pt.slots] at X66 l66 y66 z66 st66 hQ66
    subst l66 y66 z66
    obtain ⟨b66a, rfl, N66q, szb66a, K66_0, xA66_1⟩ := hQ66
    have N66 := Fr.app N65 N66q
    have ne_b57_b66a : b57 ≠ b66a := Nat.ne_of_lt (Nat.lt_of_lt_of_le Vz.lt szb66a)
    have g_b66a : n0 ≤ b66a := Nat.le_trans Z65 szb66a
    have Z66 : n0 ≤ T66.heap.size := Nat.le_trans Z65 K66_0.1
    refine Go.step st66 ?_
    show Go FrameEnd p e below s 16 128 (Q0 Z p1 p2 p3 p4 p5 p6 h0 n0) (T66.setTop (mkF m 138 #[.val (.int p1), .val (.int p2), .val (.int p3), .val (.int p4), .val (.int p5), .val (.int p6), .val (.int (4 : Int32)), .val (.ref b57), .unset] [(.ref b66a)]))
    refine Go.step (fun _ k => XS.astore X66.here hx rfl (hb hby at_138) rfl rfl (l' := #[.val (.int p1), .val (.int p2), .val (.int p3), .val (.int p4), .val (.int p5), .val (.int p6), .val (.int (4 : Int32)), .val (.ref b57), .val (.ref b66a)]) rfl k) ?_
    show Go FrameEnd p e below s 16 128 (Q0 Z p1 p2 p3 p4 p5 p6 h0 n0) (T66.setTop (mkF m 140 #[.val (.int p1), .val (.int p2), .val (.int p3), .val (.int p4), .val (.int p5), .val (.int p6), .val (.int (4 : Int32)), .val (.ref b57), .val (.ref b66a)] []))
    refine Go.step (fun _ k => XS.aload X66.here hx rfl (hb hby at_140) rfl rfl k) ?_
    show Go FrameEnd p e below s 16 128 (Q0 Z p1 p2 p3 p4 p5 p6 h0 n0) (T66.setTop (mkF m 142 #[.val (.int p1), .val (.int p2), .val (.int p3), .val (.int p4), .val (.int p5), .val (.int p6), .val (.int (4 : Int32)), .val (.ref b57), .val (.ref b66a)] [(.ref b66a)]))
    refine Go.step (fun _ k => XS.ifnullNo X66.here hx rfl (hb hby at_142) rfl k) ?_
    show Go FrameEnd p e below s 16 128 (Q0 Z p1 p2 p3 p4 p5 p6 h0 n0) (T66.setTop (mkF m 145 #[.val (.int p1), .val (.int p2), .val (.int p3), .val (.int p4), .val (.int p5), .val (.int p6), .val (.int (4 : Int32)), .val (.ref b57), .val (.ref b66a)] []))
    refine Go.step (fun _ k => XS.aload X66.here hx rfl (hb hby at_145) rfl rfl k) ?_
    show Go FrameEnd p e below s 16 128 (Q0 Z p1 p2 p3 p4 p5 p6 h0 n0) (T66.setTop (mkF m 147 #[.val (.int p1), .val (.int p2), .val (.int p3), .val (.int p4), .val (.int p5), .val (.int p6), .val (.int (4 : Int32)), .val (.ref b57), .val (.ref b66a)] [(.ref b66a)]))
    obtain ⟨c67, Ac67, Sc67, Mc67, Gc67⟩ := id xA66_1
    refine Go.step (X66.arraylength hx Ac67.1 (State.isArrayOf_alike hZ.alike Ac67.2.1) (g := (mkF m 147 #[.val (.int p1), .val (.int p2), .val (.int p3), .val (.int p4), .val (.int p5), .val (.int p6), .val (.int (4 : Int32)), .val (.ref b57), .val (.ref b66a)] [(.ref b66a)])) rfl rfl (hb hby at_147)) ?_
    rw [show c67.slots.size.toInt32 = (5 : Int32) from congrArg Nat.toInt32 Sc67]
    show Go FrameEnd p e below s 16 128 (Q0 Z p1 p2 p3 p4 p5 p6 h0 n0) (T66.setTop (mkF m 148 #[.val (.int p1), .val (.int p2), .val (.int p3), .val (.int p4), .val (.int p5), .val (.int p6), .val (.int (4 : Int32)), .val (.ref b57), .val (.ref b66a)] [(.int (5 : Int32))]))
    refine Go.step (fun _ k => XS.iload X66.here hx rfl (hb hby at_148) rfl k) ?_
    show Go FrameEnd p e below s 16 128 (Q0 Z p1 p2 p3 p4 p5 p6 h0 n0) (T66.setTop (mkF m 150 #[.val (.int p1), .val (.int p2), .val (.int p3), .val (.int p4), .val (.int p5), .val (.int p6), .val (.int (4 : Int32)), .val (.ref b57), .val (.ref b66a)] [(.int (4 : Int32)), (.int (5 : Int32))]))
    refine Go.step (fun _ k => XS.iconst X66.here hx rfl (hb hby at_150) k) ?_
    show Go FrameEnd p e below s 16 128 (Q0 Z p1 p2 p3 p4 p5 p6 h0 n0) (T66.setTop (mkF m 151 #[.val (.int p1), .val (.int p2), .val (.int p3), .val (.int p4), .val (.int p5), .val (.int p6), .val (.int (4 : Int32)), .val (.ref b57), .val (.ref b66a)] [(.int (1 : Int32)), (.int (4 : Int32)), (.int (5 : Int32))]))
    refine Go.step (fun _ k => XS.iadd X66.here hx rfl (hb hby at_151) rfl k) ?_
    show Go FrameEnd p e below s 16 128 (Q0 Z p1 p2 p3 p4 p5 p6 h0 n0) (T66.setTop (mkF m 152 #[.val (.int p1), .val (.int p2), .val (.int p3), .val (.int p4), .val (.int p5), .val (.int p6), .val (.int (4 : Int32)), .val (.ref b57), .val (.ref b66a)] [(.int (5 : Int32)), (.int (5 : Int32))]))
    refine Go.step (fun _ k => XS.icmpYes X66.here hx rfl (pc0 := 152) (pc' := 157) rfl (hb hby at_152) rfl (teq rfl).1 (by decide) (by decide) k) ?_
    show Go FrameEnd p e below s 16 128 (Q0 Z p1 p2 p3 p4 p5 p6 h0 n0) (T66.setTop (mkF m 157 #[.val (.int p1), .val (.int p2), .val (.int p3), .val (.int p4), .val (.int p5), .val (.int p6), .val (.int (4 : Int32)), .val (.ref b57), .val (.ref b66a)] []))
    refine Go.step (fun _ k => XS.aload X66.here hx rfl (hb hby at_157) rfl rfl k) ?_
    show Go FrameEnd p e below s 16 128 (Q0 Z p1 p2 p3 p4 p5 p6 h0 n0) (T66.setTop (mkF m 159 #[.val (.int p1), .val (.int p2), .val (.int p3), .val (.int p4), .val (.int p5), .val (.int p6), .val (.int (4 : Int32)), .val (.ref b57), .val (.ref b66a)] [(.ref b66a)]))
    refine Go.step (fun _ k => XS.aload X66.here hx rfl (hb hby at_159) rfl rfl k) ?_
    show Go FrameEnd p e below s 16 128 (Q0 Z p1 p2 p3 p4 p5 p6 h0 n0) (T66.setTop (mkF m 161 #[.val (.int p1), .val (.int p2), .val (.int p3), .val (.int p4), .val (.int p5), .val (.int p6), .val (.int (4 : Int32)), .val (.ref b57), .val (.ref b66a)] [(.ref b57), (.ref b66a)]))
    refine Go.step (fun _ k => XS.iconst X66.here hx rfl (hb hby at_161) k) ?_
    show Go FrameEnd p e below s 16 128 (Q0 Z p1 p2 p3 p4 p5 p6 h0 n0) (T66.setTop (mkF m 162 #[.val (.int p1), .val (.int p2), .val (.int p3), .val (.int p4), .val (.int p5), .val (.int p6), .val (.int (4 : Int32)), .val (.ref b57), .val (.ref b66a)] [(.int (0 : Int32)), (.ref b57), (.ref b66a)]))
    have f_68 := (Vz.keep K66_0 nin0)
    obtain ⟨_, _, ⟨T69, L69, k69, n69⟩, -, X69, ⟨Lc69, hQ69, l69, y69, z69⟩, st69⟩ := Jvm.LawKit.callS X66 hx (y := (⟨"example/zedbox/PeriodsOfEachPrefixPinLaw", "ok", "([I[II)Z"⟩ : MethodName)) hown (mvT hZ (hw _ (List.mem_of_getElem? (i := 6) rfl))) (mvT hZ (hw _ (List.mem_of_getElem? (i := 7) rfl))) (mvT hZ (hw _ (List.mem_of_getElem? (i := 8) rfl))) (mvT hZ (hw _ (List.mem_of_getElem? (i := 9) rfl))) (by decide) (backOf (W := 0) (rm2 l Z a0 hw [] b66a b57 (zsel 4 ((p2 &&& (2147483647 : Int32)) % (4 : Int32)) ((p3 &&& (2147483647 : Int32)) % (3 : Int32)) ((p4 &&& (2147483647 : Int32)) % (2 : Int32)) (0 : Int32) (0 : Int32)) 0 4 T66.heap f_68 xA66_1 (by decide) hz) hZ (hw _ (List.mem_of_getElem? (i := 9) rfl)) (hw _ (List.mem_of_getElem? (i := 8) rfl)) (by decide) (by decide)) (g := (mkF m 162 #[.val (.int p1), .val (.int p2), .val (.int p3), .val (.int p4), .val (.int p5), .val (.int p6), .val (.int (4 : Int32)), .val (.ref b57), .val (.ref b66a)] [(.int (0 : Int32)), (.ref b57), (.ref b66a)])) rfl (by rw [hml]; rfl) (argsL := [(.ref b66a), (.ref b57), (.int (0 : Int32))]) (rest := []) (lenOf pd___I_II_Z rfl) rfl (by show 2 * 0 + _ ≤ _; exact Nat.le_of_eq rfl) (hb hby at_162) (fun _ _ => ⟨rfl, rfl, (by decide : 2 + 0 ≤ _), (by decide : 11 + 0 ≤ _)⟩)
    dsimp only [Pt.U, Pt.locs, Pt.cells, Pt.slots] at X69 l69 y69 z69 st69 hQ69
    subst l69 y69 z69
    obtain ⟨rfl, rfl, e69⟩ := hQ69
    have N69 := Fr.app N66 (Fr.nil n0)
    refine Go.step st69 ?_
    show Go FrameEnd p e below s 16 128 (Q0 Z p1 p2 p3 p4 p5 p6 h0 n0) (T69.setTop (mkF m 165 #[.val (.int p1), .val (.int p2), .val (.int p3), .val (.int p4), .val (.int p5), .val (.int p6), .val (.int (4 : Int32)), .val (.ref b57), .val (.ref b66a)] [(.int (1 : Int32))]))
    refine Go.step (fun _ k => XS.ifNo X69.here hx rfl (hb hby at_165) rfl ((if0 _ _).trans (feq (by decide)).1) k) ?_
    show Go FrameEnd p e below s 16 128 (Q0 Z p1 p2 p3 p4 p5 p6 h0 n0) (T69.setTop (mkF m 168 #[.val (.int p1), .val (.int p2), .val (.int p3), .val (.int p4), .val (.int p5), .val (.int p6), .val (.int (4 : Int32)), .val (.ref b57), .val (.ref b66a)] []))
    refine Go.step (fun _ k => XS.aload X69.here hx rfl (hb hby at_168) rfl rfl k) ?_
    show Go FrameEnd p e below s 16 128 (Q0 Z p1 p2 p3 p4 p5 p6 h0 n0) (T69.setTop (mkF m 170 #[.val (.int p1), .val (.int p2), .val (.int p3), .val (.int p4), .val (.int p5), .val (.int p6), .val (.int (4 : Int32)), .val (.ref b57), .val (.ref b66a)] [(.ref b66a)]))
    refine Go.step (fun _ k => XS.aload X69.here hx rfl (hb hby at_170) rfl rfl k) ?_
    show Go FrameEnd p e below s 16 128 (Q0 Z p1 p2 p3 p4 p5 p6 h0 n0) (T69.setTop (mkF m 172 #[.val (.int p1), .val (.int p2), .val (.int p3), .val (.int p4), .val (.int p5), .val (.int p6), .val (.int (4 : Int32)), .val (.ref b57), .val (.ref b66a)] [(.ref b57), (.ref b66a)]))
    refine Go.step (fun _ k => XS.iconst X69.here hx rfl (hb hby at_172) k) ?_
    show Go FrameEnd p e below s 16 128 (Q0 Z p1 p2 p3 p4 p5 p6 h0 n0) (T69.setTop (mkF m 173 #[.val (.int p1), .val (.int p2), .val (.int p3), .val (.int p4), .val (.int p5), .val (.int p6), .val (.int (4 : Int32)), .val (.ref b57), .val (.ref b66a)] [(.int (1 : Int32)), (.ref b57), (.ref b66a)]))
    obtain ⟨_, _, ⟨T70, L70, k70, n70⟩, -, X70, ⟨Lc70, hQ70, l70, y70, z70⟩, st70⟩ := Jvm.LawKit.callS X69 hx (y := (⟨"example/zedbox/PeriodsOfEachPrefixPinLaw", "ok", "([I[II)Z"⟩ : MethodName)) hown (mvT hZ (hw _ (List.mem_of_getElem? (i := 6) rfl))) (mvT hZ (hw _ (List.mem_of_getElem? (i := 7) rfl))) (mvT hZ (hw _ (List.mem_of_getElem? (i := 8) rfl))) (mvT hZ (hw _ (List.mem_of_getElem? (i := 9) rfl))) (by decide) (backOf (W := 0) (rm2 l Z a0 hw [] b66a b57 (zsel 4 ((p2 &&& (2147483647 : Int32)) % (4 : Int32)) ((p3 &&& (2147483647 : Int32)) % (3 : Int32)) ((p4 &&& (2147483647 : Int32)) % (2 : Int32)) (0 : Int32) (0 : Int32)) 1 4 T66.heap f_68 xA66_1 (by decide) hz) hZ (hw _ (List.mem_of_getElem? (i := 9) rfl)) (hw _ (List.mem_of_getElem? (i := 8) rfl)) (by decide) (by decide)) (g := (mkF m 173 #[.val (.int p1), .val (.int p2), .val (.int p3), .val (.int p4), .val (.int p5), .val (.int p6), .val (.int (4 : Int32)), .val (.ref b57), .val (.ref b66a)] [(.int (1 : Int32)), (.ref b57), (.ref b66a)])) rfl (by rw [hml]; rfl) (argsL := [(.ref b66a), (.ref b57), (.int (1 : Int32))]) (rest := []) (lenOf pd___I_II_Z rfl) rfl (by show 2 * 0 + _ ≤ _; exact Nat.le_of_eq rfl) (hb hby at_173) (fun _ _ => ⟨rfl, e69, (by decide : 2 + 0 ≤ _), (by decide : 11 + 0 ≤ _)⟩)
    dsimp only [Pt.U, Pt.locs, Pt.cells, Pt.slots] at X70 l70 y70 z70 st70 hQ70
    subst l70 y70 z70
    obtain ⟨rfl, rfl, e70⟩ := hQ70
    have N70 := Fr.app N69 (Fr.nil n0)
    refine Go.step st70 ?_
    show Go FrameEnd p e below s 16 128 (Q0 Z p1 p2 p3 p4 p5 p6 h0 n0) (T70.setTop (mkF m 176 #[.val (.int p1), .val (.int p2), .val (.int p3), .val (.int p4), .val (.int p5), .val (.int p6), .val (.int (4 : Int32)), .val (.ref b57), .val (.ref b66a)] [(.int (1 : Int32))]))
    refine Go.step (fun _ k => XS.ifNo X70.here hx rfl (hb hby at_176) rfl ((if0 _ _).trans (feq (by decide)).1) k) ?_
    show Go FrameEnd p e below s 16 128 (Q0 Z p1 p2 p3 p4 p5 p6 h0 n0) (T70.setTop (mkF m 179 #[.val (.int p1), .val (.int p2), .val (.int p3), .val (.int p4), .val (.int p5), .val (.int p6), .val (.int (4 : Int32)), .val (.ref b57), .val (.ref b66a)] []))
    refine Go.step (fun _ k => XS.aload X70.here hx rfl (hb hby at_179) rfl rfl k) ?_
    show Go FrameEnd p e below s 16 128 (Q0 Z p1 p2 p3 p4 p5 p6 h0 n0) (T70.setTop (mkF m 181 #[.val (.int p1), .val (.int p2), .val (.int p3), .val (.int p4), .val (.int p5), .val (.int p6), .val (.int (4 : Int32)), .val (.ref b57), .val (.ref b66a)] [(.ref b66a)]))
    refine Go.step (fun _ k => XS.aload X70.here hx rfl (hb hby at_181) rfl rfl k) ?_
    show Go FrameEnd p e below s 16 128 (Q0 Z p1 p2 p3 p4 p5 p6 h0 n0) (T70.setTop (mkF m 183 #[.val (.int p1), .val (.int p2), .val (.int p3), .val (.int p4), .val (.int p5), .val (.int p6), .val (.int (4 : Int32)), .val (.ref b57), .val (.ref b66a)] [(.ref b57), (.ref b66a)]))
    refine Go.step (fun _ k => XS.iconst X70.here hx rfl (hb hby at_183) k) ?_
    show Go FrameEnd p e below s 16 128 (Q0 Z p1 p2 p3 p4 p5 p6 h0 n0) (T70.setTop (mkF m 184 #[.val (.int p1), .val (.int p2), .val (.int p3), .val (.int p4), .val (.int p5), .val (.int p6), .val (.int (4 : Int32)), .val (.ref b57), .val (.ref b66a)] [(.int (2 : Int32)), (.ref b57), (.ref b66a)]))
    obtain ⟨_, _, ⟨T71, L71, k71, n71⟩, -, X71, ⟨Lc71, hQ71, l71, y71, z71⟩, st71⟩ := Jvm.LawKit.callS X70 hx (y := (⟨"example/zedbox/PeriodsOfEachPrefixPinLaw", "ok", "([I[II)Z"⟩ : MethodName)) hown (mvT hZ (hw _ (List.mem_of_getElem? (i := 6) rfl))) (mvT hZ (hw _ (List.mem_of_getElem? (i := 7) rfl))) (mvT hZ (hw _ (List.mem_of_getElem? (i := 8) rfl))) (mvT hZ (hw _ (List.mem_of_getElem? (i := 9) rfl))) (by decide) (backOf (W := 0) (rm2 l Z a0 hw [] b66a b57 (zsel 4 ((p2 &&& (2147483647 : Int32)) % (4 : Int32)) ((p3 &&& (2147483647 : Int32)) % (3 : Int32)) ((p4 &&& (2147483647 : Int32)) % (2 : Int32)) (0 : Int32) (0 : Int32)) 2 4 T66.heap f_68 xA66_1 (by decide) hz) hZ (hw _ (List.mem_of_getElem? (i := 9) rfl)) (hw _ (List.mem_of_getElem? (i := 8) rfl)) (by decide) (by decide)) (g := (mkF m 184 #[.val (.int p1), .val (.int p2), .val (.int p3), .val (.int p4), .val (.int p5), .val (.int p6), .val (.int (4 : Int32)), .val (.ref b57), .val (.ref b66a)] [(.int (2 : Int32)), (.ref b57), (.ref b66a)])) rfl (by rw [hml]; rfl) (argsL := [(.ref b66a), (.ref b57), (.int (2 : Int32))]) (rest := []) (lenOf pd___I_II_Z rfl) rfl (by show 2 * 0 + _ ≤ _; exact Nat.le_of_eq rfl) (hb hby at_184) (fun _ _ => ⟨rfl, e70, (by decide : 2 + 0 ≤ _), (by decide : 11 + 0 ≤ _)⟩)
    dsimp only [Pt.U, Pt.locs, Pt.cells, Pt.slots] at X71 l71 y71 z71 st71 hQ71
    subst l71 y71 z71
    obtain ⟨rfl, rfl, e71⟩ := hQ71
    have N71 := Fr.app N70 (Fr.nil n0)
    refine Go.step st71 ?_
    show Go FrameEnd p e below s 16 128 (Q0 Z p1 p2 p3 p4 p5 p6 h0 n0) (T71.setTop (mkF m 187 #[.val (.int p1), .val (.int p2), .val (.int p3), .val (.int p4), .val (.int p5), .val (.int p6), .val (.int (4 : Int32)), .val (.ref b57), .val (.ref b66a)] [(.int (1 : Int32))]))
    refine Go.step (fun _ k => XS.ifNo X71.here hx rfl (hb hby at_187) rfl ((if0 _ _).trans (feq (by decide)).1) k) ?_
    show Go FrameEnd p e below s 16 128 (Q0 Z p1 p2 p3 p4 p5 p6 h0 n0) (T71.setTop (mkF m 190 #[.val (.int p1), .val (.int p2), .val (.int p3), .val (.int p4), .val (.int p5), .val (.int p6), .val (.int (4 : Int32)), .val (.ref b57), .val (.ref b66a)] []))
    refine Go.step (fun _ k => XS.aload X71.here hx rfl (hb hby at_190) rfl rfl k) ?_
    show Go FrameEnd p e below s 16 128 (Q0 Z p1 p2 p3 p4 p5 p6 h0 n0) (T71.setTop (mkF m 192 #[.val (.int p1), .val (.int p2), .val (.int p3), .val (.int p4), .val (.int p5), .val (.int p6), .val (.int (4 : Int32)), .val (.ref b57), .val (.ref b66a)] [(.ref b66a)]))
    refine Go.step (fun _ k => XS.aload X71.here hx rfl (hb hby at_192) rfl rfl k) ?_
    show Go FrameEnd p e below s 16 128 (Q0 Z p1 p2 p3 p4 p5 p6 h0 n0) (T71.setTop (mkF m 194 #[.val (.int p1), .val (.int p2), .val (.int p3), .val (.int p4), .val (.int p5), .val (.int p6), .val (.int (4 : Int32)), .val (.ref b57), .val (.ref b66a)] [(.ref b57), (.ref b66a)]))
    refine Go.step (fun _ k => XS.iconst X71.here hx rfl (hb hby at_194) k) ?_
    show Go FrameEnd p e below s 16 128 (Q0 Z p1 p2 p3 p4 p5 p6 h0 n0) (T71.setTop (mkF m 195 #[.val (.int p1), .val (.int p2), .val (.int p3), .val (.int p4), .val (.int p5), .val (.int p6), .val (.int (4 : Int32)), .val (.ref b57), .val (.ref b66a)] [(.int (3 : Int32)), (.ref b57), (.ref b66a)]))
    obtain ⟨_, _, ⟨T72, L72, k72, n72⟩, -, X72, ⟨Lc72, hQ72, l72, y72, z72⟩, st72⟩ := Jvm.LawKit.callS X71 hx (y := (⟨"example/zedbox/PeriodsOfEachPrefixPinLaw", "ok", "([I[II)Z"⟩ : MethodName)) hown (mvT hZ (hw _ (List.mem_of_getElem? (i := 6) rfl))) (mvT hZ (hw _ (List.mem_of_getElem? (i := 7) rfl))) (mvT hZ (hw _ (List.mem_of_getElem? (i := 8) rfl))) (mvT hZ (hw _ (List.mem_of_getElem? (i := 9) rfl))) (by decide) (backOf (W := 0) (rm2 l Z a0 hw [] b66a b57 (zsel 4 ((p2 &&& (2147483647 : Int32)) % (4 : Int32)) ((p3 &&& (2147483647 : Int32)) % (3 : Int32)) ((p4 &&& (2147483647 : Int32)) % (2 : Int32)) (0 : Int32) (0 : Int32)) 3 4 T66.heap f_68 xA66_1 (by decide) hz) hZ (hw _ (List.mem_of_getElem? (i := 9) rfl)) (hw _ (List.mem_of_getElem? (i := 8) rfl)) (by decide) (by decide)) (g := (mkF m 195 #[.val (.int p1), .val (.int p2), .val (.int p3), .val (.int p4), .val (.int p5), .val (.int p6), .val (.int (4 : Int32)), .val (.ref b57), .val (.ref b66a)] [(.int (3 : Int32)), (.ref b57), (.ref b66a)])) rfl (by rw [hml]; rfl) (argsL := [(.ref b66a), (.ref b57), (.int (3 : Int32))]) (rest := []) (lenOf pd___I_II_Z rfl) rfl (by show 2 * 0 + _ ≤ _; exact Nat.le_of_eq rfl) (hb hby at_195) (fun _ _ => ⟨rfl, e71, (by decide : 2 + 0 ≤ _), (by decide : 11 + 0 ≤ _)⟩)
    dsimp only [Pt.U, Pt.locs, Pt.cells, Pt.slots] at X72 l72 y72 z72 st72 hQ72
    subst l72 y72 z72
    obtain ⟨rfl, rfl, e72⟩ := hQ72
    have N72 := Fr.app N71 (Fr.nil n0)
    refine Go.step st72 ?_
    show Go FrameEnd p e below s 16 128 (Q0 Z p1 p2 p3 p4 p5 p6 h0 n0) (T72.setTop (mkF m 198 #[.val (.int p1), .val (.int p2), .val (.int p3), .val (.int p4), .val (.int p5), .val (.int p6), .val (.int (4 : Int32)), .val (.ref b57), .val (.ref b66a)] [(.int (1 : Int32))]))
    refine Go.step (fun _ k => XS.ifNo X72.here hx rfl (hb hby at_198) rfl ((if0 _ _).trans (feq (by decide)).1) k) ?_
    show Go FrameEnd p e below s 16 128 (Q0 Z p1 p2 p3 p4 p5 p6 h0 n0) (T72.setTop (mkF m 201 #[.val (.int p1), .val (.int p2), .val (.int p3), .val (.int p4), .val (.int p5), .val (.int p6), .val (.int (4 : Int32)), .val (.ref b57), .val (.ref b66a)] []))
    refine Go.step (fun _ k => XS.aload X72.here hx rfl (hb hby at_201) rfl rfl k) ?_
    show Go FrameEnd p e below s 16 128 (Q0 Z p1 p2 p3 p4 p5 p6 h0 n0) (T72.setTop (mkF m 203 #[.val (.int p1), .val (.int p2), .val (.int p3), .val (.int p4), .val (.int p5), .val (.int p6), .val (.int (4 : Int32)), .val (.ref b57), .val (.ref b66a)] [(.ref b66a)]))
    refine Go.step (fun _ k => XS.aload X72.here hx rfl (hb hby at_203) rfl rfl k) ?_
    show Go FrameEnd p e below s 16 128 (Q0 Z p1 p2 p3 p4 p5 p6 h0 n0) (T72.setTop (mkF m 205 #[.val (.int p1), .val (.int p2), .val (.int p3), .val (.int p4), .val (.int p5), .val (.int p6), .val (.int (4 : Int32)), .val (.ref b57), .val (.ref b66a)] [(.ref b57), (.ref b66a)]))
    refine Go.step (fun _ k => XS.iconst X72.here hx rfl (hb hby at_205) k) ?_
    show Go FrameEnd p e below s 16 128 (Q0 Z p1 p2 p3 p4 p5 p6 h0 n0) (T72.setTop (mkF m 206 #[.val (.int p1), .val (.int p2), .val (.int p3), .val (.int p4), .val (.int p5), .val (.int p6), .val (.int (4 : Int32)), .val (.ref b57), .val (.ref b66a)] [(.int (4 : Int32)), (.ref b57), (.ref b66a)]))
    obtain ⟨_, _, ⟨T73, L73, k73, n73⟩, -, X73, ⟨Lc73, hQ73, l73, y73, z73⟩, st73⟩ := Jvm.LawKit.callS X72 hx (y := (⟨"example/zedbox/PeriodsOfEachPrefixPinLaw", "ok", "([I[II)Z"⟩ : MethodName)) hown (mvT hZ (hw _ (List.mem_of_getElem? (i := 6) rfl))) (mvT hZ (hw _ (List.mem_of_getElem? (i := 7) rfl))) (mvT hZ (hw _ (List.mem_of_getElem? (i := 8) rfl))) (mvT hZ (hw _ (List.mem_of_getElem? (i := 9) rfl))) (by decide) (backOf (W := 0) (rm2 l Z a0 hw [] b66a b57 (zsel 4 ((p2 &&& (2147483647 : Int32)) % (4 : Int32)) ((p3 &&& (2147483647 : Int32)) % (3 : Int32)) ((p4 &&& (2147483647 : Int32)) % (2 : Int32)) (0 : Int32) (0 : Int32)) 4 4 T66.heap f_68 xA66_1 (by decide) hz) hZ (hw _ (List.mem_of_getElem? (i := 9) rfl)) (hw _ (List.mem_of_getElem? (i := 8) rfl)) (by decide) (by decide)) (g := (mkF m 206 #[.val (.int p1), .val (.int p2), .val (.int p3), .val (.int p4), .val (.int p5), .val (.int p6), .val (.int (4 : Int32)), .val (.ref b57), .val (.ref b66a)] [(.int (4 : Int32)), (.ref b57), (.ref b66a)])) rfl (by rw [hml]; rfl) (argsL := [(.ref b66a), (.ref b57), (.int (4 : Int32))]) (rest := []) (lenOf pd___I_II_Z rfl) rfl (by show 2 * 0 + _ ≤ _; exact Nat.le_of_eq rfl) (hb hby at_206) (fun _ _ => ⟨rfl, e72, (by decide : 2 + 0 ≤ _), (by decide : 11 + 0 ≤ _)⟩)
    dsimp only [Pt.U, Pt.locs, Pt.cells, Pt.slots] at X73 l73 y73 z73 st73 hQ73
    subst l73 y73 z73
    obtain ⟨rfl, rfl, e73⟩ := hQ73
    have N73 := Fr.app N72 (Fr.nil n0)
    refine Go.step st73 ?_
    show Go FrameEnd p e below s 16 128 (Q0 Z p1 p2 p3 p4 p5 p6 h0 n0) (T73.setTop (mkF m 209 #[.val (.int p1), .val (.int p2), .val (.int p3), .val (.int p4), .val (.int p5), .val (.int p6), .val (.int (4 : Int32)), .val (.ref b57), .val (.ref b66a)] [(.int (1 : Int32))]))
    refine Go.step (fun _ k => XS.ifNo X73.here hx rfl (hb hby at_209) rfl ((if0 _ _).trans (feq (by decide)).1) k) ?_
    show Go FrameEnd p e below s 16 128 (Q0 Z p1 p2 p3 p4 p5 p6 h0 n0) (T73.setTop (mkF m 212 #[.val (.int p1), .val (.int p2), .val (.int p3), .val (.int p4), .val (.int p5), .val (.int p6), .val (.int (4 : Int32)), .val (.ref b57), .val (.ref b66a)] []))
    refine Go.step (fun _ k => XS.aload X73.here hx rfl (hb hby at_212) rfl rfl k) ?_
    show Go FrameEnd p e below s 16 128 (Q0 Z p1 p2 p3 p4 p5 p6 h0 n0) (T73.setTop (mkF m 214 #[.val (.int p1), .val (.int p2), .val (.int p3), .val (.int p4), .val (.int p5), .val (.int p6), .val (.int (4 : Int32)), .val (.ref b57), .val (.ref b66a)] [(.ref b66a)]))
    refine Go.step (fun _ k => XS.aload X73.here hx rfl (hb hby at_214) rfl rfl k) ?_
    show Go FrameEnd p e below s 16 128 (Q0 Z p1 p2 p3 p4 p5 p6 h0 n0) (T73.setTop (mkF m 216 #[.val (.int p1), .val (.int p2), .val (.int p3), .val (.int p4), .val (.int p5), .val (.int p6), .val (.int (4 : Int32)), .val (.ref b57), .val (.ref b66a)] [(.ref b57), (.ref b66a)]))
    refine Go.step (fun _ k => XS.iconst X73.here hx rfl (hb hby at_216) k) ?_
    show Go FrameEnd p e below s 16 128 (Q0 Z p1 p2 p3 p4 p5 p6 h0 n0) (T73.setTop (mkF m 217 #[.val (.int p1), .val (.int p2), .val (.int p3), .val (.int p4), .val (.int p5), .val (.int p6), .val (.int (4 : Int32)), .val (.ref b57), .val (.ref b66a)] [(.int (5 : Int32)), (.ref b57), (.ref b66a)]))
    obtain ⟨_, _, ⟨T74, L74, k74, n74⟩, -, X74, ⟨Lc74, hQ74, l74, y74, z74⟩, st74⟩ := Jvm.LawKit.callS X73 hx (y := (⟨"example/zedbox/PeriodsOfEachPrefixPinLaw", "ok", "([I[II)Z"⟩ : MethodName)) hown (mvT hZ (hw _ (List.mem_of_getElem? (i := 6) rfl))) (mvT hZ (hw _ (List.mem_of_getElem? (i := 7) rfl))) (mvT hZ (hw _ (List.mem_of_getElem? (i := 8) rfl))) (mvT hZ (hw _ (List.mem_of_getElem? (i := 9) rfl))) (by decide) (backOf (W := 0) (rm2 l Z a0 hw [] b66a b57 (zsel 4 ((p2 &&& (2147483647 : Int32)) % (4 : Int32)) ((p3 &&& (2147483647 : Int32)) % (3 : Int32)) ((p4 &&& (2147483647 : Int32)) % (2 : Int32)) (0 : Int32) (0 : Int32)) 5 4 T66.heap f_68 xA66_1 (by decide) hz) hZ (hw _ (List.mem_of_getElem? (i := 9) rfl)) (hw _ (List.mem_of_getElem? (i := 8) rfl)) (by decide) (by decide)) (g := (mkF m 217 #[.val (.int p1), .val (.int p2), .val (.int p3), .val (.int p4), .val (.int p5), .val (.int p6), .val (.int (4 : Int32)), .val (.ref b57), .val (.ref b66a)] [(.int (5 : Int32)), (.ref b57), (.ref b66a)])) rfl (by rw [hml]; rfl) (argsL := [(.ref b66a), (.ref b57), (.int (5 : Int32))]) (rest := []) (lenOf pd___I_II_Z rfl) rfl (by show 2 * 0 + _ ≤ _; exact Nat.le_of_eq rfl) (hb hby at_217) (fun _ _ => ⟨rfl, e73, (by decide : 2 + 0 ≤ _), (by decide : 11 + 0 ≤ _)⟩)
    dsimp only [Pt.U, Pt.locs, Pt.cells, Pt.slots] at X74 l74 y74 z74 st74 hQ74
    subst l74 y74 z74
    obtain ⟨rfl, rfl, e74⟩ := hQ74
    have N74 := Fr.app N73 (Fr.nil n0)
    refine Go.step st74 ?_
    show Go FrameEnd p e below s 16 128 (Q0 Z p1 p2 p3 p4 p5 p6 h0 n0) (T74.setTop (mkF m 220 #[.val (.int p1), .val (.int p2), .val (.int p3), .val (.int p4), .val (.int p5), .val (.int p6), .val (.int (4 : Int32)), .val (.ref b57), .val (.ref b66a)] [(.int (1 : Int32))]))
    refine Go.step (fun _ k => XS.ifNo X74.here hx rfl (hb hby at_220) rfl ((if0 _ _).trans (feq (by decide)).1) k) ?_
    show Go FrameEnd p e below s 16 128 (Q0 Z p1 p2 p3 p4 p5 p6 h0 n0) (T74.setTop (mkF m 223 #[.val (.int p1), .val (.int p2), .val (.int p3), .val (.int p4), .val (.int p5), .val (.int p6), .val (.int (4 : Int32)), .val (.ref b57), .val (.ref b66a)] []))
    refine Go.step (fun _ k => XS.aload X74.here hx rfl (hb hby at_223) rfl rfl k) ?_
    show Go FrameEnd p e below s 16 128 (Q0 Z p1 p2 p3 p4 p5 p6 h0 n0) (T74.setTop (mkF m 225 #[.val (.int p1), .val (.int p2), .val (.int p3), .val (.int p4), .val (.int p5), .val (.int p6), .val (.int (4 : Int32)), .val (.ref b57), .val (.ref b66a)] [(.ref b66a)]))
    refine Go.step (fun _ k => XS.aload X74.here hx rfl (hb hby at_225) rfl rfl k) ?_
    show Go FrameEnd p e below s 16 128 (Q0 Z p1 p2 p3 p4 p5 p6 h0 n0) (T74.setTop (mkF m 227 #[.val (.int p1), .val (.int p2), .val (.int p3), .val (.int p4), .val (.int p5), .val (.int p6), .val (.int (4 : Int32)), .val (.ref b57), .val (.ref b66a)] [(.ref b57), (.ref b66a)]))
    refine Go.step (fun _ k => XS.bipush X74.here hx rfl (hb hby at_227) k) ?_
    show Go FrameEnd p e below s 16 128 (Q0 Z p1 p2 p3 p4 p5 p6 h0 n0) (T74.setTop (mkF m 229 #[.val (.int p1), .val (.int p2), .val (.int p3), .val (.int p4), .val (.int p5), .val (.int p6), .val (.int (4 : Int32)), .val (.ref b57), .val (.ref b66a)] [(.int (6 : Int32)), (.ref b57), (.ref b66a)]))
    obtain ⟨_, _, ⟨T75, L75, k75, n75⟩, -, X75, ⟨Lc75, hQ75, l75, y75, z75⟩, st75⟩ := Jvm.LawKit.callS X74 hx (y := (⟨"example/zedbox/PeriodsOfEachPrefixPinLaw", "ok", "([I[II)Z"⟩ : MethodName)) hown (mvT hZ (hw _ (List.mem_of_getElem? (i := 6) rfl))) (mvT hZ (hw _ (List.mem_of_getElem? (i := 7) rfl))) (mvT hZ (hw _ (List.mem_of_getElem? (i := 8) rfl))) (mvT hZ (hw _ (List.mem_of_getElem? (i := 9) rfl))) (by decide) (backOf (W := 0) (rm2 l Z a0 hw [] b66a b57 (zsel 4 ((p2 &&& (2147483647 : Int32)) % (4 : Int32)) ((p3 &&& (2147483647 : Int32)) % (3 : Int32)) ((p4 &&& (2147483647 : Int32)) % (2 : Int32)) (0 : Int32) (0 : Int32)) 6 4 T66.heap f_68 xA66_1 (by decide) hz) hZ (hw _ (List.mem_of_getElem? (i := 9) rfl)) (hw _ (List.mem_of_getElem? (i := 8) rfl)) (by decide) (by decide)) (g := (mkF m 229 #[.val (.int p1), .val (.int p2), .val (.int p3), .val (.int p4), .val (.int p5), .val (.int p6), .val (.int (4 : Int32)), .val (.ref b57), .val (.ref b66a)] [(.int (6 : Int32)), (.ref b57), (.ref b66a)])) rfl (by rw [hml]; rfl) (argsL := [(.ref b66a), (.ref b57), (.int (6 : Int32))]) (rest := []) (lenOf pd___I_II_Z rfl) rfl (by show 2 * 0 + _ ≤ _; exact Nat.le_of_eq rfl) (hb hby at_229) (fun _ _ => ⟨rfl, e74, (by decide : 2 + 0 ≤ _), (by decide : 11 + 0 ≤ _)⟩)
    dsimp only [Pt.U, Pt.locs, Pt.cells, Pt.slots] at X75 l75 y75 z75 st75 hQ75
    subst l75 y75 z75
    obtain ⟨rfl, rfl, e75⟩ := hQ75
    have N75 := Fr.app N74 (Fr.nil n0)
    refine Go.step st75 ?_
    show Go FrameEnd p e below s 16 128 (Q0 Z p1 p2 p3 p4 p5 p6 h0 n0) (T75.setTop (mkF m 232 #[.val (.int p1), .val (.int p2), .val (.int p3), .val (.int p4), .val (.int p5), .val (.int p6), .val (.int (4 : Int32)), .val (.ref b57), .val (.ref b66a)] [(.int (1 : Int32))]))
    refine Go.step (fun _ k => XS.ifNo X75.here hx rfl (hb hby at_232) rfl ((if0 _ _).trans (feq (by decide)).1) k) ?_
    show Go FrameEnd p e below s 16 128 (Q0 Z p1 p2 p3 p4 p5 p6 h0 n0) (T75.setTop (mkF m 235 #[.val (.int p1), .val (.int p2), .val (.int p3), .val (.int p4), .val (.int p5), .val (.int p6), .val (.int (4 : Int32)), .val (.ref b57), .val (.ref b66a)] []))
    refine Go.step (fun _ k => XS.iconst X75.here hx rfl (hb hby at_235) k) ?_
    show Go FrameEnd p e below s 16 128 (Q0 Z p1 p2 p3 p4 p5 p6 h0 n0) (T75.setTop (mkF m 236 #[.val (.int p1), .val (.int p2), .val (.int p3), .val (.int p4), .val (.int p5), .val (.int p6), .val (.int (4 : Int32)), .val (.ref b57), .val (.ref b66a)] [(.int (1 : Int32))]))
    refine Go.step (fun _ k => XS.goto X75.here hx rfl (pc0 := 236) (pc' := 240) rfl (hb hby at_236) (by decide) (by decide) k) ?_
    show Go FrameEnd p e below s 16 128 (Q0 Z p1 p2 p3 p4 p5 p6 h0 n0) (T75.setTop (mkF m 240 #[.val (.int p1), .val (.int p2), .val (.int p3), .val (.int p4), .val (.int p5), .val (.int p6), .val (.int (4 : Int32)), .val (.ref b57), .val (.ref b66a)] [(.int (1 : Int32))]))
    refine Go.retN X75 hx (t := .boolean) Bd.returns (by simp) (by decide) (hb hby at_240) (BodyLoose.notSynchronized Bd) e75 (by decide) (by decide) ?_
    exact ⟨rfl, N75⟩
  · skip
    rw [q]
    show Go FrameEnd p e below s 16 128 (Q0 Z p1 p2 p3 p4 p5 p6 h0 n0) (s₁.setTop (mkF m 7 #[.val (.int p1), .val (.int p2), .val (.int p3), .val (.int p4), .val (.int p5), .val (.int p6), .unset, .unset, .unset] [(.int (5 : Int32))]))
    refine Go.step (fun _ k => XS.istore X0.here hx rfl (hb hby at_7) rfl (l' := #[.val (.int p1), .val (.int p2), .val (.int p3), .val (.int p4), .val (.int p5), .val (.int p6), .val (.int (5 : Int32)), .unset, .unset]) rfl k) ?_
    show Go FrameEnd p e below s 16 128 (Q0 Z p1 p2 p3 p4 p5 p6 h0 n0) (s₁.setTop (mkF m 9 #[.val (.int p1), .val (.int p2), .val (.int p3), .val (.int p4), .val (.int p5), .val (.int p6), .val (.int (5 : Int32)), .unset, .unset] []))
    refine Go.step (fun _ k => XS.iload X0.here hx rfl (hb hby at_9) rfl k) ?_
    show Go FrameEnd p e below s 16 128 (Q0 Z p1 p2 p3 p4 p5 p6 h0 n0) (s₁.setTop (mkF m 11 #[.val (.int p1), .val (.int p2), .val (.int p3), .val (.int p4), .val (.int p5), .val (.int p6), .val (.int (5 : Int32)), .unset, .unset] [(.int (5 : Int32))]))
    obtain ⟨T76, h76, k76, X76, e76, E76, A76, st76⟩ := newP X0 hx hZ (hw _ (List.mem_of_getElem? (i := 1) rfl)) e0 (g := (mkF m 11 #[.val (.int p1), .val (.int p2), .val (.int p3), .val (.int p4), .val (.int p5), .val (.int p6), .val (.int (5 : Int32)), .unset, .unset] [(.int (5 : Int32))])) rfl (hb hby at_11) rfl (by decide) (cap := 5) (by decide) (by decide) (by decide) (by decide)
    refine Go.step st76 ?_
    obtain ⟨b76, g76⟩ : ∃ z, z = h0.size := ⟨_, rfl⟩
    rw [← g76] at A76 ⊢
    have g_b76 : n0 ≤ b76 := Nat.le_trans Z0 (Nat.le_of_eq g76.symm)
    have Z76 : n0 ≤ h76.size := Nat.le_trans Z0 E76.1
    have V76 : Av Z h76 b76 .int 5 (fun _ => (.int (0 : Int32))) := Av.new A76 (by decide) rfl
    show Go FrameEnd p e below s 16 128 (Q0 Z p1 p2 p3 p4 p5 p6 h0 n0) (T76.setTop (mkF m 13 #[.val (.int p1), .val (.int p2), .val (.int p3), .val (.int p4), .val (.int p5), .val (.int p6), .val (.int (5 : Int32)), .unset, .unset] [(.ref b76)]))
    refine Go.step (fun _ k => XS.astore X76.here hx rfl (hb hby at_13) rfl rfl (l' := #[.val (.int p1), .val (.int p2), .val (.int p3), .val (.int p4), .val (.int p5), .val (.int p6), .val (.int (5 : Int32)), .val (.ref b76), .unset]) rfl k) ?_
    show Go FrameEnd p e below s 16 128 (Q0 Z p1 p2 p3 p4 p5 p6 h0 n0) (T76.setTop (mkF m 15 #[.val (.int p1), .val (.int p2), .val (.int p3), .val (.int p4), .val (.int p5), .val (.int p6), .val (.int (5 : Int32)), .val (.ref b76), .unset] []))
    refine Go.step (fun _ k => XS.iload X76.here hx rfl (hb hby at_15) rfl k) ?_
    show Go FrameEnd p e below s 16 128 (Q0 Z p1 p2 p3 p4 p5 p6 h0 n0) (T76.setTop (mkF m 17 #[.val (.int p1), .val (.int p2), .val (.int p3), .val (.int p4), .val (.int p5), .val (.int p6), .val (.int (5 : Int32)), .val (.ref b76), .unset] [(.int (5 : Int32))]))
    refine Go.step (fun _ k => XS.ifNo X76.here hx rfl (hb hby at_17) rfl ((if0 _ _).trans (tlt (by decide)).2.2.2) k) ?_
    show Go FrameEnd p e below s 16 128 (Q0 Z p1 p2 p3 p4 p5 p6 h0 n0) (T76.setTop (mkF m 20 #[.val (.int p1), .val (.int p2), .val (.int p3), .val (.int p4), .val (.int p5), .val (.int p6), .val (.int (5 : Int32)), .val (.ref b76), .unset] []))
    refine Go.step (fun _ k => XS.aload X76.here hx rfl (hb hby at_20) rfl rfl k) ?_
    show Go FrameEnd p e below s 16 128 (Q0 Z p1 p2 p3 p4 p5 p6 h0 n0) (T76.setTop (mkF m 22 #[.val (.int p1), .val (.int p2), .val (.int p3), .val (.int p4), .val (.int p5), .val (.int p6), .val (.int (5 : Int32)), .val (.ref b76), .unset] [(.ref b76)]))
    refine Go.step (fun _ k => XS.iconst X76.here hx rfl (hb hby at_22) k) ?_
    show Go FrameEnd p e below s 16 128 (Q0 Z p1 p2 p3 p4 p5 p6 h0 n0) (T76.setTop (mkF m 23 #[.val (.int p1), .val (.int p2), .val (.int p3), .val (.int p4), .val (.int p5), .val (.int p6), .val (.int (5 : Int32)), .val (.ref b76), .unset] [(.int (0 : Int32)), (.ref b76)]))
    refine Go.step (fun _ k => XS.iload X76.here hx rfl (hb hby at_23) rfl k) ?_
    show Go FrameEnd p e below s 16 128 (Q0 Z p1 p2 p3 p4 p5 p6 h0 n0) (T76.setTop (mkF m 25 #[.val (.int p1), .val (.int p2), .val (.int p3), .val (.int p4), .val (.int p5), .val (.int p6), .val (.int (5 : Int32)), .val (.ref b76), .unset] [(.int (5 : Int32)), (.int (0 : Int32)), (.ref b76)]))
    obtain ⟨c77, Ac77, Sc77, Mc77, Gc77⟩ := id V76
    obtain ⟨T78, h78, X78, e78, W78, st78⟩ := stI X76 hx hZ e76 Ac77 (j := (0 : Int32)) (own_in Sc77 (by decide) (by decide)) (g := (mkF m 25 #[.val (.int p1), .val (.int p2), .val (.int p3), .val (.int p4), .val (.int p5), .val (.int p6), .val (.int (5 : Int32)), .val (.ref b76), .unset] [(.int (5 : Int32)), (.int (0 : Int32)), (.ref b76)])) rfl rfl (hb hby at_25)
    refine Go.step st78 ?_
    have N78 := Fr.snoc X78 N0 g_b76
    have Z78 : n0 ≤ h78.size := Nat.le_trans Z76 (Keep.of_wr W78).1
    have V78 : Av Z h78 b76 .int 5 (aset (fun _ => (.int (0 : Int32))) 0 (.int (5 : Int32))) := Av.set Ac77 Sc77 Mc77 Gc77 W78 (by rfl) (own_in Sc77 (by decide) (by decide))
    show Go FrameEnd p e below s 16 128 (Q0 Z p1 p2 p3 p4 p5 p6 h0 n0) (T78.setTop (mkF m 26 #[.val (.int p1), .val (.int p2), .val (.int p3), .val (.int p4), .val (.int p5), .val (.int p6), .val (.int (5 : Int32)), .val (.ref b76), .unset] []))
    refine Go.step (fun _ k => XS.iload X78.here hx rfl (hb hby at_26) rfl k) ?_
    show Go FrameEnd p e below s 16 128 (Q0 Z p1 p2 p3 p4 p5 p6 h0 n0) (T78.setTop (mkF m 28 #[.val (.int p1), .val (.int p2), .val (.int p3), .val (.int p4), .val (.int p5), .val (.int p6), .val (.int (5 : Int32)), .val (.ref b76), .unset] [(.int (5 : Int32))]))
    refine Go.step (fun _ k => XS.iconst X78.here hx rfl (hb hby at_28) k) ?_
    show Go FrameEnd p e below s 16 128 (Q0 Z p1 p2 p3 p4 p5 p6 h0 n0) (T78.setTop (mkF m 29 #[.val (.int p1), .val (.int p2), .val (.int p3), .val (.int p4), .val (.int p5), .val (.int p6), .val (.int (5 : Int32)), .val (.ref b76), .unset] [(.int (1 : Int32)), (.int (5 : Int32))]))
    refine Go.step (fun _ k => XS.icmpNo X78.here hx rfl (hb hby at_29) rfl (tlt (by decide)).2.2.2 k) ?_
    show Go FrameEnd p e below s 16 128 (Q0 Z p1 p2 p3 p4 p5 p6 h0 n0) (T78.setTop (mkF m 32 #[.val (.int p1), .val (.int p2), .val (.int p3), .val (.int p4), .val (.int p5), .val (.int p6), .val (.int (5 : Int32)), .val (.ref b76), .unset] []))
    refine Go.step (fun _ k => XS.aload X78.here hx rfl (hb hby at_32) rfl rfl k) ?_
    show Go FrameEnd p e below s 16 128 (Q0 Z p1 p2 p3 p4 p5 p6 h0 n0) (T78.setTop (mkF m 34 #[.val (.int p1), .val (.int p2), .val (.int p3), .val (.int p4), .val (.int p5), .val (.int p6), .val (.int (5 : Int32)), .val (.ref b76), .unset] [(.ref b76)]))
    refine Go.step (fun _ k => XS.iconst X78.here hx rfl (hb hby at_34) k) ?_
    show Go FrameEnd p e below s 16 128 (Q0 Z p1 p2 p3 p4 p5 p6 h0 n0) (T78.setTop (mkF m 35 #[.val (.int p1), .val (.int p2), .val (.int p3), .val (.int p4), .val (.int p5), .val (.int p6), .val (.int (5 : Int32)), .val (.ref b76), .unset] [(.int (1 : Int32)), (.ref b76)]))
    refine Go.step (fun _ k => XS.iloadN X78.here hx rfl (hb hby at_35) rfl k) ?_
    show Go FrameEnd p e below s 16 128 (Q0 Z p1 p2 p3 p4 p5 p6 h0 n0) (T78.setTop (mkF m 36 #[.val (.int p1), .val (.int p2), .val (.int p3), .val (.int p4), .val (.int p5), .val (.int p6), .val (.int (5 : Int32)), .val (.ref b76), .unset] [(.int p2), (.int (1 : Int32)), (.ref b76)]))
    refine Go.step (X78.ldcInt hx hown (mvT hZ (hw _ (List.mem_of_getElem? (i := 0) rfl))) (g := (mkF m 36 #[.val (.int p1), .val (.int p2), .val (.int p3), .val (.int p4), .val (.int p5), .val (.int p6), .val (.int (5 : Int32)), .val (.ref b76), .unset] [(.int p2), (.int (1 : Int32)), (.ref b76)])) rfl (hb hby at_36)) ?_
    show Go FrameEnd p e below s 16 128 (Q0 Z p1 p2 p3 p4 p5 p6 h0 n0) (T78.setTop (mkF m 38 #[.val (.int p1), .val (.int p2), .val (.int p3), .val (.int p4), .val (.int p5), .val (.int p6), .val (.int (5 : Int32)), .val (.ref b76), .unset] [(.int (2147483647 : Int32)), (.int p2), (.int (1 : Int32)), (.ref b76)]))
    refine Go.step (fun _ k => XS.iand X78.here hx rfl (hb hby at_38) rfl k) ?_
    show Go FrameEnd p e below s 16 128 (Q0 Z p1 p2 p3 p4 p5 p6 h0 n0) (T78.setTop (mkF m 39 #[.val (.int p1), .val (.int p2), .val (.int p3), .val (.int p4), .val (.int p5), .val (.int p6), .val (.int (5 : Int32)), .val (.ref b76), .unset] [(.int (p2 &&& (2147483647 : Int32))), (.int (1 : Int32)), (.ref b76)]))
    refine Go.step (fun _ k => XS.iload X78.here hx rfl (hb hby at_39) rfl k) ?_
    show Go FrameEnd p e below s 16 128 (Q0 Z p1 p2 p3 p4 p5 p6 h0 n0) (T78.setTop (mkF m 41 #[.val (.int p1), .val (.int p2), .val (.int p3), .val (.int p4), .val (.int p5), .val (.int p6), .val (.int (5 : Int32)), .val (.ref b76), .unset] [(.int (5 : Int32)), (.int (p2 &&& (2147483647 : Int32))), (.int (1 : Int32)), (.ref b76)]))
    refine Go.step (fun _ k => XS.iconst X78.here hx rfl (hb hby at_41) k) ?_
    show Go FrameEnd p e below s 16 128 (Q0 Z p1 p2 p3 p4 p5 p6 h0 n0) (T78.setTop (mkF m 42 #[.val (.int p1), .val (.int p2), .val (.int p3), .val (.int p4), .val (.int p5), .val (.int p6), .val (.int (5 : Int32)), .val (.ref b76), .unset] [(.int (1 : Int32)), (.int (5 : Int32)), (.int (p2 &&& (2147483647 : Int32))), (.int (1 : Int32)), (.ref b76)]))
    refine Go.step (fun _ k => XS.isub X78.here hx rfl (hb hby at_42) rfl k) ?_
    show Go FrameEnd p e below s 16 128 (Q0 Z p1 p2 p3 p4 p5 p6 h0 n0) (T78.setTop (mkF m 43 #[.val (.int p1), .val (.int p2), .val (.int p3), .val (.int p4), .val (.int p5), .val (.int p6), .val (.int (5 : Int32)), .val (.ref b76), .unset] [(.int (4 : Int32)), (.int (p2 &&& (2147483647 : Int32))), (.int (1 : Int32)), (.ref b76)]))
    refine Go.step (fun _ k => XS.iconst X78.here hx rfl (hb hby at_43) k) ?_
    show Go FrameEnd p e below s 16 128 (Q0 Z p1 p2 p3 p4 p5 p6 h0 n0) (T78.setTop (mkF m 44 #[.val (.int p1), .val (.int p2), .val (.int p3), .val (.int p4), .val (.int p5), .val (.int p6), .val (.int (5 : Int32)), .val (.ref b76), .unset] [(.int (1 : Int32)), (.int (4 : Int32)), (.int (p2 &&& (2147483647 : Int32))), (.int (1 : Int32)), (.ref b76)]))
    refine Go.step (fun _ k => XS.iadd X78.here hx rfl (hb hby at_44) rfl k) ?_
    show Go FrameEnd p e below s 16 128 (Q0 Z p1 p2 p3 p4 p5 p6 h0 n0) (T78.setTop (mkF m 45 #[.val (.int p1), .val (.int p2), .val (.int p3), .val (.int p4), .val (.int p5), .val (.int p6), .val (.int (5 : Int32)), .val (.ref b76), .unset] [(.int (5 : Int32)), (.int (p2 &&& (2147483647 : Int32))), (.int (1 : Int32)), (.ref b76)]))
    refine Go.step (fun _ k => iremM X78 hx rfl (hb hby at_45) rfl (by decide) k) ?_
    show Go FrameEnd p e below s 16 128 (Q0 Z p1 p2 p3 p4 p5 p6 h0 n0) (T78.setTop (mkF m 46 #[.val (.int p1), .val (.int p2), .val (.int p3), .val (.int p4), .val (.int p5), .val (.int p6), .val (.int (5 : Int32)), .val (.ref b76), .unset] [(.int ((p2 &&& (2147483647 : Int32)) % (5 : Int32))), (.int (1 : Int32)), (.ref b76)]))
    obtain ⟨c79, Ac79, Sc79, Mc79, Gc79⟩ := id V78
    obtain ⟨T80, h80, X80, e80, W80, st80⟩ := stI X78 hx hZ e78 Ac79 (j := (1 : Int32)) (own_in Sc79 (by decide) (by decide)) (g := (mkF m 46 #[.val (.int p1), .val (.int p2), .val (.int p3), .val (.int p4), .val (.int p5), .val (.int p6), .val (.int (5 : Int32)), .val (.ref b76), .unset] [(.int ((p2 &&& (2147483647 : Int32)) % (5 : Int32))), (.int (1 : Int32)), (.ref b76)])) rfl rfl (hb hby at_46)
    refine Go.step st80 ?_
    have N80 := Fr.snoc X80 N78 g_b76
    have Z80 : n0 ≤ h80.size := Nat.le_trans Z78 (Keep.of_wr W80).1
    have V80 : Av Z h80 b76 .int 5 (aset (aset (fun _ => (.int (0 : Int32))) 0 (.int (5 : Int32))) 1 (.int ((p2 &&& (2147483647 : Int32)) % (5 : Int32)))) := Av.set Ac79 Sc79 Mc79 Gc79 W80 (by rfl) (own_in Sc79 (by decide) (by decide))
    show Go FrameEnd p e below s 16 128 (Q0 Z p1 p2 p3 p4 p5 p6 h0 n0) (T80.setTop (mkF m 47 #[.val (.int p1), .val (.int p2), .val (.int p3), .val (.int p4), .val (.int p5), .val (.int p6), .val (.int (5 : Int32)), .val (.ref b76), .unset] []))
    refine Go.step (fun _ k => XS.iload X80.here hx rfl (hb hby at_47) rfl k) ?_
    show Go FrameEnd p e below s 16 128 (Q0 Z p1 p2 p3 p4 p5 p6 h0 n0) (T80.setTop (mkF m 49 #[.val (.int p1), .val (.int p2), .val (.int p3), .val (.int p4), .val (.int p5), .val (.int p6), .val (.int (5 : Int32)), .val (.ref b76), .unset] [(.int (5 : Int32))]))
    refine Go.step (fun _ k => XS.iconst X80.here hx rfl (hb hby at_49) k) ?_
    show Go FrameEnd p e below s 16 128 (Q0 Z p1 p2 p3 p4 p5 p6 h0 n0) (T80.setTop (mkF m 50 #[.val (.int p1), .val (.int p2), .val (.int p3), .val (.int p4), .val (.int p5), .val (.int p6), .val (.int (5 : Int32)), .val (.ref b76), .unset] [(.int (2 : Int32)), (.int (5 : Int32))]))
    refine Go.step (fun _ k => XS.icmpNo X80.here hx rfl (hb hby at_50) rfl (tlt (by decide)).2.2.2 k) ?_
    show Go FrameEnd p e below s 16 128 (Q0 Z p1 p2 p3 p4 p5 p6 h0 n0) (T80.setTop (mkF m 53 #[.val (.int p1), .val (.int p2), .val (.int p3), .val (.int p4), .val (.int p5), .val (.int p6), .val (.int (5 : Int32)), .val (.ref b76), .unset] []))
    refine Go.step (fun _ k => XS.aload X80.here hx rfl (hb hby at_53) rfl rfl k) ?_
    show Go FrameEnd p e below s 16 128 (Q0 Z p1 p2 p3 p4 p5 p6 h0 n0) (T80.setTop (mkF m 55 #[.val (.int p1), .val (.int p2), .val (.int p3), .val (.int p4), .val (.int p5), .val (.int p6), .val (.int (5 : Int32)), .val (.ref b76), .unset] [(.ref b76)]))
    refine Go.step (fun _ k => XS.iconst X80.here hx rfl (hb hby at_55) k) ?_
    show Go FrameEnd p e below s 16 128 (Q0 Z p1 p2 p3 p4 p5 p6 h0 n0) (T80.setTop (mkF m 56 #[.val (.int p1), .val (.int p2), .val (.int p3), .val (.int p4), .val (.int p5), .val (.int p6), .val (.int (5 : Int32)), .val (.ref b76), .unset] [(.int (2 : Int32)), (.ref b76)]))
    refine Go.step (fun _ k => XS.iloadN X80.here hx rfl (hb hby at_56) rfl k) ?_
    show Go FrameEnd p e below s 16 128 (Q0 Z p1 p2 p3 p4 p5 p6 h0 n0) (T80.setTop (mkF m 57 #[.val (.int p1), .val (.int p2), .val (.int p3), .val (.int p4), .val (.int p5), .val (.int p6), .val (.int (5 : Int32)), .val (.ref b76), .unset] [(.int p3), (.int (2 : Int32)), (.ref b76)]))
    refine Go.step (X80.ldcInt hx hown (mvT hZ (hw _ (List.mem_of_getElem? (i := 0) rfl))) (g := (mkF m 57 #[.val (.int p1), .val (.int p2), .val (.int p3), .val (.int p4), .val (.int p5), .val (.int p6), .val (.int (5 : Int32)), .val (.ref b76), .unset] [(.int p3), (.int (2 : Int32)), (.ref b76)])) rfl (hb hby at_57)) ?_
    show Go FrameEnd p e below s 16 128 (Q0 Z p1 p2 p3 p4 p5 p6 h0 n0) (T80.setTop (mkF m 59 #[.val (.int p1), .val (.int p2), .val (.int p3), .val (.int p4), .val (.int p5), .val (.int p6), .val (.int (5 : Int32)), .val (.ref b76), .unset] [(.int (2147483647 : Int32)), (.int p3), (.int (2 : Int32)), (.ref b76)]))
    refine Go.step (fun _ k => XS.iand X80.here hx rfl (hb hby at_59) rfl k) ?_
    show Go FrameEnd p e below s 16 128 (Q0 Z p1 p2 p3 p4 p5 p6 h0 n0) (T80.setTop (mkF m 60 #[.val (.int p1), .val (.int p2), .val (.int p3), .val (.int p4), .val (.int p5), .val (.int p6), .val (.int (5 : Int32)), .val (.ref b76), .unset] [(.int (p3 &&& (2147483647 : Int32))), (.int (2 : Int32)), (.ref b76)]))
    refine Go.step (fun _ k => XS.iload X80.here hx rfl (hb hby at_60) rfl k) ?_
    show Go FrameEnd p e below s 16 128 (Q0 Z p1 p2 p3 p4 p5 p6 h0 n0) (T80.setTop (mkF m 62 #[.val (.int p1), .val (.int p2), .val (.int p3), .val (.int p4), .val (.int p5), .val (.int p6), .val (.int (5 : Int32)), .val (.ref b76), .unset] [(.int (5 : Int32)), (.int (p3 &&& (2147483647 : Int32))), (.int (2 : Int32)), (.ref b76)]))
    refine Go.step (fun _ k => XS.iconst X80.here hx rfl (hb hby at_62) k) ?_
    show Go FrameEnd p e below s 16 128 (Q0 Z p1 p2 p3 p4 p5 p6 h0 n0) (T80.setTop (mkF m 63 #[.val (.int p1), .val (.int p2), .val (.int p3), .val (.int p4), .val (.int p5), .val (.int p6), .val (.int (5 : Int32)), .val (.ref b76), .unset] [(.int (2 : Int32)), (.int (5 : Int32)), (.int (p3 &&& (2147483647 : Int32))), (.int (2 : Int32)), (.ref b76)]))
    refine Go.step (fun _ k => XS.isub X80.here hx rfl (hb hby at_63) rfl k) ?_
    show Go FrameEnd p e below s 16 128 (Q0 Z p1 p2 p3 p4 p5 p6 h0 n0) (T80.setTop (mkF m 64 #[.val (.int p1), .val (.int p2), .val (.int p3), .val (.int p4), .val (.int p5), .val (.int p6), .val (.int (5 : Int32)), .val (.ref b76), .unset] [(.int (3 : Int32)), (.int (p3 &&& (2147483647 : Int32))), (.int (2 : Int32)), (.ref b76)]))
    refine Go.step (fun _ k => XS.iconst X80.here hx rfl (hb hby at_64) k) ?_
    show Go FrameEnd p e below s 16 128 (Q0 Z p1 p2 p3 p4 p5 p6 h0 n0) (T80.setTop (mkF m 65 #[.val (.int p1), .val (.int p2), .val (.int p3), .val (.int p4), .val (.int p5), .val (.int p6), .val (.int (5 : Int32)), .val (.ref b76), .unset] [(.int (1 : Int32)), (.int (3 : Int32)), (.int (p3 &&& (2147483647 : Int32))), (.int (2 : Int32)), (.ref b76)]))
    refine Go.step (fun _ k => XS.iadd X80.here hx rfl (hb hby at_65) rfl k) ?_
    show Go FrameEnd p e below s 16 128 (Q0 Z p1 p2 p3 p4 p5 p6 h0 n0) (T80.setTop (mkF m 66 #[.val (.int p1), .val (.int p2), .val (.int p3), .val (.int p4), .val (.int p5), .val (.int p6), .val (.int (5 : Int32)), .val (.ref b76), .unset] [(.int (4 : Int32)), (.int (p3 &&& (2147483647 : Int32))), (.int (2 : Int32)), (.ref b76)]))
    refine Go.step (fun _ k => iremM X80 hx rfl (hb hby at_66) rfl (by decide) k) ?_
    show Go FrameEnd p e below s 16 128 (Q0 Z p1 p2 p3 p4 p5 p6 h0 n0) (T80.setTop (mkF m 67 #[.val (.int p1), .val (.int p2), .val (.int p3), .val (.int p4), .val (.int p5), .val (.int p6), .val (.int (5 : Int32)), .val (.ref b76), .unset] [(.int ((p3 &&& (2147483647 : Int32)) % (4 : Int32))), (.int (2 : Int32)), (.ref b76)]))
    obtain ⟨c81, Ac81, Sc81, Mc81, Gc81⟩ := id V80
    obtain ⟨T82, h82, X82, e82, W82, st82⟩ := stI X80 hx hZ e80 Ac81 (j := (2 : Int32)) (own_in Sc81 (by decide) (by decide)) (g := (mkF m 67 #[.val (.int p1), .val (.int p2), .val (.int p3), .val (.int p4), .val (.int p5), .val (.int p6), .val (.int (5 : Int32)), .val (.ref b76), .unset] [(.int ((p3 &&& (2147483647 : Int32)) % (4 : Int32))), (.int (2 : Int32)), (.ref b76)])) rfl rfl (hb hby at_67)
    refine Go.step st82 ?_
    have N82 := Fr.snoc X82 N80 g_b76
    have Z82 : n0 ≤ h82.size := Nat.le_trans Z80 (Keep.of_wr W82).1
    have V82 : Av Z h82 b76 .int 5 (aset (aset (aset (fun _ => (.int (0 : Int32))) 0 (.int (5 : Int32))) 1 (.int ((p2 &&& (2147483647 : Int32)) % (5 : Int32)))) 2 (.int ((p3 &&& (2147483647 : Int32)) % (4 : Int32)))) := Av.set Ac81 Sc81 Mc81 Gc81 W82 (by rfl) (own_in Sc81 (by decide) (by decide))
    show Go FrameEnd p e below s 16 128 (Q0 Z p1 p2 p3 p4 p5 p6 h0 n0) (T82.setTop (mkF m 68 #[.val (.int p1), .val (.int p2), .val (.int p3), .val (.int p4), .val (.int p5), .val (.int p6), .val (.int (5 : Int32)), .val (.ref b76), .unset] []))
    refine Go.step (fun _ k => XS.iload X82.here hx rfl (hb hby at_68) rfl k) ?_
    show Go FrameEnd p e below s 16 128 (Q0 Z p1 p2 p3 p4 p5 p6 h0 n0) (T82.setTop (mkF m 70 #[.val (.int p1), .val (.int p2), .val (.int p3), .val (.int p4), .val (.int p5), .val (.int p6), .val (.int (5 : Int32)), .val (.ref b76), .unset] [(.int (5 : Int32))]))
    refine Go.step (fun _ k => XS.iconst X82.here hx rfl (hb hby at_70) k) ?_
    show Go FrameEnd p e below s 16 128 (Q0 Z p1 p2 p3 p4 p5 p6 h0 n0) (T82.setTop (mkF m 71 #[.val (.int p1), .val (.int p2), .val (.int p3), .val (.int p4), .val (.int p5), .val (.int p6), .val (.int (5 : Int32)), .val (.ref b76), .unset] [(.int (3 : Int32)), (.int (5 : Int32))]))
    refine Go.step (fun _ k => XS.icmpNo X82.here hx rfl (hb hby at_71) rfl (tlt (by decide)).2.2.2 k) ?_
    show Go FrameEnd p e below s 16 128 (Q0 Z p1 p2 p3 p4 p5 p6 h0 n0) (T82.setTop (mkF m 74 #[.val (.int p1), .val (.int p2), .val (.int p3), .val (.int p4), .val (.int p5), .val (.int p6), .val (.int (5 : Int32)), .val (.ref b76), .unset] []))
    refine Go.step (fun _ k => XS.aload X82.here hx rfl (hb hby at_74) rfl rfl k) ?_
    show Go FrameEnd p e below s 16 128 (Q0 Z p1 p2 p3 p4 p5 p6 h0 n0) (T82.setTop (mkF m 76 #[.val (.int p1), .val (.int p2), .val (.int p3), .val (.int p4), .val (.int p5), .val (.int p6), .val (.int (5 : Int32)), .val (.ref b76), .unset] [(.ref b76)]))
    refine Go.step (fun _ k => XS.iconst X82.here hx rfl (hb hby at_76) k) ?_
    show Go FrameEnd p e below s 16 128 (Q0 Z p1 p2 p3 p4 p5 p6 h0 n0) (T82.setTop (mkF m 77 #[.val (.int p1), .val (.int p2), .val (.int p3), .val (.int p4), .val (.int p5), .val (.int p6), .val (.int (5 : Int32)), .val (.ref b76), .unset] [(.int (3 : Int32)), (.ref b76)]))
    refine Go.step (fun _ k => XS.iloadN X82.here hx rfl (hb hby at_77) rfl k) ?_
    show Go FrameEnd p e below s 16 128 (Q0 Z p1 p2 p3 p4 p5 p6 h0 n0) (T82.setTop (mkF m 78 #[.val (.int p1), .val (.int p2), .val (.int p3), .val (.int p4), .val (.int p5), .val (.int p6), .val (.int (5 : Int32)), .val (.ref b76), .unset] [(.int p4), (.int (3 : Int32)), (.ref b76)]))
    refine Go.step (X82.ldcInt hx hown (mvT hZ (hw _ (List.mem_of_getElem? (i := 0) rfl))) (g := (mkF m 78 #[.val (.int p1), .val (.int p2), .val (.int p3), .val (.int p4), .val (.int p5), .val (.int p6), .val (.int (5 : Int32)), .val (.ref b76), .unset] [(.int p4), (.int (3 : Int32)), (.ref b76)])) rfl (hb hby at_78)) ?_
    show Go FrameEnd p e below s 16 128 (Q0 Z p1 p2 p3 p4 p5 p6 h0 n0) (T82.setTop (mkF m 80 #[.val (.int p1), .val (.int p2), .val (.int p3), .val (.int p4), .val (.int p5), .val (.int p6), .val (.int (5 : Int32)), .val (.ref b76), .unset] [(.int (2147483647 : Int32)), (.int p4), (.int (3 : Int32)), (.ref b76)]))
    refine Go.step (fun _ k => XS.iand X82.here hx rfl (hb hby at_80) rfl k) ?_
    show Go FrameEnd p e below s 16 128 (Q0 Z p1 p2 p3 p4 p5 p6 h0 n0) (T82.setTop (mkF m 81 #[.val (.int p1), .val (.int p2), .val (.int p3), .val (.int p4), .val (.int p5), .val (.int p6), .val (.int (5 : Int32)), .val (.ref b76), .unset] [(.int (p4 &&& (2147483647 : Int32))), (.int (3 : Int32)), (.ref b76)]))
    refine Go.step (fun _ k => XS.iload X82.here hx rfl (hb hby at_81) rfl k) ?_
    show Go FrameEnd p e below s 16 128 (Q0 Z p1 p2 p3 p4 p5 p6 h0 n0) (T82.setTop (mkF m 83 #[.val (.int p1), .val (.int p2), .val (.int p3), .val (.int p4), .val (.int p5), .val (.int p6), .val (.int (5 : Int32)), .val (.ref b76), .unset] [(.int (5 : Int32)), (.int (p4 &&& (2147483647 : Int32))), (.int (3 : Int32)), (.ref b76)]))
    refine Go.step (fun _ k => XS.iconst X82.here hx rfl (hb hby at_83) k) ?_
    show Go FrameEnd p e below s 16 128 (Q0 Z p1 p2 p3 p4 p5 p6 h0 n0) (T82.setTop (mkF m 84 #[.val (.int p1), .val (.int p2), .val (.int p3), .val (.int p4), .val (.int p5), .val (.int p6), .val (.int (5 : Int32)), .val (.ref b76), .unset] [(.int (3 : Int32)), (.int (5 : Int32)), (.int (p4 &&& (2147483647 : Int32))), (.int (3 : Int32)), (.ref b76)]))
    refine Go.step (fun _ k => XS.isub X82.here hx rfl (hb hby at_84) rfl k) ?_
    show Go FrameEnd p e below s 16 128 (Q0 Z p1 p2 p3 p4 p5 p6 h0 n0) (T82.setTop (mkF m 85 #[.val (.int p1), .val (.int p2), .val (.int p3), .val (.int p4), .val (.int p5), .val (.int p6), .val (.int (5 : Int32)), .val (.ref b76), .unset] [(.int (2 : Int32)), (.int (p4 &&& (2147483647 : Int32))), (.int (3 : Int32)), (.ref b76)]))
    refine Go.step (fun _ k => XS.iconst X82.here hx rfl (hb hby at_85) k) ?_
    show Go FrameEnd p e below s 16 128 (Q0 Z p1 p2 p3 p4 p5 p6 h0 n0) (T82.setTop (mkF m 86 #[.val (.int p1), .val (.int p2), .val (.int p3), .val (.int p4), .val (.int p5), .val (.int p6), .val (.int (5 : Int32)), .val (.ref b76), .unset] [(.int (1 : Int32)), (.int (2 : Int32)), (.int (p4 &&& (2147483647 : Int32))), (.int (3 : Int32)), (.ref b76)]))
    refine Go.step (fun _ k => XS.iadd X82.here hx rfl (hb hby at_86) rfl k) ?_
    show Go FrameEnd p e below s 16 128 (Q0 Z p1 p2 p3 p4 p5 p6 h0 n0) (T82.setTop (mkF m 87 #[.val (.int p1), .val (.int p2), .val (.int p3), .val (.int p4), .val (.int p5), .val (.int p6), .val (.int (5 : Int32)), .val (.ref b76), .unset] [(.int (3 : Int32)), (.int (p4 &&& (2147483647 : Int32))), (.int (3 : Int32)), (.ref b76)]))
    refine Go.step (fun _ k => iremM X82 hx rfl (hb hby at_87) rfl (by decide) k) ?_
    show Go FrameEnd p e below s 16 128 (Q0 Z p1 p2 p3 p4 p5 p6 h0 n0) (T82.setTop (mkF m 88 #[.val (.int p1), .val (.int p2), .val (.int p3), .val (.int p4), .val (.int p5), .val (.int p6), .val (.int (5 : Int32)), .val (.ref b76), .unset] [(.int ((p4 &&& (2147483647 : Int32)) % (3 : Int32))), (.int (3 : Int32)), (.ref b76)]))
    obtain ⟨c83, Ac83, Sc83, Mc83, Gc83⟩ := id V82
    obtain ⟨T84, h84, X84, e84, W84, st84⟩ := stI X82 hx hZ e82 Ac83 (j := (3 : Int32)) (own_in Sc83 (by decide) (by decide)) (g := (mkF m 88 #[.val (.int p1), .val (.int p2), .val (.int p3), .val (.int p4), .val (.int p5), .val (.int p6), .val (.int (5 : Int32)), .val (.ref b76), .unset] [(.int ((p4 &&& (2147483647 : Int32)) % (3 : Int32))), (.int (3 : Int32)), (.ref b76)])) rfl rfl (hb hby at_88)
    refine Go.step st84 ?_
    have N84 := Fr.snoc X84 N82 g_b76
    have Z84 : n0 ≤ h84.size := Nat.le_trans Z82 (Keep.of_wr W84).1
    have V84 : Av Z h84 b76 .int 5 (aset (aset (aset (aset (fun _ => (.int (0 : Int32))) 0 (.int (5 : Int32))) 1 (.int ((p2 &&& (2147483647 : Int32)) % (5 : Int32)))) 2 (.int ((p3 &&& (2147483647 : Int32)) % (4 : Int32)))) 3 (.int ((p4 &&& (2147483647 : Int32)) % (3 : Int32)))) := Av.set Ac83 Sc83 Mc83 Gc83 W84 (by rfl) (own_in Sc83 (by decide) (by decide))
    show Go FrameEnd p e below s 16 128 (Q0 Z p1 p2 p3 p4 p5 p6 h0 n0) (T84.setTop (mkF m 89 #[.val (.int p1), .val (.int p2), .val (.int p3), .val (.int p4), .val (.int p5), .val (.int p6), .val (.int (5 : Int32)), .val (.ref b76), .unset] []))
    refine Go.step (fun _ k => XS.iload X84.here hx rfl (hb hby at_89) rfl k) ?_
    show Go FrameEnd p e below s 16 128 (Q0 Z p1 p2 p3 p4 p5 p6 h0 n0) (T84.setTop (mkF m 91 #[.val (.int p1), .val (.int p2), .val (.int p3), .val (.int p4), .val (.int p5), .val (.int p6), .val (.int (5 : Int32)), .val (.ref b76), .unset] [(.int (5 : Int32))]))
    refine Go.step (fun _ k => XS.iconst X84.here hx rfl (hb hby at_91) k) ?_
    show Go FrameEnd p e below s 16 128 (Q0 Z p1 p2 p3 p4 p5 p6 h0 n0) (T84.setTop (mkF m 92 #[.val (.int p1), .val (.int p2), .val (.int p3), .val (.int p4), .val (.int p5), .val (.int p6), .val (.int (5 : Int32)), .val (.ref b76), .unset] [(.int (4 : Int32)), (.int (5 : Int32))]))
    refine Go.step (fun _ k => XS.icmpNo X84.here hx rfl (hb hby at_92) rfl (tlt (by decide)).2.2.2 k) ?_
    show Go FrameEnd p e below s 16 128 (Q0 Z p1 p2 p3 p4 p5 p6 h0 n0) (T84.setTop (mkF m 95 #[.val (.int p1), .val (.int p2), .val (.int p3), .val (.int p4), .val (.int p5), .val (.int p6), .val (.int (5 : Int32)), .val (.ref b76), .unset] []))
    refine Go.step (fun _ k => XS.aload X84.here hx rfl (hb hby at_95) rfl rfl k) ?_
    show Go FrameEnd p e below s 16 128 (Q0 Z p1 p2 p3 p4 p5 p6 h0 n0) (T84.setTop (mkF m 97 #[.val (.int p1), .val (.int p2), .val (.int p3), .val (.int p4), .val (.int p5), .val (.int p6), .val (.int (5 : Int32)), .val (.ref b76), .unset] [(.ref b76)]))
    refine Go.step (fun _ k => XS.iconst X84.here hx rfl (hb hby at_97) k) ?_
    show Go FrameEnd p e below s 16 128 (Q0 Z p1 p2 p3 p4 p5 p6 h0 n0) (T84.setTop (mkF m 98 #[.val (.int p1), .val (.int p2), .val (.int p3), .val (.int p4), .val (.int p5), .val (.int p6), .val (.int (5 : Int32)), .val (.ref b76), .unset] [(.int (4 : Int32)), (.ref b76)]))
    refine Go.step (fun _ k => XS.iload X84.here hx rfl (hb hby at_98) rfl k) ?_
    show Go FrameEnd p e below s 16 128 (Q0 Z p1 p2 p3 p4 p5 p6 h0 n0) (T84.setTop (mkF m 100 #[.val (.int p1), .val (.int p2), .val (.int p3), .val (.int p4), .val (.int p5), .val (.int p6), .val (.int (5 : Int32)), .val (.ref b76), .unset] [(.int p5), (.int (4 : Int32)), (.ref b76)]))
    refine Go.step (X84.ldcInt hx hown (mvT hZ (hw _ (List.mem_of_getElem? (i := 0) rfl))) (g := (mkF m 100 #[.val (.int p1), .val (.int p2), .val (.int p3), .val (.int p4), .val (.int p5), .val (.int p6), .val (.int (5 : Int32)), .val (.ref b76), .unset] [(.int p5), (.int (4 : Int32)), (.ref b76)])) rfl (hb hby at_100)) ?_
    show Go FrameEnd p e below s 16 128 (Q0 Z p1 p2 p3 p4 p5 p6 h0 n0) (T84.setTop (mkF m 102 #[.val (.int p1), .val (.int p2), .val (.int p3), .val (.int p4), .val (.int p5), .val (.int p6), .val (.int (5 : Int32)), .val (.ref b76), .unset] [(.int (2147483647 : Int32)), (.int p5), (.int (4 : Int32)), (.ref b76)]))
    refine Go.step (fun _ k => XS.iand X84.here hx rfl (hb hby at_102) rfl k) ?_
    show Go FrameEnd p e below s 16 128 (Q0 Z p1 p2 p3 p4 p5 p6 h0 n0) (T84.setTop (mkF m 103 #[.val (.int p1), .val (.int p2), .val (.int p3), .val (.int p4), .val (.int p5), .val (.int p6), .val (.int (5 : Int32)), .val (.ref b76), .unset] [(.int (p5 &&& (2147483647 : Int32))), (.int (4 : Int32)), (.ref b76)]))
    refine Go.step (fun _ k => XS.iload X84.here hx rfl (hb hby at_103) rfl k) ?_
    show Go FrameEnd p e below s 16 128 (Q0 Z p1 p2 p3 p4 p5 p6 h0 n0) (T84.setTop (mkF m 105 #[.val (.int p1), .val (.int p2), .val (.int p3), .val (.int p4), .val (.int p5), .val (.int p6), .val (.int (5 : Int32)), .val (.ref b76), .unset] [(.int (5 : Int32)), (.int (p5 &&& (2147483647 : Int32))), (.int (4 : Int32)), (.ref b76)]))
    refine Go.step (fun _ k => XS.iconst X84.here hx rfl (hb hby at_105) k) ?_
    show Go FrameEnd p e below s 16 128 (Q0 Z p1 p2 p3 p4 p5 p6 h0 n0) (T84.setTop (mkF m 106 #[.val (.int p1), .val (.int p2), .val (.int p3), .val (.int p4), .val (.int p5), .val (.int p6), .val (.int (5 : Int32)), .val (.ref b76), .unset] [(.int (4 : Int32)), (.int (5 : Int32)), (.int (p5 &&& (2147483647 : Int32))), (.int (4 : Int32)), (.ref b76)]))
    refine Go.step (fun _ k => XS.isub X84.here hx rfl (hb hby at_106) rfl k) ?_
    show Go FrameEnd p e below s 16 128 (Q0 Z p1 p2 p3 p4 p5 p6 h0 n0) (T84.setTop (mkF m 107 #[.val (.int p1), .val (.int p2), .val (.int p3), .val (.int p4), .val (.int p5), .val (.int p6), .val (.int (5 : Int32)), .val (.ref b76), .unset] [(.int (1 : Int32)), (.int (p5 &&& (2147483647 : Int32))), (.int (4 : Int32)), (.ref b76)]))
    refine Go.step (fun _ k => XS.iconst X84.here hx rfl (hb hby at_107) k) ?_
    show Go FrameEnd p e below s 16 128 (Q0 Z p1 p2 p3 p4 p5 p6 h0 n0) (T84.setTop (mkF m 108 #[.val (.int p1), .val (.int p2), .val (.int p3), .val (.int p4), .val (.int p5), .val (.int p6), .val (.int (5 : Int32)), .val (.ref b76), .unset] [(.int (1 : Int32)), (.int (1 : Int32)), (.int (p5 &&& (2147483647 : Int32))), (.int (4 : Int32)), (.ref b76)]))
    refine Go.step (fun _ k => XS.iadd X84.here hx rfl (hb hby at_108) rfl k) ?_
    show Go FrameEnd p e below s 16 128 (Q0 Z p1 p2 p3 p4 p5 p6 h0 n0) (T84.setTop (mkF m 109 #[.val (.int p1), .val (.int p2), .val (.int p3), .val (.int p4), .val (.int p5), .val (.int p6), .val (.int (5 : Int32)), .val (.ref b76), .unset] [(.int (2 : Int32)), (.int (p5 &&& (2147483647 : Int32))), (.int (4 : Int32)), (.ref b76)]))
    refine Go.step (fun _ k => iremM X84 hx rfl (hb hby at_109) rfl (by decide) k) ?_
    show Go FrameEnd p e below s 16 128 (Q0 Z p1 p2 p3 p4 p5 p6 h0 n0) (T84.setTop (mkF m 110 #[.val (.int p1), .val (.int p2), .val (.int p3), .val (.int p4), .val (.int p5), .val (.int p6), .val (.int (5 : Int32)), .val (.ref b76), .unset] [(.int ((p5 &&& (2147483647 : Int32)) % (2 : Int32))), (.int (4 : Int32)), (.ref b76)]))
    obtain ⟨c85, Ac85, Sc85, Mc85, Gc85⟩ := id V84
    obtain ⟨T86, h86, X86, e86, W86, st86⟩ := stI X84 hx hZ e84 Ac85 (j := (4 : Int32)) (own_in Sc85 (by decide) (by decide)) (g := (mkF m 110 #[.val (.int p1), .val (.int p2), .val (.int p3), .val (.int p4), .val (.int p5), .val (.int p6), .val (.int (5 : Int32)), .val (.ref b76), .unset] [(.int ((p5 &&& (2147483647 : Int32)) % (2 : Int32))), (.int (4 : Int32)), (.ref b76)])) rfl rfl (hb hby at_110)
    refine Go.step st86 ?_
    have N86 := Fr.snoc X86 N84 g_b76
    have Z86 : n0 ≤ h86.size := Nat.le_trans Z84 (Keep.of_wr W86).1
    have V86 : Av Z h86 b76 .int 5 (aset (aset (aset (aset (aset (fun _ => (.int (0 : Int32))) 0 (.int (5 : Int32))) 1 (.int ((p2 &&& (2147483647 : Int32)) % (5 : Int32)))) 2 (.int ((p3 &&& (2147483647 : Int32)) % (4 : Int32)))) 3 (.int ((p4 &&& (2147483647 : Int32)) % (3 : Int32)))) 4 (.int ((p5 &&& (2147483647 : Int32)) % (2 : Int32)))) := Av.set Ac85 Sc85 Mc85 Gc85 W86 (by rfl) (own_in Sc85 (by decide) (by decide))
    show Go FrameEnd p e below s 16 128 (Q0 Z p1 p2 p3 p4 p5 p6 h0 n0) (T86.setTop (mkF m 111 #[.val (.int p1), .val (.int p2), .val (.int p3), .val (.int p4), .val (.int p5), .val (.int p6), .val (.int (5 : Int32)), .val (.ref b76), .unset] []))
    refine Go.step (fun _ k => XS.iload X86.here hx rfl (hb hby at_111) rfl k) ?_
    show Go FrameEnd p e below s 16 128 (Q0 Z p1 p2 p3 p4 p5 p6 h0 n0) (T86.setTop (mkF m 113 #[.val (.int p1), .val (.int p2), .val (.int p3), .val (.int p4), .val (.int p5), .val (.int p6), .val (.int (5 : Int32)), .val (.ref b76), .unset] [(.int (5 : Int32))]))
    refine Go.step (fun _ k => XS.iconst X86.here hx rfl (hb hby at_113) k) ?_
    show Go FrameEnd p e below s 16 128 (Q0 Z p1 p2 p3 p4 p5 p6 h0 n0) (T86.setTop (mkF m 114 #[.val (.int p1), .val (.int p2), .val (.int p3), .val (.int p4), .val (.int p5), .val (.int p6), .val (.int (5 : Int32)), .val (.ref b76), .unset] [(.int (5 : Int32)), (.int (5 : Int32))]))
    refine Go.step (fun _ k => XS.icmpYes X86.here hx rfl (pc0 := 114) (pc' := 133) rfl (hb hby at_114) rfl (flt (by decide)).2.2.2 (by decide) (by decide) k) ?_
    show Go FrameEnd p e below s 16 128 (Q0 Z p1 p2 p3 p4 p5 p6 h0 n0) (T86.setTop (mkF m 133 #[.val (.int p1), .val (.int p2), .val (.int p3), .val (.int p4), .val (.int p5), .val (.int p6), .val (.int (5 : Int32)), .val (.ref b76), .unset] []))
    have x1 := own_rem p2 (5 : Int32) (by decide)
    rw [show ((5 : Int32)).toInt = 5 from by decide] at x1
    have x2 := own_rem p3 (4 : Int32) (by decide)
    rw [show ((4 : Int32)).toInt = 4 from by decide] at x2
    have x3 := own_rem p4 (3 : Int32) (by decide)
    rw [show ((3 : Int32)).toInt = 3 from by decide] at x3
    have x4 := own_rem p5 (2 : Int32) (by decide)
    rw [show ((2 : Int32)).toInt = 2 from by decide] at x4
    have Vz : Av Z h86 b76 .int 5 (fun j => .int (Int32.ofNat ((zsel 5 ((p2 &&& (2147483647 : Int32)) % (5 : Int32)) ((p3 &&& (2147483647 : Int32)) % (4 : Int32)) ((p4 &&& (2147483647 : Int32)) % (3 : Int32)) ((p5 &&& (2147483647 : Int32)) % (2 : Int32)) (0 : Int32)) j))) := (V86).eq (fun j hj => by
      rcases (by omega : j = 0 ∨ j = 1 ∨ j = 2 ∨ j = 3 ∨ j = 4) with rfl | rfl | rfl | rfl | rfl
      · rfl
      · exact congrArg Value.int (own_back x1.1).symm
      · exact congrArg Value.int (own_back x2.1).symm
      · exact congrArg Value.int (own_back x3.1).symm
      · exact congrArg Value.int (own_back x4.1).symm)
    have hz : ∀ j, 1 ≤ j → j < 5 → j + (zsel 5 ((p2 &&& (2147483647 : Int32)) % (5 : Int32)) ((p3 &&& (2147483647 : Int32)) % (4 : Int32)) ((p4 &&& (2147483647 : Int32)) % (3 : Int32)) ((p5 &&& (2147483647 : Int32)) % (2 : Int32)) (0 : Int32)) j ≤ 5 := fun j h1 h2 => by
      rcases (by omega : j = 1 ∨ j = 2 ∨ j = 3 ∨ j = 4) with rfl | rfl | rfl | rfl
      · show 1 + (((p2 &&& (2147483647 : Int32)) % (5 : Int32))).toInt.toNat ≤ 5; omega
      · show 2 + (((p3 &&& (2147483647 : Int32)) % (4 : Int32))).toInt.toNat ≤ 5; omega
      · show 3 + (((p4 &&& (2147483647 : Int32)) % (3 : Int32))).toInt.toNat ≤ 5; omega
      · show 4 + (((p5 &&& (2147483647 : Int32)) % (2 : Int32))).toInt.toNat ≤ 5; omega
    refine Go.step (fun _ k => XS.aload X86.here hx rfl (hb hby at_133) rfl rfl k) ?_
    show Go FrameEnd p e below s 16 128 (Q0 Z p1 p2 p3 p4 p5 p6 h0 n0) (T86.setTop (mkF m 135 #[.val (.int p1), .val (.int p2), .val (.int p3), .val (.int p4), .val (.int p5), .val (.int p6), .val (.int (5 : Int32)), .val (.ref b76), .unset] [(.ref b76)]))
    obtain ⟨_, _, ⟨T87, L87, k87, n87⟩, -, X87, ⟨Lc87, hQ87, l87, y87, z87⟩, st87⟩ := Jvm.LawKit.callS X86 hx (y := (⟨"example/zedbox/Periods", "ofEachPrefix", "([I)[I"⟩ : MethodName)) hown (mvT hZ (hw _ (List.mem_of_getElem? (i := 2) rfl))) (mvT hZ (hw _ (List.mem_of_getElem? (i := 3) rfl))) (mvT hZ (hw _ (List.mem_of_getElem? (i := 4) rfl))) (mvT hZ (hw _ (List.mem_of_getElem? (i := 5) rfl))) (by decide) (backOf (W := 0) (rm3 l Z a0 hw [] b76 (zsel 5 ((p2 &&& (2147483647 : Int32)) % (5 : Int32)) ((p3 &&& (2147483647 : Int32)) % (4 : Int32)) ((p4 &&& (2147483647 : Int32)) % (3 : Int32)) ((p5 &&& (2147483647 : Int32)) % (2 : Int32)) (0 : Int32)) 5 h86 n0 Z86 Vz (by decide) hz) hZ (hw _ (List.mem_of_getElem? (i := 5) rfl)) (hw _ (List.mem_of_getElem? (i := 4) rfl)) (by decide) (by decide)) (g := (mkF m 135 #[.val (.int p1), .val (.int p2), .val (.int p3), .val (.int p4), .val (.int p5), .val (.int p6), .val (.int (5 : Int32)), .val (.ref b76), .unset] [(.ref b76)])) rfl (by rw [hml]; rfl) (argsL := [(.ref b76)]) (rest := []) (lenOf pd___I__I rfl) rfl (by show 2 * 0 + _ ≤ _; exact Nat.le_of_eq rfl) (hb hby at_135) (fun _ _ => ⟨rfl, e86, (by decide : 1 + 1 ≤ _), (by decide : 5 + 7 ≤ _)⟩)
    dsimp only [Pt.U, Pt.locs, Pt.cells, Pt.slots] at X87 l87 y87 z87 st87 hQ87
    subst l87 y87 z87
    obtain ⟨b87a, rfl, N87q, szb87a, K87_0, xA87_1⟩ := hQ87
    have N87 := Fr.app N86 N87q
    have ne_b76_b87a : b76 ≠ b87a := Nat.ne_of_lt (Nat.lt_of_lt_of_le Vz.lt szb87a)
    have g_b87a : n0 ≤ b87a := Nat.le_trans Z86 szb87a
    have Z87 : n0 ≤ T87.heap.size := Nat.le_trans Z86 K87_0.1
    refine Go.step st87 ?_
    show Go FrameEnd p e below s 16 128 (Q0 Z p1 p2 p3 p4 p5 p6 h0 n0) (T87.setTop (mkF m 138 #[.val (.int p1), .val (.int p2), .val (.int p3), .val (.int p4), .val (.int p5), .val (.int p6), .val (.int (5 : Int32)), .val (.ref b76), .unset] [(.ref b87a)]))
    refine Go.step (fun _ k => XS.astore X87.here hx rfl (hb hby at_138) rfl rfl (l' := #[.val (.int p1), .val (.int p2), .val (.int p3), .val (.int p4), .val (.int p5), .val (.int p6), .val (.int (5 : Int32)), .val (.ref b76), .val (.ref b87a)]) rfl k) ?_
    show Go FrameEnd p e below s 16 128 (Q0 Z p1 p2 p3 p4 p5 p6 h0 n0) (T87.setTop (mkF m 140 #[.val (.int p1), .val (.int p2), .val (.int p3), .val (.int p4), .val (.int p5), .val (.int p6), .val (.int (5 : Int32)), .val (.ref b76), .val (.ref b87a)] []))
    refine Go.step (fun _ k => XS.aload X87.here hx rfl (hb hby at_140) rfl rfl k) ?_
    show Go FrameEnd p e below s 16 128 (Q0 Z p1 p2 p3 p4 p5 p6 h0 n0) (T87.setTop (mkF m 142 #[.val (.int p1), .val (.int p2), .val (.int p3), .val (.int p4), .val (.int p5), .val (.int p6), .val (.int (5 : Int32)), .val (.ref b76), .val (.ref b87a)] [(.ref b87a)]))
    refine Go.step (fun _ k => XS.ifnullNo X87.here hx rfl (hb hby at_142) rfl k) ?_
    show Go FrameEnd p e below s 16 128 (Q0 Z p1 p2 p3 p4 p5 p6 h0 n0) (T87.setTop (mkF m 145 #[.val (.int p1), .val (.int p2), .val (.int p3), .val (.int p4), .val (.int p5), .val (.int p6), .val (.int (5 : Int32)), .val (.ref b76), .val (.ref b87a)] []))
    refine Go.step (fun _ k => XS.aload X87.here hx rfl (hb hby at_145) rfl rfl k) ?_
    show Go FrameEnd p e below s 16 128 (Q0 Z p1 p2 p3 p4 p5 p6 h0 n0) (T87.setTop (mkF m 147 #[.val (.int p1), .val (.int p2), .val (.int p3), .val (.int p4), .val (.int p5), .val (.int p6), .val (.int (5 : Int32)), .val (.ref b76), .val (.ref b87a)] [(.ref b87a)]))
    obtain ⟨c88, Ac88, Sc88, Mc88, Gc88⟩ := id xA87_1
    refine Go.step (X87.arraylength hx Ac88.1 (State.isArrayOf_alike hZ.alike Ac88.2.1) (g := (mkF m 147 #[.val (.int p1), .val (.int p2), .val (.int p3), .val (.int p4), .val (.int p5), .val (.int p6), .val (.int (5 : Int32)), .val (.ref b76), .val (.ref b87a)] [(.ref b87a)])) rfl rfl (hb hby at_147)) ?_
    rw [show c88.slots.size.toInt32 = (6 : Int32) from congrArg Nat.toInt32 Sc88]
    show Go FrameEnd p e below s 16 128 (Q0 Z p1 p2 p3 p4 p5 p6 h0 n0) (T87.setTop (mkF m 148 #[.val (.int p1), .val (.int p2), .val (.int p3), .val (.int p4), .val (.int p5), .val (.int p6), .val (.int (5 : Int32)), .val (.ref b76), .val (.ref b87a)] [(.int (6 : Int32))]))
    refine Go.step (fun _ k => XS.iload X87.here hx rfl (hb hby at_148) rfl k) ?_
    show Go FrameEnd p e below s 16 128 (Q0 Z p1 p2 p3 p4 p5 p6 h0 n0) (T87.setTop (mkF m 150 #[.val (.int p1), .val (.int p2), .val (.int p3), .val (.int p4), .val (.int p5), .val (.int p6), .val (.int (5 : Int32)), .val (.ref b76), .val (.ref b87a)] [(.int (5 : Int32)), (.int (6 : Int32))]))
    refine Go.step (fun _ k => XS.iconst X87.here hx rfl (hb hby at_150) k) ?_
    show Go FrameEnd p e below s 16 128 (Q0 Z p1 p2 p3 p4 p5 p6 h0 n0) (T87.setTop (mkF m 151 #[.val (.int p1), .val (.int p2), .val (.int p3), .val (.int p4), .val (.int p5), .val (.int p6), .val (.int (5 : Int32)), .val (.ref b76), .val (.ref b87a)] [(.int (1 : Int32)), (.int (5 : Int32)), (.int (6 : Int32))]))
    refine Go.step (fun _ k => XS.iadd X87.here hx rfl (hb hby at_151) rfl k) ?_
    show Go FrameEnd p e below s 16 128 (Q0 Z p1 p2 p3 p4 p5 p6 h0 n0) (T87.setTop (mkF m 152 #[.val (.int p1), .val (.int p2), .val (.int p3), .val (.int p4), .val (.int p5), .val (.int p6), .val (.int (5 : Int32)), .val (.ref b76), .val (.ref b87a)] [(.int (6 : Int32)), (.int (6 : Int32))]))
    refine Go.step (fun _ k => XS.icmpYes X87.here hx rfl (pc0 := 152) (pc' := 157) rfl (hb hby at_152) rfl (teq rfl).1 (by decide) (by decide) k) ?_
    show Go FrameEnd p e below s 16 128 (Q0 Z p1 p2 p3 p4 p5 p6 h0 n0) (T87.setTop (mkF m 157 #[.val (.int p1), .val (.int p2), .val (.int p3), .val (.int p4), .val (.int p5), .val (.int p6), .val (.int (5 : Int32)), .val (.ref b76), .val (.ref b87a)] []))
    refine Go.step (fun _ k => XS.aload X87.here hx rfl (hb hby at_157) rfl rfl k) ?_
    show Go FrameEnd p e below s 16 128 (Q0 Z p1 p2 p3 p4 p5 p6 h0 n0) (T87.setTop (mkF m 159 #[.val (.int p1), .val (.int p2), .val (.int p3), .val (.int p4), .val (.int p5), .val (.int p6), .val (.int (5 : Int32)), .val (.ref b76), .val (.ref b87a)] [(.ref b87a)]))
    refine Go.step (fun _ k => XS.aload X87.here hx rfl (hb hby at_159) rfl rfl k) ?_
    show Go FrameEnd p e below s 16 128 (Q0 Z p1 p2 p3 p4 p5 p6 h0 n0) (T87.setTop (mkF m 161 #[.val (.int p1), .val (.int p2), .val (.int p3), .val (.int p4), .val (.int p5), .val (.int p6), .val (.int (5 : Int32)), .val (.ref b76), .val (.ref b87a)] [(.ref b76), (.ref b87a)]))
    refine Go.step (fun _ k => XS.iconst X87.here hx rfl (hb hby at_161) k) ?_
    show Go FrameEnd p e below s 16 128 (Q0 Z p1 p2 p3 p4 p5 p6 h0 n0) (T87.setTop (mkF m 162 #[.val (.int p1), .val (.int p2), .val (.int p3), .val (.int p4), .val (.int p5), .val (.int p6), .val (.int (5 : Int32)), .val (.ref b76), .val (.ref b87a)] [(.int (0 : Int32)), (.ref b76), (.ref b87a)]))
    have f_89 := (Vz.keep K87_0 nin0)
    obtain ⟨_, _, ⟨T90, L90, k90, n90⟩, -, X90, ⟨Lc90, hQ90, l90, y90, z90⟩, st90⟩ := Jvm.LawKit.callS X87 hx (y := (⟨"example/zedbox/PeriodsOfEachPrefixPinLaw", "ok", "([I[II)Z"⟩ : MethodName)) hown (mvT hZ (hw _ (List.mem_of_getElem? (i := 6) rfl))) (mvT hZ (hw _ (List.mem_of_getElem? (i := 7) rfl))) (mvT hZ (hw _ (List.mem_of_getElem? (i := 8) rfl))) (mvT hZ (hw _ (List.mem_of_getElem? (i := 9) rfl))) (by decide) (backOf (W := 0) (rm2 l Z a0 hw [] b87a b76 (zsel 5 ((p2 &&& (2147483647 : Int32)) % (5 : Int32)) ((p3 &&& (2147483647 : Int32)) % (4 : Int32)) ((p4 &&& (2147483647 : Int32)) % (3 : Int32)) ((p5 &&& (2147483647 : Int32)) % (2 : Int32)) (0 : Int32)) 0 5 T87.heap f_89 xA87_1 (by decide) hz) hZ (hw _ (List.mem_of_getElem? (i := 9) rfl)) (hw _ (List.mem_of_getElem? (i := 8) rfl)) (by decide) (by decide)) (g := (mkF m 162 #[.val (.int p1), .val (.int p2), .val (.int p3), .val (.int p4), .val (.int p5), .val (.int p6), .val (.int (5 : Int32)), .val (.ref b76), .val (.ref b87a)] [(.int (0 : Int32)), (.ref b76), (.ref b87a)])) rfl (by rw [hml]; rfl) (argsL := [(.ref b87a), (.ref b76), (.int (0 : Int32))]) (rest := []) (lenOf pd___I_II_Z rfl) rfl (by show 2 * 0 + _ ≤ _; exact Nat.le_of_eq rfl) (hb hby at_162) (fun _ _ => ⟨rfl, rfl, (by decide : 2 + 0 ≤ _), (by decide : 12 + 0 ≤ _)⟩)
    dsimp only [Pt.U, Pt.locs, Pt.cells, Pt.slots] at X90 l90 y90 z90 st90 hQ90
    subst l90 y90 z90
    obtain ⟨rfl, rfl, e90⟩ := hQ90
    have N90 := Fr.app N87 (Fr.nil n0)
    refine Go.step st90 ?_
    show Go FrameEnd p e below s 16 128 (Q0 Z p1 p2 p3 p4 p5 p6 h0 n0) (T90.setTop (mkF m 165 #[.val (.int p1), .val (.int p2), .val (.int p3), .val (.int p4), .val (.int p5), .val (.int p6), .val (.int (5 : Int32)), .val (.ref b76), .val (.ref b87a)] [(.int (1 : Int32))]))
    refine Go.step (fun _ k => XS.ifNo X90.here hx rfl (hb hby at_165) rfl ((if0 _ _).trans (feq (by decide)).1) k) ?_
    show Go FrameEnd p e below s 16 128 (Q0 Z p1 p2 p3 p4 p5 p6 h0 n0) (T90.setTop (mkF m 168 #[.val (.int p1), .val (.int p2), .val (.int p3), .val (.int p4), .val (.int p5), .val (.int p6), .val (.int (5 : Int32)), .val (.ref b76), .val (.ref b87a)] []))
    refine Go.step (fun _ k => XS.aload X90.here hx rfl (hb hby at_168) rfl rfl k) ?_
    show Go FrameEnd p e below s 16 128 (Q0 Z p1 p2 p3 p4 p5 p6 h0 n0) (T90.setTop (mkF m 170 #[.val (.int p1), .val (.int p2), .val (.int p3), .val (.int p4), .val (.int p5), .val (.int p6), .val (.int (5 : Int32)), .val (.ref b76), .val (.ref b87a)] [(.ref b87a)]))
    refine Go.step (fun _ k => XS.aload X90.here hx rfl (hb hby at_170) rfl rfl k) ?_
    show Go FrameEnd p e below s 16 128 (Q0 Z p1 p2 p3 p4 p5 p6 h0 n0) (T90.setTop (mkF m 172 #[.val (.int p1), .val (.int p2), .val (.int p3), .val (.int p4), .val (.int p5), .val (.int p6), .val (.int (5 : Int32)), .val (.ref b76), .val (.ref b87a)] [(.ref b76), (.ref b87a)]))
    refine Go.step (fun _ k => XS.iconst X90.here hx rfl (hb hby at_172) k) ?_
    show Go FrameEnd p e below s 16 128 (Q0 Z p1 p2 p3 p4 p5 p6 h0 n0) (T90.setTop (mkF m 173 #[.val (.int p1), .val (.int p2), .val (.int p3), .val (.int p4), .val (.int p5), .val (.int p6), .val (.int (5 : Int32)), .val (.ref b76), .val (.ref b87a)] [(.int (1 : Int32)), (.ref b76), (.ref b87a)]))
    obtain ⟨_, _, ⟨T91, L91, k91, n91⟩, -, X91, ⟨Lc91, hQ91, l91, y91, z91⟩, st91⟩ := Jvm.LawKit.callS X90 hx (y := (⟨"example/zedbox/PeriodsOfEachPrefixPinLaw", "ok", "([I[II)Z"⟩ : MethodName)) hown (mvT hZ (hw _ (List.mem_of_getElem? (i := 6) rfl))) (mvT hZ (hw _ (List.mem_of_getElem? (i := 7) rfl))) (mvT hZ (hw _ (List.mem_of_getElem? (i := 8) rfl))) (mvT hZ (hw _ (List.mem_of_getElem? (i := 9) rfl))) (by decide) (backOf (W := 0) (rm2 l Z a0 hw [] b87a b76 (zsel 5 ((p2 &&& (2147483647 : Int32)) % (5 : Int32)) ((p3 &&& (2147483647 : Int32)) % (4 : Int32)) ((p4 &&& (2147483647 : Int32)) % (3 : Int32)) ((p5 &&& (2147483647 : Int32)) % (2 : Int32)) (0 : Int32)) 1 5 T87.heap f_89 xA87_1 (by decide) hz) hZ (hw _ (List.mem_of_getElem? (i := 9) rfl)) (hw _ (List.mem_of_getElem? (i := 8) rfl)) (by decide) (by decide)) (g := (mkF m 173 #[.val (.int p1), .val (.int p2), .val (.int p3), .val (.int p4), .val (.int p5), .val (.int p6), .val (.int (5 : Int32)), .val (.ref b76), .val (.ref b87a)] [(.int (1 : Int32)), (.ref b76), (.ref b87a)])) rfl (by rw [hml]; rfl) (argsL := [(.ref b87a), (.ref b76), (.int (1 : Int32))]) (rest := []) (lenOf pd___I_II_Z rfl) rfl (by show 2 * 0 + _ ≤ _; exact Nat.le_of_eq rfl) (hb hby at_173) (fun _ _ => ⟨rfl, e90, (by decide : 2 + 0 ≤ _), (by decide : 12 + 0 ≤ _)⟩)
    dsimp only [Pt.U, Pt.locs, Pt.cells, Pt.slots] at X91 l91 y91 z91 st91 hQ91
    subst l91 y91 z91
    obtain ⟨rfl, rfl, e91⟩ := hQ91
    have N91 := Fr.app N90 (Fr.nil n0)
    refine Go.step st91 ?_
    show Go FrameEnd p e below s 16 128 (Q0 Z p1 p2 p3 p4 p5 p6 h0 n0) (T91.setTop (mkF m 176 #[.val (.int p1), .val (.int p2), .val (.int p3), .val (.int p4), .val (.int p5), .val (.int p6), .val (.int (5 : Int32)), .val (.ref b76), .val (.ref b87a)] [(.int (1 : Int32))]))
    refine Go.step (fun _ k => XS.ifNo X91.here hx rfl (hb hby at_176) rfl ((if0 _ _).trans (feq (by decide)).1) k) ?_
    show Go FrameEnd p e below s 16 128 (Q0 Z p1 p2 p3 p4 p5 p6 h0 n0) (T91.setTop (mkF m 179 #[.val (.int p1), .val (.int p2), .val (.int p3), .val (.int p4), .val (.int p5), .val (.int p6), .val (.int (5 : Int32)), .val (.ref b76), .val (.ref b87a)] []))
    refine Go.step (fun _ k => XS.aload X91.here hx rfl (hb hby at_179) rfl rfl k) ?_
    show Go FrameEnd p e below s 16 128 (Q0 Z p1 p2 p3 p4 p5 p6 h0 n0) (T91.setTop (mkF m 181 #[.val (.int p1), .val (.int p2), .val (.int p3), .val (.int p4), .val (.int p5), .val (.int p6), .val (.int (5 : Int32)), .val (.ref b76), .val (.ref b87a)] [(.ref b87a)]))
    refine Go.step (fun _ k => XS.aload X91.here hx rfl (hb hby at_181) rfl rfl k) ?_
    show Go FrameEnd p e below s 16 128 (Q0 Z p1 p2 p3 p4 p5 p6 h0 n0) (T91.setTop (mkF m 183 #[.val (.int p1), .val (.int p2), .val (.int p3), .val (.int p4), .val (.int p5), .val (.int p6), .val (.int (5 : Int32)), .val (.ref b76), .val (.ref b87a)] [(.ref b76), (.ref b87a)]))
    refine Go.step (fun _ k => XS.iconst X91.here hx rfl (hb hby at_183) k) ?_
    show Go FrameEnd p e below s 16 128 (Q0 Z p1 p2 p3 p4 p5 p6 h0 n0) (T91.setTop (mkF m 184 #[.val (.int p1), .val (.int p2), .val (.int p3), .val (.int p4), .val (.int p5), .val (.int p6), .val (.int (5 : Int32)), .val (.ref b76), .val (.ref b87a)] [(.int (2 : Int32)), (.ref b76), (.ref b87a)]))
    obtain ⟨_, _, ⟨T92, L92, k92, n92⟩, -, X92, ⟨Lc92, hQ92, l92, y92, z92⟩, st92⟩ := Jvm.LawKit.callS X91 hx (y := (⟨"example/zedbox/PeriodsOfEachPrefixPinLaw", "ok", "([I[II)Z"⟩ : MethodName)) hown (mvT hZ (hw _ (List.mem_of_getElem? (i := 6) rfl))) (mvT hZ (hw _ (List.mem_of_getElem? (i := 7) rfl))) (mvT hZ (hw _ (List.mem_of_getElem? (i := 8) rfl))) (mvT hZ (hw _ (List.mem_of_getElem? (i := 9) rfl))) (by decide) (backOf (W := 0) (rm2 l Z a0 hw [] b87a b76 (zsel 5 ((p2 &&& (2147483647 : Int32)) % (5 : Int32)) ((p3 &&& (2147483647 : Int32)) % (4 : Int32)) ((p4 &&& (2147483647 : Int32)) % (3 : Int32)) ((p5 &&& (2147483647 : Int32)) % (2 : Int32)) (0 : Int32)) 2 5 T87.heap f_89 xA87_1 (by decide) hz) hZ (hw _ (List.mem_of_getElem? (i := 9) rfl)) (hw _ (List.mem_of_getElem? (i := 8) rfl)) (by decide) (by decide)) (g := (mkF m 184 #[.val (.int p1), .val (.int p2), .val (.int p3), .val (.int p4), .val (.int p5), .val (.int p6), .val (.int (5 : Int32)), .val (.ref b76), .val (.ref b87a)] [(.int (2 : Int32)), (.ref b76), (.ref b87a)])) rfl (by rw [hml]; rfl) (argsL := [(.ref b87a), (.ref b76), (.int (2 : Int32))]) (rest := []) (lenOf pd___I_II_Z rfl) rfl (by show 2 * 0 + _ ≤ _; exact Nat.le_of_eq rfl) (hb hby at_184) (fun _ _ => ⟨rfl, e91, (by decide : 2 + 0 ≤ _), (by decide : 12 + 0 ≤ _)⟩)
    dsimp only [Pt.U, Pt.locs, Pt.cells, Pt.slots] at X92 l92 y92 z92 st92 hQ92
    subst l92 y92 z92
    obtain ⟨rfl, rfl, e92⟩ := hQ92
    have N92 := Fr.app N91 (Fr.nil n0)
    refine Go.step st92 ?_
    show Go FrameEnd p e below s 16 128 (Q0 Z p1 p2 p3 p4 p5 p6 h0 n0) (T92.setTop (mkF m 187 #[.val (.int p1), .val (.int p2), .val (.int p3), .val (.int p4), .val (.int p5), .val (.int p6), .val (.int (5 : Int32)), .val (.ref b76), .val (.ref b87a)] [(.int (1 : Int32))]))
    refine Go.step (fun _ k => XS.ifNo X92.here hx rfl (hb hby at_187) rfl ((if0 _ _).trans (feq (by decide)).1) k) ?_
    show Go FrameEnd p e below s 16 128 (Q0 Z p1 p2 p3 p4 p5 p6 h0 n0) (T92.setTop (mkF m 190 #[.val (.int p1), .val (.int p2), .val (.int p3), .val (.int p4), .val (.int p5), .val (.int p6), .val (.int (5 : Int32)), .val (.ref b76), .val (.ref b87a)] []))
    refine Go.step (fun _ k => XS.aload X92.here hx rfl (hb hby at_190) rfl rfl k) ?_
    show Go FrameEnd p e below s 16 128 (Q0 Z p1 p2 p3 p4 p5 p6 h0 n0) (T92.setTop (mkF m 192 #[.val (.int p1), .val (.int p2), .val (.int p3), .val (.int p4), .val (.int p5), .val (.int p6), .val (.int (5 : Int32)), .val (.ref b76), .val (.ref b87a)] [(.ref b87a)]))
    refine Go.step (fun _ k => XS.aload X92.here hx rfl (hb hby at_192) rfl rfl k) ?_
    show Go FrameEnd p e below s 16 128 (Q0 Z p1 p2 p3 p4 p5 p6 h0 n0) (T92.setTop (mkF m 194 #[.val (.int p1), .val (.int p2), .val (.int p3), .val (.int p4), .val (.int p5), .val (.int p6), .val (.int (5 : Int32)), .val (.ref b76), .val (.ref b87a)] [(.ref b76), (.ref b87a)]))
    refine Go.step (fun _ k => XS.iconst X92.here hx rfl (hb hby at_194) k) ?_
    show Go FrameEnd p e below s 16 128 (Q0 Z p1 p2 p3 p4 p5 p6 h0 n0) (T92.setTop (mkF m 195 #[.val (.int p1), .val (.int p2), .val (.int p3), .val (.int p4), .val (.int p5), .val (.int p6), .val (.int (5 : Int32)), .val (.ref b76), .val (.ref b87a)] [(.int (3 : Int32)), (.ref b76), (.ref b87a)]))
    obtain ⟨_, _, ⟨T93, L93, k93, n93⟩, -, X93, ⟨Lc93, hQ93, l93, y93, z93⟩, st93⟩ := Jvm.LawKit.callS X92 hx (y := (⟨"example/zedbox/PeriodsOfEachPrefixPinLaw", "ok", "([I[II)Z"⟩ : MethodName)) hown (mvT hZ (hw _ (List.mem_of_getElem? (i := 6) rfl))) (mvT hZ (hw _ (List.mem_of_getElem? (i := 7) rfl))) (mvT hZ (hw _ (List.mem_of_getElem? (i := 8) rfl))) (mvT hZ (hw _ (List.mem_of_getElem? (i := 9) rfl))) (by decide) (backOf (W := 0) (rm2 l Z a0 hw [] b87a b76 (zsel 5 ((p2 &&& (2147483647 : Int32)) % (5 : Int32)) ((p3 &&& (2147483647 : Int32)) % (4 : Int32)) ((p4 &&& (2147483647 : Int32)) % (3 : Int32)) ((p5 &&& (2147483647 : Int32)) % (2 : Int32)) (0 : Int32)) 3 5 T87.heap f_89 xA87_1 (by decide) hz) hZ (hw _ (List.mem_of_getElem? (i := 9) rfl)) (hw _ (List.mem_of_getElem? (i := 8) rfl)) (by decide) (by decide)) (g := (mkF m 195 #[.val (.int p1), .val (.int p2), .val (.int p3), .val (.int p4), .val (.int p5), .val (.int p6), .val (.int (5 : Int32)), .val (.ref b76), .val (.ref b87a)] [(.int (3 : Int32)), (.ref b76), (.ref b87a)])) rfl (by rw [hml]; rfl) (argsL := [(.ref b87a), (.ref b76), (.int (3 : Int32))]) (rest := []) (lenOf pd___I_II_Z rfl) rfl (by show 2 * 0 + _ ≤ _; exact Nat.le_of_eq rfl) (hb hby at_195) (fun _ _ => ⟨rfl, e92, (by decide : 2 + 0 ≤ _), (by decide : 12 + 0 ≤ _)⟩)
    dsimp only [Pt.U, Pt.locs, Pt.cells, Pt.slots] at X93 l93 y93 z93 st93 hQ93
    subst l93 y93 z93
    obtain ⟨rfl, rfl, e93⟩ := hQ93
    have N93 := Fr.app N92 (Fr.nil n0)
    refine Go.step st93 ?_
    show Go FrameEnd p e below s 16 128 (Q0 Z p1 p2 p3 p4 p5 p6 h0 n0) (T93.setTop (mkF m 198 #[.val (.int p1), .val (.int p2), .val (.int p3), .val (.int p4), .val (.int p5), .val (.int p6), .val (.int (5 : Int32)), .val (.ref b76), .val (.ref b87a)] [(.int (1 : Int32))]))
    refine Go.step (fun _ k => XS.ifNo X93.here hx rfl (hb hby at_198) rfl ((if0 _ _).trans (feq (by decide)).1) k) ?_
    show Go FrameEnd p e below s 16 128 (Q0 Z p1 p2 p3 p4 p5 p6 h0 n0) (T93.setTop (mkF m 201 #[.val (.int p1), .val (.int p2), .val (.int p3), .val (.int p4), .val (.int p5), .val (.int p6), .val (.int (5 : Int32)), .val (.ref b76), .val (.ref b87a)] []))
    refine Go.step (fun _ k => XS.aload X93.here hx rfl (hb hby at_201) rfl rfl k) ?_
    show Go FrameEnd p e below s 16 128 (Q0 Z p1 p2 p3 p4 p5 p6 h0 n0) (T93.setTop (mkF m 203 #[.val (.int p1), .val (.int p2), .val (.int p3), .val (.int p4), .val (.int p5), .val (.int p6), .val (.int (5 : Int32)), .val (.ref b76), .val (.ref b87a)] [(.ref b87a)]))
    refine Go.step (fun _ k => XS.aload X93.here hx rfl (hb hby at_203) rfl rfl k) ?_
    show Go FrameEnd p e below s 16 128 (Q0 Z p1 p2 p3 p4 p5 p6 h0 n0) (T93.setTop (mkF m 205 #[.val (.int p1), .val (.int p2), .val (.int p3), .val (.int p4), .val (.int p5), .val (.int p6), .val (.int (5 : Int32)), .val (.ref b76), .val (.ref b87a)] [(.ref b76), (.ref b87a)]))
    refine Go.step (fun _ k => XS.iconst X93.here hx rfl (hb hby at_205) k) ?_
    show Go FrameEnd p e below s 16 128 (Q0 Z p1 p2 p3 p4 p5 p6 h0 n0) (T93.setTop (mkF m 206 #[.val (.int p1), .val (.int p2), .val (.int p3), .val (.int p4), .val (.int p5), .val (.int p6), .val (.int (5 : Int32)), .val (.ref b76), .val (.ref b87a)] [(.int (4 : Int32)), (.ref b76), (.ref b87a)]))
    obtain ⟨_, _, ⟨T94, L94, k94, n94⟩, -, X94, ⟨Lc94, hQ94, l94, y94, z94⟩, st94⟩ := Jvm.LawKit.callS X93 hx (y := (⟨"example/zedbox/PeriodsOfEachPrefixPinLaw", "ok", "([I[II)Z"⟩ : MethodName)) hown (mvT hZ (hw _ (List.mem_of_getElem? (i := 6) rfl))) (mvT hZ (hw _ (List.mem_of_getElem? (i := 7) rfl))) (mvT hZ (hw _ (List.mem_of_getElem? (i := 8) rfl))) (mvT hZ (hw _ (List.mem_of_getElem? (i := 9) rfl))) (by decide) (backOf (W := 0) (rm2 l Z a0 hw [] b87a b76 (zsel 5 ((p2 &&& (2147483647 : Int32)) % (5 : Int32)) ((p3 &&& (2147483647 : Int32)) % (4 : Int32)) ((p4 &&& (2147483647 : Int32)) % (3 : Int32)) ((p5 &&& (2147483647 : Int32)) % (2 : Int32)) (0 : Int32)) 4 5 T87.heap f_89 xA87_1 (by decide) hz) hZ (hw _ (List.mem_of_getElem? (i := 9) rfl)) (hw _ (List.mem_of_getElem? (i := 8) rfl)) (by decide) (by decide)) (g := (mkF m 206 #[.val (.int p1), .val (.int p2), .val (.int p3), .val (.int p4), .val (.int p5), .val (.int p6), .val (.int (5 : Int32)), .val (.ref b76), .val (.ref b87a)] [(.int (4 : Int32)), (.ref b76), (.ref b87a)])) rfl (by rw [hml]; rfl) (argsL := [(.ref b87a), (.ref b76), (.int (4 : Int32))]) (rest := []) (lenOf pd___I_II_Z rfl) rfl (by show 2 * 0 + _ ≤ _; exact Nat.le_of_eq rfl) (hb hby at_206) (fun _ _ => ⟨rfl, e93, (by decide : 2 + 0 ≤ _), (by decide : 12 + 0 ≤ _)⟩)
    dsimp only [Pt.U, Pt.locs, Pt.cells, Pt.slots] at X94 l94 y94 z94 st94 hQ94
    subst l94 y94 z94
    obtain ⟨rfl, rfl, e94⟩ := hQ94
    have N94 := Fr.app N93 (Fr.nil n0)
    refine Go.step st94 ?_
    show Go FrameEnd p e below s 16 128 (Q0 Z p1 p2 p3 p4 p5 p6 h0 n0) (T94.setTop (mkF m 209 #[.val (.int p1), .val (.int p2), .val (.int p3), .val (.int p4), .val (.int p5), .val (.int p6), .val (.int (5 : Int32)), .val (.ref b76), .val (.ref b87a)] [(.int (1 : Int32))]))
    refine Go.step (fun _ k => XS.ifNo X94.here hx rfl (hb hby at_209) rfl ((if0 _ _).trans (feq (by decide)).1) k) ?_
    show Go FrameEnd p e below s 16 128 (Q0 Z p1 p2 p3 p4 p5 p6 h0 n0) (T94.setTop (mkF m 212 #[.val (.int p1), .val (.int p2), .val (.int p3), .val (.int p4), .val (.int p5), .val (.int p6), .val (.int (5 : Int32)), .val (.ref b76), .val (.ref b87a)] []))
    refine Go.step (fun _ k => XS.aload X94.here hx rfl (hb hby at_212) rfl rfl k) ?_
    show Go FrameEnd p e below s 16 128 (Q0 Z p1 p2 p3 p4 p5 p6 h0 n0) (T94.setTop (mkF m 214 #[.val (.int p1), .val (.int p2), .val (.int p3), .val (.int p4), .val (.int p5), .val (.int p6), .val (.int (5 : Int32)), .val (.ref b76), .val (.ref b87a)] [(.ref b87a)]))
    refine Go.step (fun _ k => XS.aload X94.here hx rfl (hb hby at_214) rfl rfl k) ?_
    show Go FrameEnd p e below s 16 128 (Q0 Z p1 p2 p3 p4 p5 p6 h0 n0) (T94.setTop (mkF m 216 #[.val (.int p1), .val (.int p2), .val (.int p3), .val (.int p4), .val (.int p5), .val (.int p6), .val (.int (5 : Int32)), .val (.ref b76), .val (.ref b87a)] [(.ref b76), (.ref b87a)]))
    refine Go.step (fun _ k => XS.iconst X94.here hx rfl (hb hby at_216) k) ?_
    show Go FrameEnd p e below s 16 128 (Q0 Z p1 p2 p3 p4 p5 p6 h0 n0) (T94.setTop (mkF m 217 #[.val (.int p1), .val (.int p2), .val (.int p3), .val (.int p4), .val (.int p5), .val (.int p6), .val (.int (5 : Int32)), .val (.ref b76), .val (.ref b87a)] [(.int (5 : Int32)), (.ref b76), (.ref b87a)]))
    obtain ⟨_, _, ⟨T95, L95, k95, n95⟩, -, X95, ⟨Lc95, hQ95, l95, y95, z95⟩, st95⟩ := Jvm.LawKit.callS X94 hx (y := (⟨"example/zedbox/PeriodsOfEachPrefixPinLaw", "ok", "([I[II)Z"⟩ : MethodName)) hown (mvT hZ (hw _ (List.mem_of_getElem? (i := 6) rfl))) (mvT hZ (hw _ (List.mem_of_getElem? (i := 7) rfl))) (mvT hZ (hw _ (List.mem_of_getElem? (i := 8) rfl))) (mvT hZ (hw _ (List.mem_of_getElem? (i := 9) rfl))) (by decide) (backOf (W := 0) (rm2 l Z a0 hw [] b87a b76 (zsel 5 ((p2 &&& (2147483647 : Int32)) % (5 : Int32)) ((p3 &&& (2147483647 : Int32)) % (4 : Int32)) ((p4 &&& (2147483647 : Int32)) % (3 : Int32)) ((p5 &&& (2147483647 : Int32)) % (2 : Int32)) (0 : Int32)) 5 5 T87.heap f_89 xA87_1 (by decide) hz) hZ (hw _ (List.mem_of_getElem? (i := 9) rfl)) (hw _ (List.mem_of_getElem? (i := 8) rfl)) (by decide) (by decide)) (g := (mkF m 217 #[.val (.int p1), .val (.int p2), .val (.int p3), .val (.int p4), .val (.int p5), .val (.int p6), .val (.int (5 : Int32)), .val (.ref b76), .val (.ref b87a)] [(.int (5 : Int32)), (.ref b76), (.ref b87a)])) rfl (by rw [hml]; rfl) (argsL := [(.ref b87a), (.ref b76), (.int (5 : Int32))]) (rest := []) (lenOf pd___I_II_Z rfl) rfl (by show 2 * 0 + _ ≤ _; exact Nat.le_of_eq rfl) (hb hby at_217) (fun _ _ => ⟨rfl, e94, (by decide : 2 + 0 ≤ _), (by decide : 12 + 0 ≤ _)⟩)
    dsimp only [Pt.U, Pt.locs, Pt.cells, Pt.slots] at X95 l95 y95 z95 st95 hQ95
    subst l95 y95 z95
    obtain ⟨rfl, rfl, e95⟩ := hQ95
    have N95 := Fr.app N94 (Fr.nil n0)
    refine Go.step st95 ?_
    show Go FrameEnd p e below s 16 128 (Q0 Z p1 p2 p3 p4 p5 p6 h0 n0) (T95.setTop (mkF m 220 #[.val (.int p1), .val (.int p2), .val (.int p3), .val (.int p4), .val (.int p5), .val (.int p6), .val (.int (5 : Int32)), .val (.ref b76), .val (.ref b87a)] [(.int (1 : Int32))]))
    refine Go.step (fun _ k => XS.ifNo X95.here hx rfl (hb hby at_220) rfl ((if0 _ _).trans (feq (by decide)).1) k) ?_
    show Go FrameEnd p e below s 16 128 (Q0 Z p1 p2 p3 p4 p5 p6 h0 n0) (T95.setTop (mkF m 223 #[.val (.int p1), .val (.int p2), .val (.int p3), .val (.int p4), .val (.int p5), .val (.int p6), .val (.int (5 : Int32)), .val (.ref b76), .val (.ref b87a)] []))
    refine Go.step (fun _ k => XS.aload X95.here hx rfl (hb hby at_223) rfl rfl k) ?_
    show Go FrameEnd p e below s 16 128 (Q0 Z p1 p2 p3 p4 p5 p6 h0 n0) (T95.setTop (mkF m 225 #[.val (.int p1), .val (.int p2), .val (.int p3), .val (.int p4), .val (.int p5), .val (.int p6), .val (.int (5 : Int32)), .val (.ref b76), .val (.ref b87a)] [(.ref b87a)]))
    refine Go.step (fun _ k => XS.aload X95.here hx rfl (hb hby at_225) rfl rfl k) ?_
    show Go FrameEnd p e below s 16 128 (Q0 Z p1 p2 p3 p4 p5 p6 h0 n0) (T95.setTop (mkF m 227 #[.val (.int p1), .val (.int p2), .val (.int p3), .val (.int p4), .val (.int p5), .val (.int p6), .val (.int (5 : Int32)), .val (.ref b76), .val (.ref b87a)] [(.ref b76), (.ref b87a)]))
    refine Go.step (fun _ k => XS.bipush X95.here hx rfl (hb hby at_227) k) ?_
    show Go FrameEnd p e below s 16 128 (Q0 Z p1 p2 p3 p4 p5 p6 h0 n0) (T95.setTop (mkF m 229 #[.val (.int p1), .val (.int p2), .val (.int p3), .val (.int p4), .val (.int p5), .val (.int p6), .val (.int (5 : Int32)), .val (.ref b76), .val (.ref b87a)] [(.int (6 : Int32)), (.ref b76), (.ref b87a)]))
    obtain ⟨_, _, ⟨T96, L96, k96, n96⟩, -, X96, ⟨Lc96, hQ96, l96, y96, z96⟩, st96⟩ := Jvm.LawKit.callS X95 hx (y := (⟨"example/zedbox/PeriodsOfEachPrefixPinLaw", "ok", "([I[II)Z"⟩ : MethodName)) hown (mvT hZ (hw _ (List.mem_of_getElem? (i := 6) rfl))) (mvT hZ (hw _ (List.mem_of_getElem? (i := 7) rfl))) (mvT hZ (hw _ (List.mem_of_getElem? (i := 8) rfl))) (mvT hZ (hw _ (List.mem_of_getElem? (i := 9) rfl))) (by decide) (backOf (W := 0) (rm2 l Z a0 hw [] b87a b76 (zsel 5 ((p2 &&& (2147483647 : Int32)) % (5 : Int32)) ((p3 &&& (2147483647 : Int32)) % (4 : Int32)) ((p4 &&& (2147483647 : Int32)) % (3 : Int32)) ((p5 &&& (2147483647 : Int32)) % (2 : Int32)) (0 : Int32)) 6 5 T87.heap f_89 xA87_1 (by decide) hz) hZ (hw _ (List.mem_of_getElem? (i := 9) rfl)) (hw _ (List.mem_of_getElem? (i := 8) rfl)) (by decide) (by decide)) (g := (mkF m 229 #[.val (.int p1), .val (.int p2), .val (.int p3), .val (.int p4), .val (.int p5), .val (.int p6), .val (.int (5 : Int32)), .val (.ref b76), .val (.ref b87a)] [(.int (6 : Int32)), (.ref b76), (.ref b87a)])) rfl (by rw [hml]; rfl) (argsL := [(.ref b87a), (.ref b76), (.int (6 : Int32))]) (rest := []) (lenOf pd___I_II_Z rfl) rfl (by show 2 * 0 + _ ≤ _; exact Nat.le_of_eq rfl) (hb hby at_229) (fun _ _ => ⟨rfl, e95, (by decide : 2 + 0 ≤ _), (by decide : 12 + 0 ≤ _)⟩)
    dsimp only [Pt.U, Pt.locs, Pt.cells, Pt.slots] at X96 l96 y96 z96 st96 hQ96
    subst l96 y96 z96
    obtain ⟨rfl, rfl, e96⟩ := hQ96
    have N96 := Fr.app N95 (Fr.nil n0)
    refine Go.step st96 ?_
    show Go FrameEnd p e below s 16 128 (Q0 Z p1 p2 p3 p4 p5 p6 h0 n0) (T96.setTop (mkF m 232 #[.val (.int p1), .val (.int p2), .val (.int p3), .val (.int p4), .val (.int p5), .val (.int p6), .val (.int (5 : Int32)), .val (.ref b76), .val (.ref b87a)] [(.int (1 : Int32))]))
    refine Go.step (fun _ k => XS.ifNo X96.here hx rfl (hb hby at_232) rfl ((if0 _ _).trans (feq (by decide)).1) k) ?_
    show Go FrameEnd p e below s 16 128 (Q0 Z p1 p2 p3 p4 p5 p6 h0 n0) (T96.setTop (mkF m 235 #[.val (.int p1), .val (.int p2), .val (.int p3), .val (.int p4), .val (.int p5), .val (.int p6), .val (.int (5 : Int32)), .val (.ref b76), .val (.ref b87a)] []))
    refine Go.step (fun _ k => XS.iconst X96.here hx rfl (hb hby at_235) k) ?_
    show Go FrameEnd p e below s 16 128 (Q0 Z p1 p2 p3 p4 p5 p6 h0 n0) (T96.setTop (mkF m 236 #[.val (.int p1), .val (.int p2), .val (.int p3), .val (.int p4), .val (.int p5), .val (.int p6), .val (.int (5 : Int32)), .val (.ref b76), .val (.ref b87a)] [(.int (1 : Int32))]))
    refine Go.step (fun _ k => XS.goto X96.here hx rfl (pc0 := 236) (pc' := 240) rfl (hb hby at_236) (by decide) (by decide) k) ?_
    show Go FrameEnd p e below s 16 128 (Q0 Z p1 p2 p3 p4 p5 p6 h0 n0) (T96.setTop (mkF m 240 #[.val (.int p1), .val (.int p2), .val (.int p3), .val (.int p4), .val (.int p5), .val (.int p6), .val (.int (5 : Int32)), .val (.ref b76), .val (.ref b87a)] [(.int (1 : Int32))]))
    refine Go.retN X96 hx (t := .boolean) Bd.returns (by simp) (by decide) (hb hby at_240) (BodyLoose.notSynchronized Bd) e96 (by decide) (by decide) ?_
    exact ⟨rfl, N96⟩
  · skip
    rw [q]
    show Go FrameEnd p e below s 16 128 (Q0 Z p1 p2 p3 p4 p5 p6 h0 n0) (s₁.setTop (mkF m 7 #[.val (.int p1), .val (.int p2), .val (.int p3), .val (.int p4), .val (.int p5), .val (.int p6), .unset, .unset, .unset] [(.int (6 : Int32))]))
    refine Go.step (fun _ k => XS.istore X0.here hx rfl (hb hby at_7) rfl (l' := #[.val (.int p1), .val (.int p2), .val (.int p3), .val (.int p4), .val (.int p5), .val (.int p6), .val (.int (6 : Int32)), .unset, .unset]) rfl k) ?_
    show Go FrameEnd p e below s 16 128 (Q0 Z p1 p2 p3 p4 p5 p6 h0 n0) (s₁.setTop (mkF m 9 #[.val (.int p1), .val (.int p2), .val (.int p3), .val (.int p4), .val (.int p5), .val (.int p6), .val (.int (6 : Int32)), .unset, .unset] []))
    refine Go.step (fun _ k => XS.iload X0.here hx rfl (hb hby at_9) rfl k) ?_
    show Go FrameEnd p e below s 16 128 (Q0 Z p1 p2 p3 p4 p5 p6 h0 n0) (s₁.setTop (mkF m 11 #[.val (.int p1), .val (.int p2), .val (.int p3), .val (.int p4), .val (.int p5), .val (.int p6), .val (.int (6 : Int32)), .unset, .unset] [(.int (6 : Int32))]))
    obtain ⟨T97, h97, k97, X97, e97, E97, A97, st97⟩ := newP X0 hx hZ (hw _ (List.mem_of_getElem? (i := 1) rfl)) e0 (g := (mkF m 11 #[.val (.int p1), .val (.int p2), .val (.int p3), .val (.int p4), .val (.int p5), .val (.int p6), .val (.int (6 : Int32)), .unset, .unset] [(.int (6 : Int32))])) rfl (hb hby at_11) rfl (by decide) (cap := 6) (by decide) (by decide) (by decide) (by decide)
    refine Go.step st97 ?_
    obtain ⟨b97, g97⟩ : ∃ z, z = h0.size := ⟨_, rfl⟩
    rw [← g97] at A97 ⊢
    have g_b97 : n0 ≤ b97 := Nat.le_trans Z0 (Nat.le_of_eq g97.symm)
    have Z97 : n0 ≤ h97.size := Nat.le_trans Z0 E97.1
    have V97 : Av Z h97 b97 .int 6 (fun _ => (.int (0 : Int32))) := Av.new A97 (by decide) rfl
    show Go FrameEnd p e below s 16 128 (Q0 Z p1 p2 p3 p4 p5 p6 h0 n0) (T97.setTop (mkF m 13 #[.val (.int p1), .val (.int p2), .val (.int p3), .val (.int p4), .val (.int p5), .val (.int p6), .val (.int (6 : Int32)), .unset, .unset] [(.ref b97)]))
    refine Go.step (fun _ k => XS.astore X97.here hx rfl (hb hby at_13) rfl rfl (l' := #[.val (.int p1), .val (.int p2), .val (.int p3), .val (.int p4), .val (.int p5), .val (.int p6), .val (.int (6 : Int32)), .val (.ref b97), .unset]) rfl k) ?_
    show Go FrameEnd p e below s 16 128 (Q0 Z p1 p2 p3 p4 p5 p6 h0 n0) (T97.setTop (mkF m 15 #[.val (.int p1), .val (.int p2), .val (.int p3), .val (.int p4), .val (.int p5), .val (.int p6), .val (.int (6 : Int32)), .val (.ref b97), .unset] []))
    refine Go.step (fun _ k => XS.iload X97.here hx rfl (hb hby at_15) rfl k) ?_
    show Go FrameEnd p e below s 16 128 (Q0 Z p1 p2 p3 p4 p5 p6 h0 n0) (T97.setTop (mkF m 17 #[.val (.int p1), .val (.int p2), .val (.int p3), .val (.int p4), .val (.int p5), .val (.int p6), .val (.int (6 : Int32)), .val (.ref b97), .unset] [(.int (6 : Int32))]))
    refine Go.step (fun _ k => XS.ifNo X97.here hx rfl (hb hby at_17) rfl ((if0 _ _).trans (tlt (by decide)).2.2.2) k) ?_
    show Go FrameEnd p e below s 16 128 (Q0 Z p1 p2 p3 p4 p5 p6 h0 n0) (T97.setTop (mkF m 20 #[.val (.int p1), .val (.int p2), .val (.int p3), .val (.int p4), .val (.int p5), .val (.int p6), .val (.int (6 : Int32)), .val (.ref b97), .unset] []))
    refine Go.step (fun _ k => XS.aload X97.here hx rfl (hb hby at_20) rfl rfl k) ?_
    show Go FrameEnd p e below s 16 128 (Q0 Z p1 p2 p3 p4 p5 p6 h0 n0) (T97.setTop (mkF m 22 #[.val (.int p1), .val (.int p2), .val (.int p3), .val (.int p4), .val (.int p5), .val (.int p6), .val (.int (6 : Int32)), .val (.ref b97), .unset] [(.ref b97)]))
    refine Go.step (fun _ k => XS.iconst X97.here hx rfl (hb hby at_22) k) ?_
    show Go FrameEnd p e below s 16 128 (Q0 Z p1 p2 p3 p4 p5 p6 h0 n0) (T97.setTop (mkF m 23 #[.val (.int p1), .val (.int p2), .val (.int p3), .val (.int p4), .val (.int p5), .val (.int p6), .val (.int (6 : Int32)), .val (.ref b97), .unset] [(.int (0 : Int32)), (.ref b97)]))
    refine Go.step (fun _ k => XS.iload X97.here hx rfl (hb hby at_23) rfl k) ?_
    show Go FrameEnd p e below s 16 128 (Q0 Z p1 p2 p3 p4 p5 p6 h0 n0) (T97.setTop (mkF m 25 #[.val (.int p1), .val (.int p2), .val (.int p3), .val (.int p4), .val (.int p5), .val (.int p6), .val (.int (6 : Int32)), .val (.ref b97), .unset] [(.int (6 : Int32)), (.int (0 : Int32)), (.ref b97)]))
    obtain ⟨c98, Ac98, Sc98, Mc98, Gc98⟩ := id V97
    obtain ⟨T99, h99, X99, e99, W99, st99⟩ := stI X97 hx hZ e97 Ac98 (j := (0 : Int32)) (own_in Sc98 (by decide) (by decide)) (g := (mkF m 25 #[.val (.int p1), .val (.int p2), .val (.int p3), .val (.int p4), .val (.int p5), .val (.int p6), .val (.int (6 : Int32)), .val (.ref b97), .unset] [(.int (6 : Int32)), (.int (0 : Int32)), (.ref b97)])) rfl rfl (hb hby at_25)
    refine Go.step st99 ?_
    have N99 := Fr.snoc X99 N0 g_b97
    have Z99 : n0 ≤ h99.size := Nat.le_trans Z97 (Keep.of_wr W99).1
    have V99 : Av Z h99 b97 .int 6 (aset (fun _ => (.int (0 : Int32))) 0 (.int (6 : Int32))) := Av.set Ac98 Sc98 Mc98 Gc98 W99 (by rfl) (own_in Sc98 (by decide) (by decide))
    show Go FrameEnd p e below s 16 128 (Q0 Z p1 p2 p3 p4 p5 p6 h0 n0) (T99.setTop (mkF m 26 #[.val (.int p1), .val (.int p2), .val (.int p3), .val (.int p4), .val (.int p5), .val (.int p6), .val (.int (6 : Int32)), .val (.ref b97), .unset] []))
    refine Go.step (fun _ k => XS.iload X99.here hx rfl (hb hby at_26) rfl k) ?_
    show Go FrameEnd p e below s 16 128 (Q0 Z p1 p2 p3 p4 p5 p6 h0 n0) (T99.setTop (mkF m 28 #[.val (.int p1), .val (.int p2), .val (.int p3), .val (.int p4), .val (.int p5), .val (.int p6), .val (.int (6 : Int32)), .val (.ref b97), .unset] [(.int (6 : Int32))]))
    refine Go.step (fun _ k => XS.iconst X99.here hx rfl (hb hby at_28) k) ?_
    show Go FrameEnd p e below s 16 128 (Q0 Z p1 p2 p3 p4 p5 p6 h0 n0) (T99.setTop (mkF m 29 #[.val (.int p1), .val (.int p2), .val (.int p3), .val (.int p4), .val (.int p5), .val (.int p6), .val (.int (6 : Int32)), .val (.ref b97), .unset] [(.int (1 : Int32)), (.int (6 : Int32))]))
    refine Go.step (fun _ k => XS.icmpNo X99.here hx rfl (hb hby at_29) rfl (tlt (by decide)).2.2.2 k) ?_
    show Go FrameEnd p e below s 16 128 (Q0 Z p1 p2 p3 p4 p5 p6 h0 n0) (T99.setTop (mkF m 32 #[.val (.int p1), .val (.int p2), .val (.int p3), .val (.int p4), .val (.int p5), .val (.int p6), .val (.int (6 : Int32)), .val (.ref b97), .unset] []))
    refine Go.step (fun _ k => XS.aload X99.here hx rfl (hb hby at_32) rfl rfl k) ?_
    show Go FrameEnd p e below s 16 128 (Q0 Z p1 p2 p3 p4 p5 p6 h0 n0) (T99.setTop (mkF m 34 #[.val (.int p1), .val (.int p2), .val (.int p3), .val (.int p4), .val (.int p5), .val (.int p6), .val (.int (6 : Int32)), .val (.ref b97), .unset] [(.ref b97)]))
    refine Go.step (fun _ k => XS.iconst X99.here hx rfl (hb hby at_34) k) ?_
    show Go FrameEnd p e below s 16 128 (Q0 Z p1 p2 p3 p4 p5 p6 h0 n0) (T99.setTop (mkF m 35 #[.val (.int p1), .val (.int p2), .val (.int p3), .val (.int p4), .val (.int p5), .val (.int p6), .val (.int (6 : Int32)), .val (.ref b97), .unset] [(.int (1 : Int32)), (.ref b97)]))
    refine Go.step (fun _ k => XS.iloadN X99.here hx rfl (hb hby at_35) rfl k) ?_
    show Go FrameEnd p e below s 16 128 (Q0 Z p1 p2 p3 p4 p5 p6 h0 n0) (T99.setTop (mkF m 36 #[.val (.int p1), .val (.int p2), .val (.int p3), .val (.int p4), .val (.int p5), .val (.int p6), .val (.int (6 : Int32)), .val (.ref b97), .unset] [(.int p2), (.int (1 : Int32)), (.ref b97)]))
    refine Go.step (X99.ldcInt hx hown (mvT hZ (hw _ (List.mem_of_getElem? (i := 0) rfl))) (g := (mkF m 36 #[.val (.int p1), .val (.int p2), .val (.int p3), .val (.int p4), .val (.int p5), .val (.int p6), .val (.int (6 : Int32)), .val (.ref b97), .unset] [(.int p2), (.int (1 : Int32)), (.ref b97)])) rfl (hb hby at_36)) ?_
    show Go FrameEnd p e below s 16 128 (Q0 Z p1 p2 p3 p4 p5 p6 h0 n0) (T99.setTop (mkF m 38 #[.val (.int p1), .val (.int p2), .val (.int p3), .val (.int p4), .val (.int p5), .val (.int p6), .val (.int (6 : Int32)), .val (.ref b97), .unset] [(.int (2147483647 : Int32)), (.int p2), (.int (1 : Int32)), (.ref b97)]))
    refine Go.step (fun _ k => XS.iand X99.here hx rfl (hb hby at_38) rfl k) ?_
    show Go FrameEnd p e below s 16 128 (Q0 Z p1 p2 p3 p4 p5 p6 h0 n0) (T99.setTop (mkF m 39 #[.val (.int p1), .val (.int p2), .val (.int p3), .val (.int p4), .val (.int p5), .val (.int p6), .val (.int (6 : Int32)), .val (.ref b97), .unset] [(.int (p2 &&& (2147483647 : Int32))), (.int (1 : Int32)), (.ref b97)]))
    refine Go.step (fun _ k => XS.iload X99.here hx rfl (hb hby at_39) rfl k) ?_
    show Go FrameEnd p e below s 16 128 (Q0 Z p1 p2 p3 p4 p5 p6 h0 n0) (T99.setTop (mkF m 41 #[.val (.int p1), .val (.int p2), .val (.int p3), .val (.int p4), .val (.int p5), .val (.int p6), .val (.int (6 : Int32)), .val (.ref b97), .unset] [(.int (6 : Int32)), (.int (p2 &&& (2147483647 : Int32))), (.int (1 : Int32)), (.ref b97)]))
    refine Go.step (fun _ k => XS.iconst X99.here hx rfl (hb hby at_41) k) ?_
    show Go FrameEnd p e below s 16 128 (Q0 Z p1 p2 p3 p4 p5 p6 h0 n0) (T99.setTop (mkF m 42 #[.val (.int p1), .val (.int p2), .val (.int p3), .val (.int p4), .val (.int p5), .val (.int p6), .val (.int (6 : Int32)), .val (.ref b97), .unset] [(.int (1 : Int32)), (.int (6 : Int32)), (.int (p2 &&& (2147483647 : Int32))), (.int (1 : Int32)), (.ref b97)]))
    refine Go.step (fun _ k => XS.isub X99.here hx rfl (hb hby at_42) rfl k) ?_
    show Go FrameEnd p e below s 16 128 (Q0 Z p1 p2 p3 p4 p5 p6 h0 n0) (T99.setTop (mkF m 43 #[.val (.int p1), .val (.int p2), .val (.int p3), .val (.int p4), .val (.int p5), .val (.int p6), .val (.int (6 : Int32)), .val (.ref b97), .unset] [(.int (5 : Int32)), (.int (p2 &&& (2147483647 : Int32))), (.int (1 : Int32)), (.ref b97)]))
    refine Go.step (fun _ k => XS.iconst X99.here hx rfl (hb hby at_43) k) ?_
    show Go FrameEnd p e below s 16 128 (Q0 Z p1 p2 p3 p4 p5 p6 h0 n0) (T99.setTop (mkF m 44 #[.val (.int p1), .val (.int p2), .val (.int p3), .val (.int p4), .val (.int p5), .val (.int p6), .val (.int (6 : Int32)), .val (.ref b97), .unset] [(.int (1 : Int32)), (.int (5 : Int32)), (.int (p2 &&& (2147483647 : Int32))), (.int (1 : Int32)), (.ref b97)]))
    refine Go.step (fun _ k => XS.iadd X99.here hx rfl (hb hby at_44) rfl k) ?_
    show Go FrameEnd p e below s 16 128 (Q0 Z p1 p2 p3 p4 p5 p6 h0 n0) (T99.setTop (mkF m 45 #[.val (.int p1), .val (.int p2), .val (.int p3), .val (.int p4), .val (.int p5), .val (.int p6), .val (.int (6 : Int32)), .val (.ref b97), .unset] [(.int (6 : Int32)), (.int (p2 &&& (2147483647 : Int32))), (.int (1 : Int32)), (.ref b97)]))
    refine Go.step (fun _ k => iremM X99 hx rfl (hb hby at_45) rfl (by decide) k) ?_
    show Go FrameEnd p e below s 16 128 (Q0 Z p1 p2 p3 p4 p5 p6 h0 n0) (T99.setTop (mkF m 46 #[.val (.int p1), .val (.int p2), .val (.int p3), .val (.int p4), .val (.int p5), .val (.int p6), .val (.int (6 : Int32)), .val (.ref b97), .unset] [(.int ((p2 &&& (2147483647 : Int32)) % (6 : Int32))), (.int (1 : Int32)), (.ref b97)]))
    obtain ⟨c100, Ac100, Sc100, Mc100, Gc100⟩ := id V99
    obtain ⟨T101, h101, X101, e101, W101, st101⟩ := stI X99 hx hZ e99 Ac100 (j := (1 : Int32)) (own_in Sc100 (by decide) (by decide)) (g := (mkF m 46 #[.val (.int p1), .val (.int p2), .val (.int p3), .val (.int p4), .val (.int p5), .val (.int p6), .val (.int (6 : Int32)), .val (.ref b97), .unset] [(.int ((p2 &&& (2147483647 : Int32)) % (6 : Int32))), (.int (1 : Int32)), (.ref b97)])) rfl rfl (hb hby at_46)
    refine Go.step st101 ?_
    have N101 := Fr.snoc X101 N99 g_b97
    have Z101 : n0 ≤ h101.size := Nat.le_trans Z99 (Keep.of_wr W101).1
    have V101 : Av Z h101 b97 .int 6 (aset (aset (fun _ => (.int (0 : Int32))) 0 (.int (6 : Int32))) 1 (.int ((p2 &&& (2147483647 : Int32)) % (6 : Int32)))) := Av.set Ac100 Sc100 Mc100 Gc100 W101 (by rfl) (own_in Sc100 (by decide) (by decide))
    show Go FrameEnd p e below s 16 128 (Q0 Z p1 p2 p3 p4 p5 p6 h0 n0) (T101.setTop (mkF m 47 #[.val (.int p1), .val (.int p2), .val (.int p3), .val (.int p4), .val (.int p5), .val (.int p6), .val (.int (6 : Int32)), .val (.ref b97), .unset] []))
    refine Go.step (fun _ k => XS.iload X101.here hx rfl (hb hby at_47) rfl k) ?_
    show Go FrameEnd p e below s 16 128 (Q0 Z p1 p2 p3 p4 p5 p6 h0 n0) (T101.setTop (mkF m 49 #[.val (.int p1), .val (.int p2), .val (.int p3), .val (.int p4), .val (.int p5), .val (.int p6), .val (.int (6 : Int32)), .val (.ref b97), .unset] [(.int (6 : Int32))]))
    refine Go.step (fun _ k => XS.iconst X101.here hx rfl (hb hby at_49) k) ?_
    show Go FrameEnd p e below s 16 128 (Q0 Z p1 p2 p3 p4 p5 p6 h0 n0) (T101.setTop (mkF m 50 #[.val (.int p1), .val (.int p2), .val (.int p3), .val (.int p4), .val (.int p5), .val (.int p6), .val (.int (6 : Int32)), .val (.ref b97), .unset] [(.int (2 : Int32)), (.int (6 : Int32))]))
    refine Go.step (fun _ k => XS.icmpNo X101.here hx rfl (hb hby at_50) rfl (tlt (by decide)).2.2.2 k) ?_
    show Go FrameEnd p e below s 16 128 (Q0 Z p1 p2 p3 p4 p5 p6 h0 n0) (T101.setTop (mkF m 53 #[.val (.int p1), .val (.int p2), .val (.int p3), .val (.int p4), .val (.int p5), .val (.int p6), .val (.int (6 : Int32)), .val (.ref b97), .unset] []))
    refine Go.step (fun _ k => XS.aload X101.here hx rfl (hb hby at_53) rfl rfl k) ?_
    show Go FrameEnd p e below s 16 128 (Q0 Z p1 p2 p3 p4 p5 p6 h0 n0) (T101.setTop (mkF m 55 #[.val (.int p1), .val (.int p2), .val (.int p3), .val (.int p4), .val (.int p5), .val (.int p6), .val (.int (6 : Int32)), .val (.ref b97), .unset] [(.ref b97)]))
    refine Go.step (fun _ k => XS.iconst X101.here hx rfl (hb hby at_55) k) ?_
    show Go FrameEnd p e below s 16 128 (Q0 Z p1 p2 p3 p4 p5 p6 h0 n0) (T101.setTop (mkF m 56 #[.val (.int p1), .val (.int p2), .val (.int p3), .val (.int p4), .val (.int p5), .val (.int p6), .val (.int (6 : Int32)), .val (.ref b97), .unset] [(.int (2 : Int32)), (.ref b97)]))
    refine Go.step (fun _ k => XS.iloadN X101.here hx rfl (hb hby at_56) rfl k) ?_
    show Go FrameEnd p e below s 16 128 (Q0 Z p1 p2 p3 p4 p5 p6 h0 n0) (T101.setTop (mkF m 57 #[.val (.int p1), .val (.int p2), .val (.int p3), .val (.int p4), .val (.int p5), .val (.int p6), .val (.int (6 : Int32)), .val (.ref b97), .unset] [(.int p3), (.int (2 : Int32)), (.ref b97)]))
    refine Go.step (X101.ldcInt hx hown (mvT hZ (hw _ (List.mem_of_getElem? (i := 0) rfl))) (g := (mkF m 57 #[.val (.int p1), .val (.int p2), .val (.int p3), .val (.int p4), .val (.int p5), .val (.int p6), .val (.int (6 : Int32)), .val (.ref b97), .unset] [(.int p3), (.int (2 : Int32)), (.ref b97)])) rfl (hb hby at_57)) ?_
    show Go FrameEnd p e below s 16 128 (Q0 Z p1 p2 p3 p4 p5 p6 h0 n0) (T101.setTop (mkF m 59 #[.val (.int p1), .val (.int p2), .val (.int p3), .val (.int p4), .val (.int p5), .val (.int p6), .val (.int (6 : Int32)), .val (.ref b97), .unset] [(.int (2147483647 : Int32)), (.int p3), (.int (2 : Int32)), (.ref b97)]))
    refine Go.step (fun _ k => XS.iand X101.here hx rfl (hb hby at_59) rfl k) ?_
    show Go FrameEnd p e below s 16 128 (Q0 Z p1 p2 p3 p4 p5 p6 h0 n0) (T101.setTop (mkF m 60 #[.val (.int p1), .val (.int p2), .val (.int p3), .val (.int p4), .val (.int p5), .val (.int p6), .val (.int (6 : Int32)), .val (.ref b97), .unset] [(.int (p3 &&& (2147483647 : Int32))), (.int (2 : Int32)), (.ref b97)]))
    refine Go.step (fun _ k => XS.iload X101.here hx rfl (hb hby at_60) rfl k) ?_
    show Go FrameEnd p e below s 16 128 (Q0 Z p1 p2 p3 p4 p5 p6 h0 n0) (T101.setTop (mkF m 62 #[.val (.int p1), .val (.int p2), .val (.int p3), .val (.int p4), .val (.int p5), .val (.int p6), .val (.int (6 : Int32)), .val (.ref b97), .unset] [(.int (6 : Int32)), (.int (p3 &&& (2147483647 : Int32))), (.int (2 : Int32)), (.ref b97)]))
    refine Go.step (fun _ k => XS.iconst X101.here hx rfl (hb hby at_62) k) ?_
    show Go FrameEnd p e below s 16 128 (Q0 Z p1 p2 p3 p4 p5 p6 h0 n0) (T101.setTop (mkF m 63 #[.val (.int p1), .val (.int p2), .val (.int p3), .val (.int p4), .val (.int p5), .val (.int p6), .val (.int (6 : Int32)), .val (.ref b97), .unset] [(.int (2 : Int32)), (.int (6 : Int32)), (.int (p3 &&& (2147483647 : Int32))), (.int (2 : Int32)), (.ref b97)]))
    refine Go.step (fun _ k => XS.isub X101.here hx rfl (hb hby at_63) rfl k) ?_
    show Go FrameEnd p e below s 16 128 (Q0 Z p1 p2 p3 p4 p5 p6 h0 n0) (T101.setTop (mkF m 64 #[.val (.int p1), .val (.int p2), .val (.int p3), .val (.int p4), .val (.int p5), .val (.int p6), .val (.int (6 : Int32)), .val (.ref b97), .unset] [(.int (4 : Int32)), (.int (p3 &&& (2147483647 : Int32))), (.int (2 : Int32)), (.ref b97)]))
    refine Go.step (fun _ k => XS.iconst X101.here hx rfl (hb hby at_64) k) ?_
    show Go FrameEnd p e below s 16 128 (Q0 Z p1 p2 p3 p4 p5 p6 h0 n0) (T101.setTop (mkF m 65 #[.val (.int p1), .val (.int p2), .val (.int p3), .val (.int p4), .val (.int p5), .val (.int p6), .val (.int (6 : Int32)), .val (.ref b97), .unset] [(.int (1 : Int32)), (.int (4 : Int32)), (.int (p3 &&& (2147483647 : Int32))), (.int (2 : Int32)), (.ref b97)]))
    refine Go.step (fun _ k => XS.iadd X101.here hx rfl (hb hby at_65) rfl k) ?_
    show Go FrameEnd p e below s 16 128 (Q0 Z p1 p2 p3 p4 p5 p6 h0 n0) (T101.setTop (mkF m 66 #[.val (.int p1), .val (.int p2), .val (.int p3), .val (.int p4), .val (.int p5), .val (.int p6), .val (.int (6 : Int32)), .val (.ref b97), .unset] [(.int (5 : Int32)), (.int (p3 &&& (2147483647 : Int32))), (.int (2 : Int32)), (.ref b97)]))
    refine Go.step (fun _ k => iremM X101 hx rfl (hb hby at_66) rfl (by decide) k) ?_
    show Go FrameEnd p e below s 16 128 (Q0 Z p1 p2 p3 p4 p5 p6 h0 n0) (T101.setTop (mkF m 67 #[.val (.int p1), .val (.int p2), .val (.int p3), .val (.int p4), .val (.int p5), .val (.int p6), .val (.int (6 : Int32)), .val (.ref b97), .unset] [(.int ((p3 &&& (2147483647 : Int32)) % (5 : Int32))), (.int (2 : Int32)), (.ref b97)]))
    obtain ⟨c102, Ac102, Sc102, Mc102, Gc102⟩ := id V101
    obtain ⟨T103, h103, X103, e103, W103, st103⟩ := stI X101 hx hZ e101 Ac102 (j := (2 : Int32)) (own_in Sc102 (by decide) (by decide)) (g := (mkF m 67 #[.val (.int p1), .val (.int p2), .val (.int p3), .val (.int p4), .val (.int p5), .val (.int p6), .val (.int (6 : Int32)), .val (.ref b97), .unset] [(.int ((p3 &&& (2147483647 : Int32)) % (5 : Int32))), (.int (2 : Int32)), (.ref b97)])) rfl rfl (hb hby at_67)
    refine Go.step st103 ?_
    have N103 := Fr.snoc X103 N101 g_b97
    have Z103 : n0 ≤ h103.size := Nat.le_trans Z101 (Keep.of_wr W103).1
    have V103 : Av Z h103 b97 .int 6 (aset (aset (aset (fun _ => (.int (0 : Int32))) 0 (.int (6 : Int32))) 1 (.int ((p2 &&& (2147483647 : Int32)) % (6 : Int32)))) 2 (.int ((p3 &&& (2147483647 : Int32)) % (5 : Int32)))) := Av.set Ac102 Sc102 Mc102 Gc102 W103 (by rfl) (own_in Sc102 (by decide) (by decide))
    show Go FrameEnd p e below s 16 128 (Q0 Z p1 p2 p3 p4 p5 p6 h0 n0) (T103.setTop (mkF m 68 #[.val (.int p1), .val (.int p2), .val (.int p3), .val (.int p4), .val (.int p5), .val (.int p6), .val (.int (6 : Int32)), .val (.ref b97), .unset] []))
    refine Go.step (fun _ k => XS.iload X103.here hx rfl (hb hby at_68) rfl k) ?_
    show Go FrameEnd p e below s 16 128 (Q0 Z p1 p2 p3 p4 p5 p6 h0 n0) (T103.setTop (mkF m 70 #[.val (.int p1), .val (.int p2), .val (.int p3), .val (.int p4), .val (.int p5), .val (.int p6), .val (.int (6 : Int32)), .val (.ref b97), .unset] [(.int (6 : Int32))]))
    refine Go.step (fun _ k => XS.iconst X103.here hx rfl (hb hby at_70) k) ?_
    show Go FrameEnd p e below s 16 128 (Q0 Z p1 p2 p3 p4 p5 p6 h0 n0) (T103.setTop (mkF m 71 #[.val (.int p1), .val (.int p2), .val (.int p3), .val (.int p4), .val (.int p5), .val (.int p6), .val (.int (6 : Int32)), .val (.ref b97), .unset] [(.int (3 : Int32)), (.int (6 : Int32))]))
    refine Go.step (fun _ k => XS.icmpNo X103.here hx rfl (hb hby at_71) rfl (tlt (by decide)).2.2.2 k) ?_
    show Go FrameEnd p e below s 16 128 (Q0 Z p1 p2 p3 p4 p5 p6 h0 n0) (T103.setTop (mkF m 74 #[.val (.int p1), .val (.int p2), .val (.int p3), .val (.int p4), .val (.int p5), .val (.int p6), .val (.int (6 : Int32)), .val (.ref b97), .unset] []))
    refine Go.step (fun _ k => XS.aload X103.here hx rfl (hb hby at_74) rfl rfl k) ?_
    show Go FrameEnd p e below s 16 128 (Q0 Z p1 p2 p3 p4 p5 p6 h0 n0) (T103.setTop (mkF m 76 #[.val (.int p1), .val (.int p2), .val (.int p3), .val (.int p4), .val (.int p5), .val (.int p6), .val (.int (6 : Int32)), .val (.ref b97), .unset] [(.ref b97)]))
    refine Go.step (fun _ k => XS.iconst X103.here hx rfl (hb hby at_76) k) ?_
    show Go FrameEnd p e below s 16 128 (Q0 Z p1 p2 p3 p4 p5 p6 h0 n0) (T103.setTop (mkF m 77 #[.val (.int p1), .val (.int p2), .val (.int p3), .val (.int p4), .val (.int p5), .val (.int p6), .val (.int (6 : Int32)), .val (.ref b97), .unset] [(.int (3 : Int32)), (.ref b97)]))
    refine Go.step (fun _ k => XS.iloadN X103.here hx rfl (hb hby at_77) rfl k) ?_
    show Go FrameEnd p e below s 16 128 (Q0 Z p1 p2 p3 p4 p5 p6 h0 n0) (T103.setTop (mkF m 78 #[.val (.int p1), .val (.int p2), .val (.int p3), .val (.int p4), .val (.int p5), .val (.int p6), .val (.int (6 : Int32)), .val (.ref b97), .unset] [(.int p4), (.int (3 : Int32)), (.ref b97)]))
    refine Go.step (X103.ldcInt hx hown (mvT hZ (hw _ (List.mem_of_getElem? (i := 0) rfl))) (g := (mkF m 78 #[.val (.int p1), .val (.int p2), .val (.int p3), .val (.int p4), .val (.int p5), .val (.int p6), .val (.int (6 : Int32)), .val (.ref b97), .unset] [(.int p4), (.int (3 : Int32)), (.ref b97)])) rfl (hb hby at_78)) ?_
    show Go FrameEnd p e below s 16 128 (Q0 Z p1 p2 p3 p4 p5 p6 h0 n0) (T103.setTop (mkF m 80 #[.val (.int p1), .val (.int p2), .val (.int p3), .val (.int p4), .val (.int p5), .val (.int p6), .val (.int (6 : Int32)), .val (.ref b97), .unset] [(.int (2147483647 : Int32)), (.int p4), (.int (3 : Int32)), (.ref b97)]))
    refine Go.step (fun _ k => XS.iand X103.here hx rfl (hb hby at_80) rfl k) ?_
    show Go FrameEnd p e below s 16 128 (Q0 Z p1 p2 p3 p4 p5 p6 h0 n0) (T103.setTop (mkF m 81 #[.val (.int p1), .val (.int p2), .val (.int p3), .val (.int p4), .val (.int p5), .val (.int p6), .val (.int (6 : Int32)), .val (.ref b97), .unset] [(.int (p4 &&& (2147483647 : Int32))), (.int (3 : Int32)), (.ref b97)]))
    refine Go.step (fun _ k => XS.iload X103.here hx rfl (hb hby at_81) rfl k) ?_
    show Go FrameEnd p e below s 16 128 (Q0 Z p1 p2 p3 p4 p5 p6 h0 n0) (T103.setTop (mkF m 83 #[.val (.int p1), .val (.int p2), .val (.int p3), .val (.int p4), .val (.int p5), .val (.int p6), .val (.int (6 : Int32)), .val (.ref b97), .unset] [(.int (6 : Int32)), (.int (p4 &&& (2147483647 : Int32))), (.int (3 : Int32)), (.ref b97)]))
    refine Go.step (fun _ k => XS.iconst X103.here hx rfl (hb hby at_83) k) ?_
    show Go FrameEnd p e below s 16 128 (Q0 Z p1 p2 p3 p4 p5 p6 h0 n0) (T103.setTop (mkF m 84 #[.val (.int p1), .val (.int p2), .val (.int p3), .val (.int p4), .val (.int p5), .val (.int p6), .val (.int (6 : Int32)), .val (.ref b97), .unset] [(.int (3 : Int32)), (.int (6 : Int32)), (.int (p4 &&& (2147483647 : Int32))), (.int (3 : Int32)), (.ref b97)]))
    refine Go.step (fun _ k => XS.isub X103.here hx rfl (hb hby at_84) rfl k) ?_
    show Go FrameEnd p e below s 16 128 (Q0 Z p1 p2 p3 p4 p5 p6 h0 n0) (T103.setTop (mkF m 85 #[.val (.int p1), .val (.int p2), .val (.int p3), .val (.int p4), .val (.int p5), .val (.int p6), .val (.int (6 : Int32)), .val (.ref b97), .unset] [(.int (3 : Int32)), (.int (p4 &&& (2147483647 : Int32))), (.int (3 : Int32)), (.ref b97)]))
    refine Go.step (fun _ k => XS.iconst X103.here hx rfl (hb hby at_85) k) ?_
    show Go FrameEnd p e below s 16 128 (Q0 Z p1 p2 p3 p4 p5 p6 h0 n0) (T103.setTop (mkF m 86 #[.val (.int p1), .val (.int p2), .val (.int p3), .val (.int p4), .val (.int p5), .val (.int p6), .val (.int (6 : Int32)), .val (.ref b97), .unset] [(.int (1 : Int32)), (.int (3 : Int32)), (.int (p4 &&& (2147483647 : Int32))), (.int (3 : Int32)), (.ref b97)]))
    refine Go.step (fun _ k => XS.iadd X103.here hx rfl (hb hby at_86) rfl k) ?_
    show Go FrameEnd p e below s 16 128 (Q0 Z p1 p2 p3 p4 p5 p6 h0 n0) (T103.setTop (mkF m 87 #[.val (.int p1), .val (.int p2), .val (.int p3), .val (.int p4), .val (.int p5), .val (.int p6), .val (.int (6 : Int32)), .val (.ref b97), .unset] [(.int (4 : Int32)), (.int (p4 &&& (2147483647 : Int32))), (.int (3 : Int32)), (.ref b97)]))
    refine Go.step (fun _ k => iremM X103 hx rfl (hb hby at_87) rfl (by decide) k) ?_
    show Go FrameEnd p e below s 16 128 (Q0 Z p1 p2 p3 p4 p5 p6 h0 n0) (T103.setTop (mkF m 88 #[.val (.int p1), .val (.int p2), .val (.int p3), .val (.int p4), .val (.int p5), .val (.int p6), .val (.int (6 : Int32)), .val (.ref b97), .unset] [(.int ((p4 &&& (2147483647 : Int32)) % (4 : Int32))), (.int (3 : Int32)), (.ref b97)]))
    obtain ⟨c104, Ac104, Sc104, Mc104, Gc104⟩ := id V103
    obtain ⟨T105, h105, X105, e105, W105, st105⟩ := stI X103 hx hZ e103 Ac104 (j := (3 : Int32)) (own_in Sc104 (by decide) (by decide)) (g := (mkF m 88 #[.val (.int p1), .val (.int p2), .val (.int p3), .val (.int p4), .val (.int p5), .val (.int p6), .val (.int (6 : Int32)), .val (.ref b97), .unset] [(.int ((p4 &&& (2147483647 : Int32)) % (4 : Int32))), (.int (3 : Int32)), (.ref b97)])) rfl rfl (hb hby at_88)
    refine Go.step st105 ?_
    have N105 := Fr.snoc X105 N103 g_b97
    have Z105 : n0 ≤ h105.size := Nat.le_trans Z103 (Keep.of_wr W105).1
    have V105 : Av Z h105 b97 .int 6 (aset (aset (aset (aset (fun _ => (.int (0 : Int32))) 0 (.int (6 : Int32))) 1 (.int ((p2 &&& (2147483647 : Int32)) % (6 : Int32)))) 2 (.int ((p3 &&& (2147483647 : Int32)) % (5 : Int32)))) 3 (.int ((p4 &&& (2147483647 : Int32)) % (4 : Int32)))) := Av.set Ac104 Sc104 Mc104 Gc104 W105 (by rfl) (own_in Sc104 (by decide) (by decide))
    show Go FrameEnd p e below s 16 128 (Q0 Z p1 p2 p3 p4 p5 p6 h0 n0) (T105.setTop (mkF m 89 #[.val (.int p1), .val (.int p2), .val (.int p3), .val (.int p4), .val (.int p5), .val (.int p6), .val (.int (6 : Int32)), .val (.ref b97), .unset] []))
    refine Go.step (fun _ k => XS.iload X105.here hx rfl (hb hby at_89) rfl k) ?_
    show Go FrameEnd p e below s 16 128 (Q0 Z p1 p2 p3 p4 p5 p6 h0 n0) (T105.setTop (mkF m 91 #[.val (.int p1), .val (.int p2), .val (.int p3), .val (.int p4), .val (.int p5), .val (.int p6), .val (.int (6 : Int32)), .val (.ref b97), .unset] [(.int (6 : Int32))]))
    refine Go.step (fun _ k => XS.iconst X105.here hx rfl (hb hby at_91) k) ?_
    show Go FrameEnd p e below s 16 128 (Q0 Z p1 p2 p3 p4 p5 p6 h0 n0) (T105.setTop (mkF m 92 #[.val (.int p1), .val (.int p2), .val (.int p3), .val (.int p4), .val (.int p5), .val (.int p6), .val (.int (6 : Int32)), .val (.ref b97), .unset] [(.int (4 : Int32)), (.int (6 : Int32))]))
    refine Go.step (fun _ k => XS.icmpNo X105.here hx rfl (hb hby at_92) rfl (tlt (by decide)).2.2.2 k) ?_
    show Go FrameEnd p e below s 16 128 (Q0 Z p1 p2 p3 p4 p5 p6 h0 n0) (T105.setTop (mkF m 95 #[.val (.int p1), .val (.int p2), .val (.int p3), .val (.int p4), .val (.int p5), .val (.int p6), .val (.int (6 : Int32)), .val (.ref b97), .unset] []))
    refine Go.step (fun _ k => XS.aload X105.here hx rfl (hb hby at_95) rfl rfl k) ?_
    show Go FrameEnd p e below s 16 128 (Q0 Z p1 p2 p3 p4 p5 p6 h0 n0) (T105.setTop (mkF m 97 #[.val (.int p1), .val (.int p2), .val (.int p3), .val (.int p4), .val (.int p5), .val (.int p6), .val (.int (6 : Int32)), .val (.ref b97), .unset] [(.ref b97)]))
    refine Go.step (fun _ k => XS.iconst X105.here hx rfl (hb hby at_97) k) ?_
    show Go FrameEnd p e below s 16 128 (Q0 Z p1 p2 p3 p4 p5 p6 h0 n0) (T105.setTop (mkF m 98 #[.val (.int p1), .val (.int p2), .val (.int p3), .val (.int p4), .val (.int p5), .val (.int p6), .val (.int (6 : Int32)), .val (.ref b97), .unset] [(.int (4 : Int32)), (.ref b97)]))
    refine Go.step (fun _ k => XS.iload X105.here hx rfl (hb hby at_98) rfl k) ?_
    show Go FrameEnd p e below s 16 128 (Q0 Z p1 p2 p3 p4 p5 p6 h0 n0) (T105.setTop (mkF m 100 #[.val (.int p1), .val (.int p2), .val (.int p3), .val (.int p4), .val (.int p5), .val (.int p6), .val (.int (6 : Int32)), .val (.ref b97), .unset] [(.int p5), (.int (4 : Int32)), (.ref b97)]))
    refine Go.step (X105.ldcInt hx hown (mvT hZ (hw _ (List.mem_of_getElem? (i := 0) rfl))) (g := (mkF m 100 #[.val (.int p1), .val (.int p2), .val (.int p3), .val (.int p4), .val (.int p5), .val (.int p6), .val (.int (6 : Int32)), .val (.ref b97), .unset] [(.int p5), (.int (4 : Int32)), (.ref b97)])) rfl (hb hby at_100)) ?_
    show Go FrameEnd p e below s 16 128 (Q0 Z p1 p2 p3 p4 p5 p6 h0 n0) (T105.setTop (mkF m 102 #[.val (.int p1), .val (.int p2), .val (.int p3), .val (.int p4), .val (.int p5), .val (.int p6), .val (.int (6 : Int32)), .val (.ref b97), .unset] [(.int (2147483647 : Int32)), (.int p5), (.int (4 : Int32)), (.ref b97)]))
    refine Go.step (fun _ k => XS.iand X105.here hx rfl (hb hby at_102) rfl k) ?_
    show Go FrameEnd p e below s 16 128 (Q0 Z p1 p2 p3 p4 p5 p6 h0 n0) (T105.setTop (mkF m 103 #[.val (.int p1), .val (.int p2), .val (.int p3), .val (.int p4), .val (.int p5), .val (.int p6), .val (.int (6 : Int32)), .val (.ref b97), .unset] [(.int (p5 &&& (2147483647 : Int32))), (.int (4 : Int32)), (.ref b97)]))
    refine Go.step (fun _ k => XS.iload X105.here hx rfl (hb hby at_103) rfl k) ?_
    show Go FrameEnd p e below s 16 128 (Q0 Z p1 p2 p3 p4 p5 p6 h0 n0) (T105.setTop (mkF m 105 #[.val (.int p1), .val (.int p2), .val (.int p3), .val (.int p4), .val (.int p5), .val (.int p6), .val (.int (6 : Int32)), .val (.ref b97), .unset] [(.int (6 : Int32)), (.int (p5 &&& (2147483647 : Int32))), (.int (4 : Int32)), (.ref b97)]))
    refine Go.step (fun _ k => XS.iconst X105.here hx rfl (hb hby at_105) k) ?_
    show Go FrameEnd p e below s 16 128 (Q0 Z p1 p2 p3 p4 p5 p6 h0 n0) (T105.setTop (mkF m 106 #[.val (.int p1), .val (.int p2), .val (.int p3), .val (.int p4), .val (.int p5), .val (.int p6), .val (.int (6 : Int32)), .val (.ref b97), .unset] [(.int (4 : Int32)), (.int (6 : Int32)), (.int (p5 &&& (2147483647 : Int32))), (.int (4 : Int32)), (.ref b97)]))
    refine Go.step (fun _ k => XS.isub X105.here hx rfl (hb hby at_106) rfl k) ?_
    show Go FrameEnd p e below s 16 128 (Q0 Z p1 p2 p3 p4 p5 p6 h0 n0) (T105.setTop (mkF m 107 #[.val (.int p1), .val (.int p2), .val (.int p3), .val (.int p4), .val (.int p5), .val (.int p6), .val (.int (6 : Int32)), .val (.ref b97), .unset] [(.int (2 : Int32)), (.int (p5 &&& (2147483647 : Int32))), (.int (4 : Int32)), (.ref b97)]))
    refine Go.step (fun _ k => XS.iconst X105.here hx rfl (hb hby at_107) k) ?_
    show Go FrameEnd p e below s 16 128 (Q0 Z p1 p2 p3 p4 p5 p6 h0 n0) (T105.setTop (mkF m 108 #[.val (.int p1), .val (.int p2), .val (.int p3), .val (.int p4), .val (.int p5), .val (.int p6), .val (.int (6 : Int32)), .val (.ref b97), .unset] [(.int (1 : Int32)), (.int (2 : Int32)), (.int (p5 &&& (2147483647 : Int32))), (.int (4 : Int32)), (.ref b97)]))
    refine Go.step (fun _ k => XS.iadd X105.here hx rfl (hb hby at_108) rfl k) ?_
    show Go FrameEnd p e below s 16 128 (Q0 Z p1 p2 p3 p4 p5 p6 h0 n0) (T105.setTop (mkF m 109 #[.val (.int p1), .val (.int p2), .val (.int p3), .val (.int p4), .val (.int p5), .val (.int p6), .val (.int (6 : Int32)), .val (.ref b97), .unset] [(.int (3 : Int32)), (.int (p5 &&& (2147483647 : Int32))), (.int (4 : Int32)), (.ref b97)]))
    refine Go.step (fun _ k => iremM X105 hx rfl (hb hby at_109) rfl (by decide) k) ?_
    show Go FrameEnd p e below s 16 128 (Q0 Z p1 p2 p3 p4 p5 p6 h0 n0) (T105.setTop (mkF m 110 #[.val (.int p1), .val (.int p2), .val (.int p3), .val (.int p4), .val (.int p5), .val (.int p6), .val (.int (6 : Int32)), .val (.ref b97), .unset] [(.int ((p5 &&& (2147483647 : Int32)) % (3 : Int32))), (.int (4 : Int32)), (.ref b97)]))
    obtain ⟨c106, Ac106, Sc106, Mc106, Gc106⟩ := id V105
    obtain ⟨T107, h107, X107, e107, W107, st107⟩ := stI X105 hx hZ e105 Ac106 (j := (4 : Int32)) (own_in Sc106 (by decide) (by decide)) (g := (mkF m 110 #[.val (.int p1), .val (.int p2), .val (.int p3), .val (.int p4), .val (.int p5), .val (.int p6), .val (.int (6 : Int32)), .val (.ref b97), .unset] [(.int ((p5 &&& (2147483647 : Int32)) % (3 : Int32))), (.int (4 : Int32)), (.ref b97)])) rfl rfl (hb hby at_110)
    refine Go.step st107 ?_
    have N107 := Fr.snoc X107 N105 g_b97
    have Z107 : n0 ≤ h107.size := Nat.le_trans Z105 (Keep.of_wr W107).1
    have V107 : Av Z h107 b97 .int 6 (aset (aset (aset (aset (aset (fun _ => (.int (0 : Int32))) 0 (.int (6 : Int32))) 1 (.int ((p2 &&& (2147483647 : Int32)) % (6 : Int32)))) 2 (.int ((p3 &&& (2147483647 : Int32)) % (5 : Int32)))) 3 (.int ((p4 &&& (2147483647 : Int32)) % (4 : Int32)))) 4 (.int ((p5 &&& (2147483647 : Int32)) % (3 : Int32)))) := Av.set Ac106 Sc106 Mc106 Gc106 W107 (by rfl) (own_in Sc106 (by decide) (by decide))
    show Go FrameEnd p e below s 16 128 (Q0 Z p1 p2 p3 p4 p5 p6 h0 n0) (T107.setTop (mkF m 111 #[.val (.int p1), .val (.int p2), .val (.int p3), .val (.int p4), .val (.int p5), .val (.int p6), .val (.int (6 : Int32)), .val (.ref b97), .unset] []))
    refine Go.step (fun _ k => XS.iload X107.here hx rfl (hb hby at_111) rfl k) ?_
    show Go FrameEnd p e below s 16 128 (Q0 Z p1 p2 p3 p4 p5 p6 h0 n0) (T107.setTop (mkF m 113 #[.val (.int p1), .val (.int p2), .val (.int p3), .val (.int p4), .val (.int p5), .val (.int p6), .val (.int (6 : Int32)), .val (.ref b97), .unset] [(.int (6 : Int32))]))
    refine Go.step (fun _ k => XS.iconst X107.here hx rfl (hb hby at_113) k) ?_
    show Go FrameEnd p e below s 16 128 (Q0 Z p1 p2 p3 p4 p5 p6 h0 n0) (T107.setTop (mkF m 114 #[.val (.int p1), .val (.int p2), .val (.int p3), .val (.int p4), .val (.int p5), .val (.int p6), .val (.int (6 : Int32)), .val (.ref b97), .unset] [(.int (5 : Int32)), (.int (6 : Int32))]))
    refine Go.step (fun _ k => XS.icmpNo X107.here hx rfl (hb hby at_114) rfl (tlt (by decide)).2.2.2 k) ?_
    show Go FrameEnd p e below s 16 128 (Q0 Z p1 p2 p3 p4 p5 p6 h0 n0) (T107.setTop (mkF m 117 #[.val (.int p1), .val (.int p2), .val (.int p3), .val (.int p4), .val (.int p5), .val (.int p6), .val (.int (6 : Int32)), .val (.ref b97), .unset] []))
    refine Go.step (fun _ k => XS.aload X107.here hx rfl (hb hby at_117) rfl rfl k) ?_
    show Go FrameEnd p e below s 16 128 (Q0 Z p1 p2 p3 p4 p5 p6 h0 n0) (T107.setTop (mkF m 119 #[.val (.int p1), .val (.int p2), .val (.int p3), .val (.int p4), .val (.int p5), .val (.int p6), .val (.int (6 : Int32)), .val (.ref b97), .unset] [(.ref b97)]))
    refine Go.step (fun _ k => XS.iconst X107.here hx rfl (hb hby at_119) k) ?_
    show Go FrameEnd p e below s 16 128 (Q0 Z p1 p2 p3 p4 p5 p6 h0 n0) (T107.setTop (mkF m 120 #[.val (.int p1), .val (.int p2), .val (.int p3), .val (.int p4), .val (.int p5), .val (.int p6), .val (.int (6 : Int32)), .val (.ref b97), .unset] [(.int (5 : Int32)), (.ref b97)]))
    refine Go.step (fun _ k => XS.iload X107.here hx rfl (hb hby at_120) rfl k) ?_
    show Go FrameEnd p e below s 16 128 (Q0 Z p1 p2 p3 p4 p5 p6 h0 n0) (T107.setTop (mkF m 122 #[.val (.int p1), .val (.int p2), .val (.int p3), .val (.int p4), .val (.int p5), .val (.int p6), .val (.int (6 : Int32)), .val (.ref b97), .unset] [(.int p6), (.int (5 : Int32)), (.ref b97)]))
    refine Go.step (X107.ldcInt hx hown (mvT hZ (hw _ (List.mem_of_getElem? (i := 0) rfl))) (g := (mkF m 122 #[.val (.int p1), .val (.int p2), .val (.int p3), .val (.int p4), .val (.int p5), .val (.int p6), .val (.int (6 : Int32)), .val (.ref b97), .unset] [(.int p6), (.int (5 : Int32)), (.ref b97)])) rfl (hb hby at_122)) ?_
    show Go FrameEnd p e below s 16 128 (Q0 Z p1 p2 p3 p4 p5 p6 h0 n0) (T107.setTop (mkF m 124 #[.val (.int p1), .val (.int p2), .val (.int p3), .val (.int p4), .val (.int p5), .val (.int p6), .val (.int (6 : Int32)), .val (.ref b97), .unset] [(.int (2147483647 : Int32)), (.int p6), (.int (5 : Int32)), (.ref b97)]))
    refine Go.step (fun _ k => XS.iand X107.here hx rfl (hb hby at_124) rfl k) ?_
    show Go FrameEnd p e below s 16 128 (Q0 Z p1 p2 p3 p4 p5 p6 h0 n0) (T107.setTop (mkF m 125 #[.val (.int p1), .val (.int p2), .val (.int p3), .val (.int p4), .val (.int p5), .val (.int p6), .val (.int (6 : Int32)), .val (.ref b97), .unset] [(.int (p6 &&& (2147483647 : Int32))), (.int (5 : Int32)), (.ref b97)]))
    refine Go.step (fun _ k => XS.iload X107.here hx rfl (hb hby at_125) rfl k) ?_
    show Go FrameEnd p e below s 16 128 (Q0 Z p1 p2 p3 p4 p5 p6 h0 n0) (T107.setTop (mkF m 127 #[.val (.int p1), .val (.int p2), .val (.int p3), .val (.int p4), .val (.int p5), .val (.int p6), .val (.int (6 : Int32)), .val (.ref b97), .unset] [(.int (6 : Int32)), (.int (p6 &&& (2147483647 : Int32))), (.int (5 : Int32)), (.ref b97)]))
    refine Go.step (fun _ k => XS.iconst X107.here hx rfl (hb hby at_127) k) ?_
    show Go FrameEnd p e below s 16 128 (Q0 Z p1 p2 p3 p4 p5 p6 h0 n0) (T107.setTop (mkF m 128 #[.val (.int p1), .val (.int p2), .val (.int p3), .val (.int p4), .val (.int p5), .val (.int p6), .val (.int (6 : Int32)), .val (.ref b97), .unset] [(.int (5 : Int32)), (.int (6 : Int32)), (.int (p6 &&& (2147483647 : Int32))), (.int (5 : Int32)), (.ref b97)]))
    refine Go.step (fun _ k => XS.isub X107.here hx rfl (hb hby at_128) rfl k) ?_
    show Go FrameEnd p e below s 16 128 (Q0 Z p1 p2 p3 p4 p5 p6 h0 n0) (T107.setTop (mkF m 129 #[.val (.int p1), .val (.int p2), .val (.int p3), .val (.int p4), .val (.int p5), .val (.int p6), .val (.int (6 : Int32)), .val (.ref b97), .unset] [(.int (1 : Int32)), (.int (p6 &&& (2147483647 : Int32))), (.int (5 : Int32)), (.ref b97)]))
    refine Go.step (fun _ k => XS.iconst X107.here hx rfl (hb hby at_129) k) ?_
    show Go FrameEnd p e below s 16 128 (Q0 Z p1 p2 p3 p4 p5 p6 h0 n0) (T107.setTop (mkF m 130 #[.val (.int p1), .val (.int p2), .val (.int p3), .val (.int p4), .val (.int p5), .val (.int p6), .val (.int (6 : Int32)), .val (.ref b97), .unset] [(.int (1 : Int32)), (.int (1 : Int32)), (.int (p6 &&& (2147483647 : Int32))), (.int (5 : Int32)), (.ref b97)]))
    refine Go.step (fun _ k => XS.iadd X107.here hx rfl (hb hby at_130) rfl k) ?_
    show Go FrameEnd p e below s 16 128 (Q0 Z p1 p2 p3 p4 p5 p6 h0 n0) (T107.setTop (mkF m 131 #[.val (.int p1), .val (.int p2), .val (.int p3), .val (.int p4), .val (.int p5), .val (.int p6), .val (.int (6 : Int32)), .val (.ref b97), .unset] [(.int (2 : Int32)), (.int (p6 &&& (2147483647 : Int32))), (.int (5 : Int32)), (.ref b97)]))
    refine Go.step (fun _ k => iremM X107 hx rfl (hb hby at_131) rfl (by decide) k) ?_
    show Go FrameEnd p e below s 16 128 (Q0 Z p1 p2 p3 p4 p5 p6 h0 n0) (T107.setTop (mkF m 132 #[.val (.int p1), .val (.int p2), .val (.int p3), .val (.int p4), .val (.int p5), .val (.int p6), .val (.int (6 : Int32)), .val (.ref b97), .unset] [(.int ((p6 &&& (2147483647 : Int32)) % (2 : Int32))), (.int (5 : Int32)), (.ref b97)]))
    obtain ⟨c108, Ac108, Sc108, Mc108, Gc108⟩ := id V107
    obtain ⟨T109, h109, X109, e109, W109, st109⟩ := stI X107 hx hZ e107 Ac108 (j := (5 : Int32)) (own_in Sc108 (by decide) (by decide)) (g := (mkF m 132 #[.val (.int p1), .val (.int p2), .val (.int p3), .val (.int p4), .val (.int p5), .val (.int p6), .val (.int (6 : Int32)), .val (.ref b97), .unset] [(.int ((p6 &&& (2147483647 : Int32)) % (2 : Int32))), (.int (5 : Int32)), (.ref b97)])) rfl rfl (hb hby at_132)
    refine Go.step st109 ?_
    have N109 := Fr.snoc X109 N107 g_b97
    have Z109 : n0 ≤ h109.size := Nat.le_trans Z107 (Keep.of_wr W109).1
    have V109 : Av Z h109 b97 .int 6 (aset (aset (aset (aset (aset (aset (fun _ => (.int (0 : Int32))) 0 (.int (6 : Int32))) 1 (.int ((p2 &&& (2147483647 : Int32)) % (6 : Int32)))) 2 (.int ((p3 &&& (2147483647 : Int32)) % (5 : Int32)))) 3 (.int ((p4 &&& (2147483647 : Int32)) % (4 : Int32)))) 4 (.int ((p5 &&& (2147483647 : Int32)) % (3 : Int32)))) 5 (.int ((p6 &&& (2147483647 : Int32)) % (2 : Int32)))) := Av.set Ac108 Sc108 Mc108 Gc108 W109 (by rfl) (own_in Sc108 (by decide) (by decide))
    show Go FrameEnd p e below s 16 128 (Q0 Z p1 p2 p3 p4 p5 p6 h0 n0) (T109.setTop (mkF m 133 #[.val (.int p1), .val (.int p2), .val (.int p3), .val (.int p4), .val (.int p5), .val (.int p6), .val (.int (6 : Int32)), .val (.ref b97), .unset] []))
    have x1 := own_rem p2 (6 : Int32) (by decide)
    rw [show ((6 : Int32)).toInt = 6 from by decide] at x1
    have x2 := own_rem p3 (5 : Int32) (by decide)
    rw [show ((5 : Int32)).toInt = 5 from by decide] at x2
    have x3 := own_rem p4 (4 : Int32) (by decide)
    rw [show ((4 : Int32)).toInt = 4 from by decide] at x3
    have x4 := own_rem p5 (3 : Int32) (by decide)
    rw [show ((3 : Int32)).toInt = 3 from by decide] at x4
    have x5 := own_rem p6 (2 : Int32) (by decide)
    rw [show ((2 : Int32)).toInt = 2 from by decide] at x5
    have Vz : Av Z h109 b97 .int 6 (fun j => .int (Int32.ofNat ((zsel 6 ((p2 &&& (2147483647 : Int32)) % (6 : Int32)) ((p3 &&& (2147483647 : Int32)) % (5 : Int32)) ((p4 &&& (2147483647 : Int32)) % (4 : Int32)) ((p5 &&& (2147483647 : Int32)) % (3 : Int32)) ((p6 &&& (2147483647 : Int32)) % (2 : Int32))) j))) := (V109).eq (fun j hj => by
      rcases (by omega : j = 0 ∨ j = 1 ∨ j = 2 ∨ j = 3 ∨ j = 4 ∨ j = 5) with rfl | rfl | rfl | rfl | rfl | rfl
      · rfl
      · exact congrArg Value.int (own_back x1.1).symm
      · exact congrArg Value.int (own_back x2.1).symm
      · exact congrArg Value.int (own_back x3.1).symm
      · exact congrArg Value.int (own_back x4.1).symm
      · exact congrArg Value.int (own_back x5.1).symm)
    have hz : ∀ j, 1 ≤ j → j < 6 → j + (zsel 6 ((p2 &&& (2147483647 : Int32)) % (6 : Int32)) ((p3 &&& (2147483647 : Int32)) % (5 : Int32)) ((p4 &&& (2147483647 : Int32)) % (4 : Int32)) ((p5 &&& (2147483647 : Int32)) % (3 : Int32)) ((p6 &&& (2147483647 : Int32)) % (2 : Int32))) j ≤ 6 := fun j h1 h2 => by
      rcases (by omega : j = 1 ∨ j = 2 ∨ j = 3 ∨ j = 4 ∨ j = 5) with rfl | rfl | rfl | rfl | rfl
      · show 1 + (((p2 &&& (2147483647 : Int32)) % (6 : Int32))).toInt.toNat ≤ 6; omega
      · show 2 + (((p3 &&& (2147483647 : Int32)) % (5 : Int32))).toInt.toNat ≤ 6; omega
      · show 3 + (((p4 &&& (2147483647 : Int32)) % (4 : Int32))).toInt.toNat ≤ 6; omega
      · show 4 + (((p5 &&& (2147483647 : Int32)) % (3 : Int32))).toInt.toNat ≤ 6; omega
      · show 5 + (((p6 &&& (2147483647 : Int32)) % (2 : Int32))).toInt.toNat ≤ 6; omega
    refine Go.step (fun _ k => XS.aload X109.here hx rfl (hb hby at_133) rfl rfl k) ?_
    show Go FrameEnd p e below s 16 128 (Q0 Z p1 p2 p3 p4 p5 p6 h0 n0) (T109.setTop (mkF m 135 #[.val (.int p1), .val (.int p2), .val (.int p3), .val (.int p4), .val (.int p5), .val (.int p6), .val (.int (6 : Int32)), .val (.ref b97), .unset] [(.ref b97)]))
    obtain ⟨_, _, ⟨T110, L110, k110, n110⟩, -, X110, ⟨Lc110, hQ110, l110, y110, z110⟩, st110⟩ := Jvm.LawKit.callS X109 hx (y := (⟨"example/zedbox/Periods", "ofEachPrefix", "([I)[I"⟩ : MethodName)) hown (mvT hZ (hw _ (List.mem_of_getElem? (i := 2) rfl))) (mvT hZ (hw _ (List.mem_of_getElem? (i := 3) rfl))) (mvT hZ (hw _ (List.mem_of_getElem? (i := 4) rfl))) (mvT hZ (hw _ (List.mem_of_getElem? (i := 5) rfl))) (by decide) (backOf (W := 0) (rm3 l Z a0 hw [] b97 (zsel 6 ((p2 &&& (2147483647 : Int32)) % (6 : Int32)) ((p3 &&& (2147483647 : Int32)) % (5 : Int32)) ((p4 &&& (2147483647 : Int32)) % (4 : Int32)) ((p5 &&& (2147483647 : Int32)) % (3 : Int32)) ((p6 &&& (2147483647 : Int32)) % (2 : Int32))) 6 h109 n0 Z109 Vz (by decide) hz) hZ (hw _ (List.mem_of_getElem? (i := 5) rfl)) (hw _ (List.mem_of_getElem? (i := 4) rfl)) (by decide) (by decide)) (g := (mkF m 135 #[.val (.int p1), .val (.int p2), .val (.int p3), .val (.int p4), .val (.int p5), .val (.int p6), .val (.int (6 : Int32)), .val (.ref b97), .unset] [(.ref b97)])) rfl (by rw [hml]; rfl) (argsL := [(.ref b97)]) (rest := []) (lenOf pd___I__I rfl) rfl (by show 2 * 0 + _ ≤ _; exact Nat.le_of_eq rfl) (hb hby at_135) (fun _ _ => ⟨rfl, e109, (by decide : 1 + 1 ≤ _), (by decide : 6 + 7 ≤ _)⟩)
    dsimp only [Pt.U, Pt.locs, Pt.cells, Pt.slots] at X110 l110 y110 z110 st110 hQ110
    subst l110 y110 z110
    obtain ⟨b110a, rfl, N110q, szb110a, K110_0, xA110_1⟩ := hQ110
    have N110 := Fr.app N109 N110q
    have ne_b97_b110a : b97 ≠ b110a := Nat.ne_of_lt (Nat.lt_of_lt_of_le Vz.lt szb110a)
    have g_b110a : n0 ≤ b110a := Nat.le_trans Z109 szb110a
    have Z110 : n0 ≤ T110.heap.size := Nat.le_trans Z109 K110_0.1
    refine Go.step st110 ?_
    show Go FrameEnd p e below s 16 128 (Q0 Z p1 p2 p3 p4 p5 p6 h0 n0) (T110.setTop (mkF m 138 #[.val (.int p1), .val (.int p2), .val (.int p3), .val (.int p4), .val (.int p5), .val (.int p6), .val (.int (6 : Int32)), .val (.ref b97), .unset] [(.ref b110a)]))
    refine Go.step (fun _ k => XS.astore X110.here hx rfl (hb hby at_138) rfl rfl (l' := #[.val (.int p1), .val (.int p2), .val (.int p3), .val (.int p4), .val (.int p5), .val (.int p6), .val (.int (6 : Int32)), .val (.ref b97), .val (.ref b110a)]) rfl k) ?_
    show Go FrameEnd p e below s 16 128 (Q0 Z p1 p2 p3 p4 p5 p6 h0 n0) (T110.setTop (mkF m 140 #[.val (.int p1), .val (.int p2), .val (.int p3), .val (.int p4), .val (.int p5), .val (.int p6), .val (.int (6 : Int32)), .val (.ref b97), .val (.ref b110a)] []))
    refine Go.step (fun _ k => XS.aload X110.here hx rfl (hb hby at_140) rfl rfl k) ?_
    show Go FrameEnd p e below s 16 128 (Q0 Z p1 p2 p3 p4 p5 p6 h0 n0) (T110.setTop (mkF m 142 #[.val (.int p1), .val (.int p2), .val (.int p3), .val (.int p4), .val (.int p5), .val (.int p6), .val (.int (6 : Int32)), .val (.ref b97), .val (.ref b110a)] [(.ref b110a)]))
    refine Go.step (fun _ k => XS.ifnullNo X110.here hx rfl (hb hby at_142) rfl k) ?_
    show Go FrameEnd p e below s 16 128 (Q0 Z p1 p2 p3 p4 p5 p6 h0 n0) (T110.setTop (mkF m 145 #[.val (.int p1), .val (.int p2), .val (.int p3), .val (.int p4), .val (.int p5), .val (.int p6), .val (.int (6 : Int32)), .val (.ref b97), .val (.ref b110a)] []))
    refine Go.step (fun _ k => XS.aload X110.here hx rfl (hb hby at_145) rfl rfl k) ?_
    show Go FrameEnd p e below s 16 128 (Q0 Z p1 p2 p3 p4 p5 p6 h0 n0) (T110.setTop (mkF m 147 #[.val (.int p1), .val (.int p2), .val (.int p3), .val (.int p4), .val (.int p5), .val (.int p6), .val (.int (6 : Int32)), .val (.ref b97), .val (.ref b110a)] [(.ref b110a)]))
    obtain ⟨c111, Ac111, Sc111, Mc111, Gc111⟩ := id xA110_1
    refine Go.step (X110.arraylength hx Ac111.1 (State.isArrayOf_alike hZ.alike Ac111.2.1) (g := (mkF m 147 #[.val (.int p1), .val (.int p2), .val (.int p3), .val (.int p4), .val (.int p5), .val (.int p6), .val (.int (6 : Int32)), .val (.ref b97), .val (.ref b110a)] [(.ref b110a)])) rfl rfl (hb hby at_147)) ?_
    rw [show c111.slots.size.toInt32 = (7 : Int32) from congrArg Nat.toInt32 Sc111]
    show Go FrameEnd p e below s 16 128 (Q0 Z p1 p2 p3 p4 p5 p6 h0 n0) (T110.setTop (mkF m 148 #[.val (.int p1), .val (.int p2), .val (.int p3), .val (.int p4), .val (.int p5), .val (.int p6), .val (.int (6 : Int32)), .val (.ref b97), .val (.ref b110a)] [(.int (7 : Int32))]))
    refine Go.step (fun _ k => XS.iload X110.here hx rfl (hb hby at_148) rfl k) ?_
    show Go FrameEnd p e below s 16 128 (Q0 Z p1 p2 p3 p4 p5 p6 h0 n0) (T110.setTop (mkF m 150 #[.val (.int p1), .val (.int p2), .val (.int p3), .val (.int p4), .val (.int p5), .val (.int p6), .val (.int (6 : Int32)), .val (.ref b97), .val (.ref b110a)] [(.int (6 : Int32)), (.int (7 : Int32))]))
    refine Go.step (fun _ k => XS.iconst X110.here hx rfl (hb hby at_150) k) ?_
    show Go FrameEnd p e below s 16 128 (Q0 Z p1 p2 p3 p4 p5 p6 h0 n0) (T110.setTop (mkF m 151 #[.val (.int p1), .val (.int p2), .val (.int p3), .val (.int p4), .val (.int p5), .val (.int p6), .val (.int (6 : Int32)), .val (.ref b97), .val (.ref b110a)] [(.int (1 : Int32)), (.int (6 : Int32)), (.int (7 : Int32))]))
    refine Go.step (fun _ k => XS.iadd X110.here hx rfl (hb hby at_151) rfl k) ?_
    show Go FrameEnd p e below s 16 128 (Q0 Z p1 p2 p3 p4 p5 p6 h0 n0) (T110.setTop (mkF m 152 #[.val (.int p1), .val (.int p2), .val (.int p3), .val (.int p4), .val (.int p5), .val (.int p6), .val (.int (6 : Int32)), .val (.ref b97), .val (.ref b110a)] [(.int (7 : Int32)), (.int (7 : Int32))]))
    refine Go.step (fun _ k => XS.icmpYes X110.here hx rfl (pc0 := 152) (pc' := 157) rfl (hb hby at_152) rfl (teq rfl).1 (by decide) (by decide) k) ?_
    show Go FrameEnd p e below s 16 128 (Q0 Z p1 p2 p3 p4 p5 p6 h0 n0) (T110.setTop (mkF m 157 #[.val (.int p1), .val (.int p2), .val (.int p3), .val (.int p4), .val (.int p5), .val (.int p6), .val (.int (6 : Int32)), .val (.ref b97), .val (.ref b110a)] []))
    refine Go.step (fun _ k => XS.aload X110.here hx rfl (hb hby at_157) rfl rfl k) ?_
    show Go FrameEnd p e below s 16 128 (Q0 Z p1 p2 p3 p4 p5 p6 h0 n0) (T110.setTop (mkF m 159 #[.val (.int p1), .val (.int p2), .val (.int p3), .val (.int p4), .val (.int p5), .val (.int p6), .val (.int (6 : Int32)), .val (.ref b97), .val (.ref b110a)] [(.ref b110a)]))
    refine Go.step (fun _ k => XS.aload X110.here hx rfl (hb hby at_159) rfl rfl k) ?_
    show Go FrameEnd p e below s 16 128 (Q0 Z p1 p2 p3 p4 p5 p6 h0 n0) (T110.setTop (mkF m 161 #[.val (.int p1), .val (.int p2), .val (.int p3), .val (.int p4), .val (.int p5), .val (.int p6), .val (.int (6 : Int32)), .val (.ref b97), .val (.ref b110a)] [(.ref b97), (.ref b110a)]))
    refine Go.step (fun _ k => XS.iconst X110.here hx rfl (hb hby at_161) k) ?_
    show Go FrameEnd p e below s 16 128 (Q0 Z p1 p2 p3 p4 p5 p6 h0 n0) (T110.setTop (mkF m 162 #[.val (.int p1), .val (.int p2), .val (.int p3), .val (.int p4), .val (.int p5), .val (.int p6), .val (.int (6 : Int32)), .val (.ref b97), .val (.ref b110a)] [(.int (0 : Int32)), (.ref b97), (.ref b110a)]))
    have f_112 := (Vz.keep K110_0 nin0)
    obtain ⟨_, _, ⟨T113, L113, k113, n113⟩, -, X113, ⟨Lc113, hQ113, l113, y113, z113⟩, st113⟩ := Jvm.LawKit.callS X110 hx (y := (⟨"example/zedbox/PeriodsOfEachPrefixPinLaw", "ok", "([I[II)Z"⟩ : MethodName)) hown (mvT hZ (hw _ (List.mem_of_getElem? (i := 6) rfl))) (mvT hZ (hw _ (List.mem_of_getElem? (i := 7) rfl))) (mvT hZ (hw _ (List.mem_of_getElem? (i := 8) rfl))) (mvT hZ (hw _ (List.mem_of_getElem? (i := 9) rfl))) (by decide) (backOf (W := 0) (rm2 l Z a0 hw [] b110a b97 (zsel 6 ((p2 &&& (2147483647 : Int32)) % (6 : Int32)) ((p3 &&& (2147483647 : Int32)) % (5 : Int32)) ((p4 &&& (2147483647 : Int32)) % (4 : Int32)) ((p5 &&& (2147483647 : Int32)) % (3 : Int32)) ((p6 &&& (2147483647 : Int32)) % (2 : Int32))) 0 6 T110.heap f_112 xA110_1 (by decide) hz) hZ (hw _ (List.mem_of_getElem? (i := 9) rfl)) (hw _ (List.mem_of_getElem? (i := 8) rfl)) (by decide) (by decide)) (g := (mkF m 162 #[.val (.int p1), .val (.int p2), .val (.int p3), .val (.int p4), .val (.int p5), .val (.int p6), .val (.int (6 : Int32)), .val (.ref b97), .val (.ref b110a)] [(.int (0 : Int32)), (.ref b97), (.ref b110a)])) rfl (by rw [hml]; rfl) (argsL := [(.ref b110a), (.ref b97), (.int (0 : Int32))]) (rest := []) (lenOf pd___I_II_Z rfl) rfl (by show 2 * 0 + _ ≤ _; exact Nat.le_of_eq rfl) (hb hby at_162) (fun _ _ => ⟨rfl, rfl, (by decide : 2 + 0 ≤ _), (by decide : 13 + 0 ≤ _)⟩)
    dsimp only [Pt.U, Pt.locs, Pt.cells, Pt.slots] at X113 l113 y113 z113 st113 hQ113
    subst l113 y113 z113
    obtain ⟨rfl, rfl, e113⟩ := hQ113
    have N113 := Fr.app N110 (Fr.nil n0)
    refine Go.step st113 ?_
    show Go FrameEnd p e below s 16 128 (Q0 Z p1 p2 p3 p4 p5 p6 h0 n0) (T113.setTop (mkF m 165 #[.val (.int p1), .val (.int p2), .val (.int p3), .val (.int p4), .val (.int p5), .val (.int p6), .val (.int (6 : Int32)), .val (.ref b97), .val (.ref b110a)] [(.int (1 : Int32))]))
    refine Go.step (fun _ k => XS.ifNo X113.here hx rfl (hb hby at_165) rfl ((if0 _ _).trans (feq (by decide)).1) k) ?_
    show Go FrameEnd p e below s 16 128 (Q0 Z p1 p2 p3 p4 p5 p6 h0 n0) (T113.setTop (mkF m 168 #[.val (.int p1), .val (.int p2), .val (.int p3), .val (.int p4), .val (.int p5), .val (.int p6), .val (.int (6 : Int32)), .val (.ref b97), .val (.ref b110a)] []))
    refine Go.step (fun _ k => XS.aload X113.here hx rfl (hb hby at_168) rfl rfl k) ?_
    show Go FrameEnd p e below s 16 128 (Q0 Z p1 p2 p3 p4 p5 p6 h0 n0) (T113.setTop (mkF m 170 #[.val (.int p1), .val (.int p2), .val (.int p3), .val (.int p4), .val (.int p5), .val (.int p6), .val (.int (6 : Int32)), .val (.ref b97), .val (.ref b110a)] [(.ref b110a)]))
    refine Go.step (fun _ k => XS.aload X113.here hx rfl (hb hby at_170) rfl rfl k) ?_
    show Go FrameEnd p e below s 16 128 (Q0 Z p1 p2 p3 p4 p5 p6 h0 n0) (T113.setTop (mkF m 172 #[.val (.int p1), .val (.int p2), .val (.int p3), .val (.int p4), .val (.int p5), .val (.int p6), .val (.int (6 : Int32)), .val (.ref b97), .val (.ref b110a)] [(.ref b97), (.ref b110a)]))
    refine Go.step (fun _ k => XS.iconst X113.here hx rfl (hb hby at_172) k) ?_
    show Go FrameEnd p e below s 16 128 (Q0 Z p1 p2 p3 p4 p5 p6 h0 n0) (T113.setTop (mkF m 173 #[.val (.int p1), .val (.int p2), .val (.int p3), .val (.int p4), .val (.int p5), .val (.int p6), .val (.int (6 : Int32)), .val (.ref b97), .val (.ref b110a)] [(.int (1 : Int32)), (.ref b97), (.ref b110a)]))
    obtain ⟨_, _, ⟨T114, L114, k114, n114⟩, -, X114, ⟨Lc114, hQ114, l114, y114, z114⟩, st114⟩ := Jvm.LawKit.callS X113 hx (y := (⟨"example/zedbox/PeriodsOfEachPrefixPinLaw", "ok", "([I[II)Z"⟩ : MethodName)) hown (mvT hZ (hw _ (List.mem_of_getElem? (i := 6) rfl))) (mvT hZ (hw _ (List.mem_of_getElem? (i := 7) rfl))) (mvT hZ (hw _ (List.mem_of_getElem? (i := 8) rfl))) (mvT hZ (hw _ (List.mem_of_getElem? (i := 9) rfl))) (by decide) (backOf (W := 0) (rm2 l Z a0 hw [] b110a b97 (zsel 6 ((p2 &&& (2147483647 : Int32)) % (6 : Int32)) ((p3 &&& (2147483647 : Int32)) % (5 : Int32)) ((p4 &&& (2147483647 : Int32)) % (4 : Int32)) ((p5 &&& (2147483647 : Int32)) % (3 : Int32)) ((p6 &&& (2147483647 : Int32)) % (2 : Int32))) 1 6 T110.heap f_112 xA110_1 (by decide) hz) hZ (hw _ (List.mem_of_getElem? (i := 9) rfl)) (hw _ (List.mem_of_getElem? (i := 8) rfl)) (by decide) (by decide)) (g := (mkF m 173 #[.val (.int p1), .val (.int p2), .val (.int p3), .val (.int p4), .val (.int p5), .val (.int p6), .val (.int (6 : Int32)), .val (.ref b97), .val (.ref b110a)] [(.int (1 : Int32)), (.ref b97), (.ref b110a)])) rfl (by rw [hml]; rfl) (argsL := [(.ref b110a), (.ref b97), (.int (1 : Int32))]) (rest := []) (lenOf pd___I_II_Z rfl) rfl (by show 2 * 0 + _ ≤ _; exact Nat.le_of_eq rfl) (hb hby at_173) (fun _ _ => ⟨rfl, e113, (by decide : 2 + 0 ≤ _), (by decide : 13 + 0 ≤ _)⟩)
    dsimp only [Pt.U, Pt.locs, Pt.cells, Pt.slots] at X114 l114 y114 z114 st114 hQ114
    subst l114 y114 z114
    obtain ⟨rfl, rfl, e114⟩ := hQ114
    have N114 := Fr.app N113 (Fr.nil n0)
    refine Go.step st114 ?_
    show Go FrameEnd p e below s 16 128 (Q0 Z p1 p2 p3 p4 p5 p6 h0 n0) (T114.setTop (mkF m 176 #[.val (.int p1), .val (.int p2), .val (.int p3), .val (.int p4), .val (.int p5), .val (.int p6), .val (.int (6 : Int32)), .val (.ref b97), .val (.ref b110a)] [(.int (1 : Int32))]))
    refine Go.step (fun _ k => XS.ifNo X114.here hx rfl (hb hby at_176) rfl ((if0 _ _).trans (feq (by decide)).1) k) ?_
    show Go FrameEnd p e below s 16 128 (Q0 Z p1 p2 p3 p4 p5 p6 h0 n0) (T114.setTop (mkF m 179 #[.val (.int p1), .val (.int p2), .val (.int p3), .val (.int p4), .val (.int p5), .val (.int p6), .val (.int (6 : Int32)), .val (.ref b97), .val (.ref b110a)] []))
    refine Go.step (fun _ k => XS.aload X114.here hx rfl (hb hby at_179) rfl rfl k) ?_
    show Go FrameEnd p e below s 16 128 (Q0 Z p1 p2 p3 p4 p5 p6 h0 n0) (T114.setTop (mkF m 181 #[.val (.int p1), .val (.int p2), .val (.int p3), .val (.int p4), .val (.int p5), .val (.int p6), .val (.int (6 : Int32)), .val (.ref b97), .val (.ref b110a)] [(.ref b110a)]))
    refine Go.step (fun _ k => XS.aload X114.here hx rfl (hb hby at_181) rfl rfl k) ?_
    show Go FrameEnd p e below s 16 128 (Q0 Z p1 p2 p3 p4 p5 p6 h0 n0) (T114.setTop (mkF m 183 #[.val (.int p1), .val (.int p2), .val (.int p3), .val (.int p4), .val (.int p5), .val (.int p6), .val (.int (6 : Int32)), .val (.ref b97), .val (.ref b110a)] [(.ref b97), (.ref b110a)]))
    refine Go.step (fun _ k => XS.iconst X114.here hx rfl (hb hby at_183) k) ?_
    show Go FrameEnd p e below s 16 128 (Q0 Z p1 p2 p3 p4 p5 p6 h0 n0) (T114.setTop (mkF m 184 #[.val (.int p1), .val (.int p2), .val (.int p3), .val (.int p4), .val (.int p5), .val (.int p6), .val (.int (6 : Int32)), .val (.ref b97), .val (.ref b110a)] [(.int (2 : Int32)), (.ref b97), (.ref b110a)]))
    obtain ⟨_, _, ⟨T115, L115, k115, n115⟩, -, X115, ⟨Lc115, hQ115, l115, y115, z115⟩, st115⟩ := Jvm.LawKit.callS X114 hx (y := (⟨"example/zedbox/PeriodsOfEachPrefixPinLaw", "ok", "([I[II)Z"⟩ : MethodName)) hown (mvT hZ (hw _ (List.mem_of_getElem? (i := 6) rfl))) (mvT hZ (hw _ (List.mem_of_getElem? (i := 7) rfl))) (mvT hZ (hw _ (List.mem_of_getElem? (i := 8) rfl))) (mvT hZ (hw _ (List.mem_of_getElem? (i := 9) rfl))) (by decide) (backOf (W := 0) (rm2 l Z a0 hw [] b110a b97 (zsel 6 ((p2 &&& (2147483647 : Int32)) % (6 : Int32)) ((p3 &&& (2147483647 : Int32)) % (5 : Int32)) ((p4 &&& (2147483647 : Int32)) % (4 : Int32)) ((p5 &&& (2147483647 : Int32)) % (3 : Int32)) ((p6 &&& (2147483647 : Int32)) % (2 : Int32))) 2 6 T110.heap f_112 xA110_1 (by decide) hz) hZ (hw _ (List.mem_of_getElem? (i := 9) rfl)) (hw _ (List.mem_of_getElem? (i := 8) rfl)) (by decide) (by decide)) (g := (mkF m 184 #[.val (.int p1), .val (.int p2), .val (.int p3), .val (.int p4), .val (.int p5), .val (.int p6), .val (.int (6 : Int32)), .val (.ref b97), .val (.ref b110a)] [(.int (2 : Int32)), (.ref b97), (.ref b110a)])) rfl (by rw [hml]; rfl) (argsL := [(.ref b110a), (.ref b97), (.int (2 : Int32))]) (rest := []) (lenOf pd___I_II_Z rfl) rfl (by show 2 * 0 + _ ≤ _; exact Nat.le_of_eq rfl) (hb hby at_184) (fun _ _ => ⟨rfl, e114, (by decide : 2 + 0 ≤ _), (by decide : 13 + 0 ≤ _)⟩)
    dsimp only [Pt.U, Pt.locs, Pt.cells, Pt.slots] at X115 l115 y115 z115 st115 hQ115
    subst l115 y115 z115
    obtain ⟨rfl, rfl, e115⟩ := hQ115
    have N115 := Fr.app N114 (Fr.nil n0)
    refine Go.step st115 ?_
    show Go FrameEnd p e below s 16 128 (Q0 Z p1 p2 p3 p4 p5 p6 h0 n0) (T115.setTop (mkF m 187 #[.val (.int p1), .val (.int p2), .val (.int p3), .val (.int p4), .val (.int p5), .val (.int p6), .val (.int (6 : Int32)), .val (.ref b97), .val (.ref b110a)] [(.int (1 : Int32))]))
    refine Go.step (fun _ k => XS.ifNo X115.here hx rfl (hb hby at_187) rfl ((if0 _ _).trans (feq (by decide)).1) k) ?_
    show Go FrameEnd p e below s 16 128 (Q0 Z p1 p2 p3 p4 p5 p6 h0 n0) (T115.setTop (mkF m 190 #[.val (.int p1), .val (.int p2), .val (.int p3), .val (.int p4), .val (.int p5), .val (.int p6), .val (.int (6 : Int32)), .val (.ref b97), .val (.ref b110a)] []))
    refine Go.step (fun _ k => XS.aload X115.here hx rfl (hb hby at_190) rfl rfl k) ?_
    show Go FrameEnd p e below s 16 128 (Q0 Z p1 p2 p3 p4 p5 p6 h0 n0) (T115.setTop (mkF m 192 #[.val (.int p1), .val (.int p2), .val (.int p3), .val (.int p4), .val (.int p5), .val (.int p6), .val (.int (6 : Int32)), .val (.ref b97), .val (.ref b110a)] [(.ref b110a)]))
    refine Go.step (fun _ k => XS.aload X115.here hx rfl (hb hby at_192) rfl rfl k) ?_
    show Go FrameEnd p e below s 16 128 (Q0 Z p1 p2 p3 p4 p5 p6 h0 n0) (T115.setTop (mkF m 194 #[.val (.int p1), .val (.int p2), .val (.int p3), .val (.int p4), .val (.int p5), .val (.int p6), .val (.int (6 : Int32)), .val (.ref b97), .val (.ref b110a)] [(.ref b97), (.ref b110a)]))
    refine Go.step (fun _ k => XS.iconst X115.here hx rfl (hb hby at_194) k) ?_
    show Go FrameEnd p e below s 16 128 (Q0 Z p1 p2 p3 p4 p5 p6 h0 n0) (T115.setTop (mkF m 195 #[.val (.int p1), .val (.int p2), .val (.int p3), .val (.int p4), .val (.int p5), .val (.int p6), .val (.int (6 : Int32)), .val (.ref b97), .val (.ref b110a)] [(.int (3 : Int32)), (.ref b97), (.ref b110a)]))
    obtain ⟨_, _, ⟨T116, L116, k116, n116⟩, -, X116, ⟨Lc116, hQ116, l116, y116, z116⟩, st116⟩ := Jvm.LawKit.callS X115 hx (y := (⟨"example/zedbox/PeriodsOfEachPrefixPinLaw", "ok", "([I[II)Z"⟩ : MethodName)) hown (mvT hZ (hw _ (List.mem_of_getElem? (i := 6) rfl))) (mvT hZ (hw _ (List.mem_of_getElem? (i := 7) rfl))) (mvT hZ (hw _ (List.mem_of_getElem? (i := 8) rfl))) (mvT hZ (hw _ (List.mem_of_getElem? (i := 9) rfl))) (by decide) (backOf (W := 0) (rm2 l Z a0 hw [] b110a b97 (zsel 6 ((p2 &&& (2147483647 : Int32)) % (6 : Int32)) ((p3 &&& (2147483647 : Int32)) % (5 : Int32)) ((p4 &&& (2147483647 : Int32)) % (4 : Int32)) ((p5 &&& (2147483647 : Int32)) % (3 : Int32)) ((p6 &&& (2147483647 : Int32)) % (2 : Int32))) 3 6 T110.heap f_112 xA110_1 (by decide) hz) hZ (hw _ (List.mem_of_getElem? (i := 9) rfl)) (hw _ (List.mem_of_getElem? (i := 8) rfl)) (by decide) (by decide)) (g := (mkF m 195 #[.val (.int p1), .val (.int p2), .val (.int p3), .val (.int p4), .val (.int p5), .val (.int p6), .val (.int (6 : Int32)), .val (.ref b97), .val (.ref b110a)] [(.int (3 : Int32)), (.ref b97), (.ref b110a)])) rfl (by rw [hml]; rfl) (argsL := [(.ref b110a), (.ref b97), (.int (3 : Int32))]) (rest := []) (lenOf pd___I_II_Z rfl) rfl (by show 2 * 0 + _ ≤ _; exact Nat.le_of_eq rfl) (hb hby at_195) (fun _ _ => ⟨rfl, e115, (by decide : 2 + 0 ≤ _), (by decide : 13 + 0 ≤ _)⟩)
    dsimp only [Pt.U, Pt.locs, Pt.cells, Pt.slots] at X116 l116 y116 z116 st116 hQ116
    subst l116 y116 z116
    obtain ⟨rfl, rfl, e116⟩ := hQ116
    have N116 := Fr.app N115 (Fr.nil n0)
    refine Go.step st116 ?_
    show Go FrameEnd p e below s 16 128 (Q0 Z p1 p2 p3 p4 p5 p6 h0 n0) (T116.setTop (mkF m 198 #[.val (.int p1), .val (.int p2), .val (.int p3), .val (.int p4), .val (.int p5), .val (.int p6), .val (.int (6 : Int32)), .val (.ref b97), .val (.ref b110a)] [(.int (1 : Int32))]))
    refine Go.step (fun _ k => XS.ifNo X116.here hx rfl (hb hby at_198) rfl ((if0 _ _).trans (feq (by decide)).1) k) ?_
    show Go FrameEnd p e below s 16 128 (Q0 Z p1 p2 p3 p4 p5 p6 h0 n0) (T116.setTop (mkF m 201 #[.val (.int p1), .val (.int p2), .val (.int p3), .val (.int p4), .val (.int p5), .val (.int p6), .val (.int (6 : Int32)), .val (.ref b97), .val (.ref b110a)] []))
    refine Go.step (fun _ k => XS.aload X116.here hx rfl (hb hby at_201) rfl rfl k) ?_
    show Go FrameEnd p e below s 16 128 (Q0 Z p1 p2 p3 p4 p5 p6 h0 n0) (T116.setTop (mkF m 203 #[.val (.int p1), .val (.int p2), .val (.int p3), .val (.int p4), .val (.int p5), .val (.int p6), .val (.int (6 : Int32)), .val (.ref b97), .val (.ref b110a)] [(.ref b110a)]))
    refine Go.step (fun _ k => XS.aload X116.here hx rfl (hb hby at_203) rfl rfl k) ?_
    show Go FrameEnd p e below s 16 128 (Q0 Z p1 p2 p3 p4 p5 p6 h0 n0) (T116.setTop (mkF m 205 #[.val (.int p1), .val (.int p2), .val (.int p3), .val (.int p4), .val (.int p5), .val (.int p6), .val (.int (6 : Int32)), .val (.ref b97), .val (.ref b110a)] [(.ref b97), (.ref b110a)]))
    refine Go.step (fun _ k => XS.iconst X116.here hx rfl (hb hby at_205) k) ?_
    show Go FrameEnd p e below s 16 128 (Q0 Z p1 p2 p3 p4 p5 p6 h0 n0) (T116.setTop (mkF m 206 #[.val (.int p1), .val (.int p2), .val (.int p3), .val (.int p4), .val (.int p5), .val (.int p6), .val (.int (6 : Int32)), .val (.ref b97), .val (.ref b110a)] [(.int (4 : Int32)), (.ref b97), (.ref b110a)]))
    obtain ⟨_, _, ⟨T117, L117, k117, n117⟩, -, X117, ⟨Lc117, hQ117, l117, y117, z117⟩, st117⟩ := Jvm.LawKit.callS X116 hx (y := (⟨"example/zedbox/PeriodsOfEachPrefixPinLaw", "ok", "([I[II)Z"⟩ : MethodName)) hown (mvT hZ (hw _ (List.mem_of_getElem? (i := 6) rfl))) (mvT hZ (hw _ (List.mem_of_getElem? (i := 7) rfl))) (mvT hZ (hw _ (List.mem_of_getElem? (i := 8) rfl))) (mvT hZ (hw _ (List.mem_of_getElem? (i := 9) rfl))) (by decide) (backOf (W := 0) (rm2 l Z a0 hw [] b110a b97 (zsel 6 ((p2 &&& (2147483647 : Int32)) % (6 : Int32)) ((p3 &&& (2147483647 : Int32)) % (5 : Int32)) ((p4 &&& (2147483647 : Int32)) % (4 : Int32)) ((p5 &&& (2147483647 : Int32)) % (3 : Int32)) ((p6 &&& (2147483647 : Int32)) % (2 : Int32))) 4 6 T110.heap f_112 xA110_1 (by decide) hz) hZ (hw _ (List.mem_of_getElem? (i := 9) rfl)) (hw _ (List.mem_of_getElem? (i := 8) rfl)) (by decide) (by decide)) (g := (mkF m 206 #[.val (.int p1), .val (.int p2), .val (.int p3), .val (.int p4), .val (.int p5), .val (.int p6), .val (.int (6 : Int32)), .val (.ref b97), .val (.ref b110a)] [(.int (4 : Int32)), (.ref b97), (.ref b110a)])) rfl (by rw [hml]; rfl) (argsL := [(.ref b110a), (.ref b97), (.int (4 : Int32))]) (rest := []) (lenOf pd___I_II_Z rfl) rfl (by show 2 * 0 + _ ≤ _; exact Nat.le_of_eq rfl) (hb hby at_206) (fun _ _ => ⟨rfl, e116, (by decide : 2 + 0 ≤ _), (by decide : 13 + 0 ≤ _)⟩)
    dsimp only [Pt.U, Pt.locs, Pt.cells, Pt.slots] at X117 l117 y117 z117 st117 hQ117
    subst l117 y117 z117
    obtain ⟨rfl, rfl, e117⟩ := hQ117
    have N117 := Fr.app N116 (Fr.nil n0)
    refine Go.step st117 ?_
    show Go FrameEnd p e below s 16 128 (Q0 Z p1 p2 p3 p4 p5 p6 h0 n0) (T117.setTop (mkF m 209 #[.val (.int p1), .val (.int p2), .val (.int p3), .val (.int p4), .val (.int p5), .val (.int p6), .val (.int (6 : Int32)), .val (.ref b97), .val (.ref b110a)] [(.int (1 : Int32))]))
    refine Go.step (fun _ k => XS.ifNo X117.here hx rfl (hb hby at_209) rfl ((if0 _ _).trans (feq (by decide)).1) k) ?_
    show Go FrameEnd p e below s 16 128 (Q0 Z p1 p2 p3 p4 p5 p6 h0 n0) (T117.setTop (mkF m 212 #[.val (.int p1), .val (.int p2), .val (.int p3), .val (.int p4), .val (.int p5), .val (.int p6), .val (.int (6 : Int32)), .val (.ref b97), .val (.ref b110a)] []))
    refine Go.step (fun _ k => XS.aload X117.here hx rfl (hb hby at_212) rfl rfl k) ?_
    show Go FrameEnd p e below s 16 128 (Q0 Z p1 p2 p3 p4 p5 p6 h0 n0) (T117.setTop (mkF m 214 #[.val (.int p1), .val (.int p2), .val (.int p3), .val (.int p4), .val (.int p5), .val (.int p6), .val (.int (6 : Int32)), .val (.ref b97), .val (.ref b110a)] [(.ref b110a)]))
    refine Go.step (fun _ k => XS.aload X117.here hx rfl (hb hby at_214) rfl rfl k) ?_
    show Go FrameEnd p e below s 16 128 (Q0 Z p1 p2 p3 p4 p5 p6 h0 n0) (T117.setTop (mkF m 216 #[.val (.int p1), .val (.int p2), .val (.int p3), .val (.int p4), .val (.int p5), .val (.int p6), .val (.int (6 : Int32)), .val (.ref b97), .val (.ref b110a)] [(.ref b97), (.ref b110a)]))
    refine Go.step (fun _ k => XS.iconst X117.here hx rfl (hb hby at_216) k) ?_
    show Go FrameEnd p e below s 16 128 (Q0 Z p1 p2 p3 p4 p5 p6 h0 n0) (T117.setTop (mkF m 217 #[.val (.int p1), .val (.int p2), .val (.int p3), .val (.int p4), .val (.int p5), .val (.int p6), .val (.int (6 : Int32)), .val (.ref b97), .val (.ref b110a)] [(.int (5 : Int32)), (.ref b97), (.ref b110a)]))
    obtain ⟨_, _, ⟨T118, L118, k118, n118⟩, -, X118, ⟨Lc118, hQ118, l118, y118, z118⟩, st118⟩ := Jvm.LawKit.callS X117 hx (y := (⟨"example/zedbox/PeriodsOfEachPrefixPinLaw", "ok", "([I[II)Z"⟩ : MethodName)) hown (mvT hZ (hw _ (List.mem_of_getElem? (i := 6) rfl))) (mvT hZ (hw _ (List.mem_of_getElem? (i := 7) rfl))) (mvT hZ (hw _ (List.mem_of_getElem? (i := 8) rfl))) (mvT hZ (hw _ (List.mem_of_getElem? (i := 9) rfl))) (by decide) (backOf (W := 0) (rm2 l Z a0 hw [] b110a b97 (zsel 6 ((p2 &&& (2147483647 : Int32)) % (6 : Int32)) ((p3 &&& (2147483647 : Int32)) % (5 : Int32)) ((p4 &&& (2147483647 : Int32)) % (4 : Int32)) ((p5 &&& (2147483647 : Int32)) % (3 : Int32)) ((p6 &&& (2147483647 : Int32)) % (2 : Int32))) 5 6 T110.heap f_112 xA110_1 (by decide) hz) hZ (hw _ (List.mem_of_getElem? (i := 9) rfl)) (hw _ (List.mem_of_getElem? (i := 8) rfl)) (by decide) (by decide)) (g := (mkF m 217 #[.val (.int p1), .val (.int p2), .val (.int p3), .val (.int p4), .val (.int p5), .val (.int p6), .val (.int (6 : Int32)), .val (.ref b97), .val (.ref b110a)] [(.int (5 : Int32)), (.ref b97), (.ref b110a)])) rfl (by rw [hml]; rfl) (argsL := [(.ref b110a), (.ref b97), (.int (5 : Int32))]) (rest := []) (lenOf pd___I_II_Z rfl) rfl (by show 2 * 0 + _ ≤ _; exact Nat.le_of_eq rfl) (hb hby at_217) (fun _ _ => ⟨rfl, e117, (by decide : 2 + 0 ≤ _), (by decide : 13 + 0 ≤ _)⟩)
    dsimp only [Pt.U, Pt.locs, Pt.cells, Pt.slots] at X118 l118 y118 z118 st118 hQ118
    subst l118 y118 z118
    obtain ⟨rfl, rfl, e118⟩ := hQ118
    have N118 := Fr.app N117 (Fr.nil n0)
    refine Go.step st118 ?_
    show Go FrameEnd p e below s 16 128 (Q0 Z p1 p2 p3 p4 p5 p6 h0 n0) (T118.setTop (mkF m 220 #[.val (.int p1), .val (.int p2), .val (.int p3), .val (.int p4), .val (.int p5), .val (.int p6), .val (.int (6 : Int32)), .val (.ref b97), .val (.ref b110a)] [(.int (1 : Int32))]))
    refine Go.step (fun _ k => XS.ifNo X118.here hx rfl (hb hby at_220) rfl ((if0 _ _).trans (feq (by decide)).1) k) ?_
    show Go FrameEnd p e below s 16 128 (Q0 Z p1 p2 p3 p4 p5 p6 h0 n0) (T118.setTop (mkF m 223 #[.val (.int p1), .val (.int p2), .val (.int p3), .val (.int p4), .val (.int p5), .val (.int p6), .val (.int (6 : Int32)), .val (.ref b97), .val (.ref b110a)] []))
    refine Go.step (fun _ k => XS.aload X118.here hx rfl (hb hby at_223) rfl rfl k) ?_
    show Go FrameEnd p e below s 16 128 (Q0 Z p1 p2 p3 p4 p5 p6 h0 n0) (T118.setTop (mkF m 225 #[.val (.int p1), .val (.int p2), .val (.int p3), .val (.int p4), .val (.int p5), .val (.int p6), .val (.int (6 : Int32)), .val (.ref b97), .val (.ref b110a)] [(.ref b110a)]))
    refine Go.step (fun _ k => XS.aload X118.here hx rfl (hb hby at_225) rfl rfl k) ?_
    show Go FrameEnd p e below s 16 128 (Q0 Z p1 p2 p3 p4 p5 p6 h0 n0) (T118.setTop (mkF m 227 #[.val (.int p1), .val (.int p2), .val (.int p3), .val (.int p4), .val (.int p5), .val (.int p6), .val (.int (6 : Int32)), .val (.ref b97), .val (.ref b110a)] [(.ref b97), (.ref b110a)]))
    refine Go.step (fun _ k => XS.bipush X118.here hx rfl (hb hby at_227) k) ?_
    show Go FrameEnd p e below s 16 128 (Q0 Z p1 p2 p3 p4 p5 p6 h0 n0) (T118.setTop (mkF m 229 #[.val (.int p1), .val (.int p2), .val (.int p3), .val (.int p4), .val (.int p5), .val (.int p6), .val (.int (6 : Int32)), .val (.ref b97), .val (.ref b110a)] [(.int (6 : Int32)), (.ref b97), (.ref b110a)]))
    obtain ⟨_, _, ⟨T119, L119, k119, n119⟩, -, X119, ⟨Lc119, hQ119, l119, y119, z119⟩, st119⟩ := Jvm.LawKit.callS X118 hx (y := (⟨"example/zedbox/PeriodsOfEachPrefixPinLaw", "ok", "([I[II)Z"⟩ : MethodName)) hown (mvT hZ (hw _ (List.mem_of_getElem? (i := 6) rfl))) (mvT hZ (hw _ (List.mem_of_getElem? (i := 7) rfl))) (mvT hZ (hw _ (List.mem_of_getElem? (i := 8) rfl))) (mvT hZ (hw _ (List.mem_of_getElem? (i := 9) rfl))) (by decide) (backOf (W := 0) (rm2 l Z a0 hw [] b110a b97 (zsel 6 ((p2 &&& (2147483647 : Int32)) % (6 : Int32)) ((p3 &&& (2147483647 : Int32)) % (5 : Int32)) ((p4 &&& (2147483647 : Int32)) % (4 : Int32)) ((p5 &&& (2147483647 : Int32)) % (3 : Int32)) ((p6 &&& (2147483647 : Int32)) % (2 : Int32))) 6 6 T110.heap f_112 xA110_1 (by decide) hz) hZ (hw _ (List.mem_of_getElem? (i := 9) rfl)) (hw _ (List.mem_of_getElem? (i := 8) rfl)) (by decide) (by decide)) (g := (mkF m 229 #[.val (.int p1), .val (.int p2), .val (.int p3), .val (.int p4), .val (.int p5), .val (.int p6), .val (.int (6 : Int32)), .val (.ref b97), .val (.ref b110a)] [(.int (6 : Int32)), (.ref b97), (.ref b110a)])) rfl (by rw [hml]; rfl) (argsL := [(.ref b110a), (.ref b97), (.int (6 : Int32))]) (rest := []) (lenOf pd___I_II_Z rfl) rfl (by show 2 * 0 + _ ≤ _; exact Nat.le_of_eq rfl) (hb hby at_229) (fun _ _ => ⟨rfl, e118, (by decide : 2 + 0 ≤ _), (by decide : 13 + 0 ≤ _)⟩)
    dsimp only [Pt.U, Pt.locs, Pt.cells, Pt.slots] at X119 l119 y119 z119 st119 hQ119
    subst l119 y119 z119
    obtain ⟨rfl, rfl, e119⟩ := hQ119
    have N119 := Fr.app N118 (Fr.nil n0)
    refine Go.step st119 ?_
    show Go FrameEnd p e below s 16 128 (Q0 Z p1 p2 p3 p4 p5 p6 h0 n0) (T119.setTop (mkF m 232 #[.val (.int p1), .val (.int p2), .val (.int p3), .val (.int p4), .val (.int p5), .val (.int p6), .val (.int (6 : Int32)), .val (.ref b97), .val (.ref b110a)] [(.int (1 : Int32))]))
    refine Go.step (fun _ k => XS.ifNo X119.here hx rfl (hb hby at_232) rfl ((if0 _ _).trans (feq (by decide)).1) k) ?_
    show Go FrameEnd p e below s 16 128 (Q0 Z p1 p2 p3 p4 p5 p6 h0 n0) (T119.setTop (mkF m 235 #[.val (.int p1), .val (.int p2), .val (.int p3), .val (.int p4), .val (.int p5), .val (.int p6), .val (.int (6 : Int32)), .val (.ref b97), .val (.ref b110a)] []))
    refine Go.step (fun _ k => XS.iconst X119.here hx rfl (hb hby at_235) k) ?_
    show Go FrameEnd p e below s 16 128 (Q0 Z p1 p2 p3 p4 p5 p6 h0 n0) (T119.setTop (mkF m 236 #[.val (.int p1), .val (.int p2), .val (.int p3), .val (.int p4), .val (.int p5), .val (.int p6), .val (.int (6 : Int32)), .val (.ref b97), .val (.ref b110a)] [(.int (1 : Int32))]))
    refine Go.step (fun _ k => XS.goto X119.here hx rfl (pc0 := 236) (pc' := 240) rfl (hb hby at_236) (by decide) (by decide) k) ?_
    show Go FrameEnd p e below s 16 128 (Q0 Z p1 p2 p3 p4 p5 p6 h0 n0) (T119.setTop (mkF m 240 #[.val (.int p1), .val (.int p2), .val (.int p3), .val (.int p4), .val (.int p5), .val (.int p6), .val (.int (6 : Int32)), .val (.ref b97), .val (.ref b110a)] [(.int (1 : Int32))]))
    refine Go.retN X119 hx (t := .boolean) Bd.returns (by simp) (by decide) (hb hby at_240) (BodyLoose.notSynchronized Bd) e119 (by decide) (by decide) ?_
    exact ⟨rfl, N119⟩
set_option maxRecDepth 65536 in
set_option maxHeartbeats 40000000 in
theorem comes_1 {Post : Tables → Env → Array Value → State → Outcome → State → Prop} (hpost : ∀ tb e args s v u, (limb_1_1.after args s (.returned v) u = true ∧ limb_1_2.after args s (.returned v) u = true ∧ True) → FrameEnd s (.returned v) u (Jvm.fieldLocs frame_1_writes args s ++ Jvm.arrayLocs frame_1_arrays args s ++ Jvm.staticLocs frame_1_statics s) 16 128 → Post tb e args s (.returned v) u) :
    ArmFor flags0 classFile x code maxLocals ret World_1 tables_1 room_1 Calls_1 rest_1 Pre_1 Post := by
  intro l hfl _ _ p e ha hc hk s m args below hf hA hF happ hP
  obtain ⟨hcalls, hrest, hpre⟩ := hP
  obtain ⟨-, -, -, hnamed, -, -, -, hat⟩ := (Spec.applies_iff hf).mp happ
  obtain ⟨hg, hn⟩ := and_e (Cond.before_iff.mp (show (Jvm.Cond.and given_1 narrow_1).before args s = true from hpre))
  obtain ⟨h1, h2⟩ := and_e hg
  obtain ⟨w0, w1, w2, w3, w4, w5, rfl⟩ : ∃ w0 w1 w2 w3 w4 w5 : Value, args = #[w0, w1, w2, w3, w4, w5] := by
    have hs : args.size = 6 := by simpa [Cond.value, given_1] using h1
    obtain ⟨L⟩ := args
    match L, hs with
    | [w0, w1, w2, w3, w4, w5], _ => exact ⟨w0, w1, w2, w3, w4, w5, rfl⟩
  have hw := fun d (hd : d ∈ tables_1) => atoms_spec (ws := Jvm.Cond.code x code maxLocals ret :: tables_1) hat d (List.mem_cons_of_mem _ hd)
  have hfit : Fit s := fun {y c} hc i hi => by
    obtain ⟨ha, rfl⟩ := Array.getElem?_eq_some_iff.mp hc
    have q := List.all_eq_true.mp ((Array.all_eq_true_iff_forall_mem.mp hF) _ (Array.getElem_mem ha)) i (List.mem_range.mpr hi)
    simpa [Array.getElem?_eq_getElem hi] using q
  obtain ⟨c0, r0⟩ := and_e h2
  obtain ⟨i0, q0⟩ := is_v c0
  obtain rfl : w0 = (.int i0) := Option.some.inj q0
  obtain ⟨c1, r1⟩ := and_e r0
  obtain ⟨i1, q1⟩ := is_v c1
  obtain rfl : w1 = (.int i1) := Option.some.inj q1
  obtain ⟨c2, r2⟩ := and_e r1
  obtain ⟨i2, q2⟩ := is_v c2
  obtain rfl : w2 = (.int i2) := Option.some.inj q2
  obtain ⟨c3, r3⟩ := and_e r2
  obtain ⟨i3, q3⟩ := is_v c3
  obtain rfl : w3 = (.int i3) := Option.some.inj q3
  obtain ⟨c4, r4⟩ := and_e r3
  obtain ⟨i4, q4⟩ := is_v c4
  obtain rfl : w4 = (.int i4) := Option.some.inj q4
  obtain ⟨i5, q5⟩ := is_v r4
  obtain rfl : w5 = (.int i5) := Option.some.inj q5
  obtain ⟨n, o, h1, h2, h3, _, L, rfl, ⟨rfl, N⟩, hq⟩ := rm0 l s _ hw tables_1 i0 i1 i2 i3 i4 i5  s.heap s.heap.size (Nat.le_refl _)  p e ha hc hk s m _ below hf ((Spec.applies_iff_loose hf).mp happ).1 ⟨rfl, State.Warmed39.refl s, rfl⟩ trivial
  refine ⟨n, _, h1, h2, h3, hpost _ _ _ _ _ _ ⟨Cond.after_iff.mpr rfl, Cond.after_iff.mpr (eq_i res_at (Term.int_eval (1)) rfl), trivial⟩ ⟨hq.1, hq.2.1, (hq.2.2.sift fun y hy => Or.inr (N y hy)).mono (by decide) (by decide)⟩⟩
theorem main_1_1 : Claimed_1_1 := comes_1 fun _ _ _ _ _ _ h hF => ⟨h.1, hF⟩
theorem main_1_2 : Claimed_1_2 := comes_1 fun _ _ _ _ _ _ h hF => ⟨h.2.1, hF⟩
end Jvm.Pilot.@@N@@
namespace Jvm.Pilot.@@N@@
open Jvm Jvm.ClassFile Sem Op Lib Jvm.Free Jvm.Stand Jvm.Pilot.@@N@@.Jvm.D
/-! MADE BY PROGRAM (witnessworld.py) out of the Statement's table words and the real class files: 9 classes; the members and pool entries that the words name. The judged class is class 1, her method 1. -/
namespace start1
open Jvm.ClassFile
def u (s : String) : CpInfo := .utf8 (stringToUtf16 s)
/-- a pool by its gaps: so many unusable entries, then the entry; so many at the end -/
def gap : Nat → List CpInfo → List CpInfo
  | 0, r => r
  | n + 1, r => .unusable :: gap n r
def poolList (es : List (Nat × CpInfo)) (last : Nat) : List CpInfo := es.foldr (fun e r => gap e.1 (e.2 :: r)) (gap last [])
def pool (es : List (Nat × CpInfo)) (last : Nat) : Array CpInfo := ⟨poolList es last⟩
def fileOf (pool : Array CpInfo) (this : Nat) (attrs : Array Attribute := #[]) (ms : Array MethodInfo := #[]) (fl : Nat := 33) (sup : Nat := 0) (ifs : Array Nat := #[]) (fds : Array FieldInfo := #[]) : ClassFile where
  minorVersion := 0
  majorVersion := 65
  constantPool := pool
  accessFlags := fl
  thisClass := this
  superClass := sup
  interfaces := ifs
  fields := fds
  methods := ms
  attributes := attrs
def plain (name : String) (sup : Option ClassId) : Class where
  name := name
  kind := .ordinary
  loader := none
  accessFlags := 33
  super := sup
  interfaces := #[]
  cf := none
  fields := #[]
  methods := #[]
  instanceTypes := #[]
  staticTypes := #[]
  resolved := #[]
  callSites := []
  init := .initialized
  statics := none
  mirror := none

def pool0 : Array CpInfo := pool [(5, u "<init>"), (0, u "()V"), (1, .class_ 10), (1, u "java/lang/Object")] 113

def k0m0 : Method := { name := "<init>", desc := "()V", sig := { parameters := [], returnType := none }, accessFlags := 1, code := none }
/-- java/lang/Object -/
def k0 : Class := { plain "java/lang/Object" none with
  accessFlags := 33
  interfaces := #[]
  cf := some (fileOf pool0 8 #[] #[{ accessFlags := 1, nameIndex := 5, descriptorIndex := 6, attributes := #[] }] 33 0 #[] #[])
  fields := #[]
  methods := #[k0m0]
  instanceTypes := #[]
  staticTypes := #[]
  resolved := Array.replicate 124 none
  statics := none }

def pool1 : Array CpInfo := pool [(2, .class_ 4), (1, u "java/lang/Object"), (0, u "<init>"), (0, u "()V"), (0, .integer 2147483647), (0, .methodref 9 10), (0, .class_ 11), (0, .nameAndType 12 13), (0, u "example/zedbox/Periods"), (0, u "ofEachPrefix"), (0, u "([I)[I"), (0, .methodref 15 16), (0, .class_ 17), (0, .nameAndType 18 19), (0, u "example/zedbox/PeriodsOfEachPrefixPinLaw"), (0, u "ok"), (0, u "([I[II)Z"), (0, .methodref 15 21), (0, .nameAndType 22 23), (0, u "expect"), (0, u "([II)I"), (2, u "law"), (0, u "(IIIIII)Z")] 5

def k1m0 : Method := { name := "<init>", desc := "()V", sig := { parameters := [], returnType := none }, accessFlags := 2, code := none }
def k1c1 : Code := { maxStack := 5, maxLocals := 9, code := code, exceptionTable := #[], attributes := #[] }
def k1m1 : Method := { name := "law", desc := "(IIIIII)Z", sig := { parameters := [.int, .int, .int, .int, .int, .int], returnType := some .boolean }, accessFlags := 9, code := some k1c1 }
def k1c2 : Code := { maxStack := 3, maxLocals := 3, code := method_3_code, exceptionTable := #[], attributes := #[] }
def k1m2 : Method := { name := "ok", desc := "([I[II)Z", sig := { parameters := [(.array .int), (.array .int), .int], returnType := some .boolean }, accessFlags := 10, code := some k1c2 }
def k1c3 : Code := { maxStack := 3, maxLocals := 2, code := method_4_code, exceptionTable := #[], attributes := #[] }
def k1m3 : Method := { name := "expect", desc := "([II)I", sig := { parameters := [(.array .int), .int], returnType := some .int }, accessFlags := 10, code := some k1c3 }
/-- example/zedbox/PeriodsOfEachPrefixPinLaw -/
def k1 : Class := { plain "example/zedbox/PeriodsOfEachPrefixPinLaw" (some 0) with
  accessFlags := 49
  interfaces := #[]
  cf := some (fileOf pool1 15 #[] #[{ accessFlags := 2, nameIndex := 5, descriptorIndex := 6, attributes := #[] }, { accessFlags := 9, nameIndex := 26, descriptorIndex := 27, attributes := #[] }, { accessFlags := 10, nameIndex := 18, descriptorIndex := 19, attributes := #[] }, { accessFlags := 10, nameIndex := 22, descriptorIndex := 23, attributes := #[] }] 49 2 #[] #[])
  fields := #[]
  methods := #[k1m0, k1m1, k1m2, k1m3]
  instanceTypes := #[]
  staticTypes := #[]
  resolved := Array.replicate 33 none
  statics := none }

def pool2 : Array CpInfo := pool [(2, .class_ 4), (1, u "java/lang/Object"), (0, u "<init>"), (0, u "()V"), (41, .class_ 50), (1, u "example/zedbox/Periods"), (7, u "ofEachPrefix"), (0, u "([I)[I")] 41

def k2m0 : Method := { name := "<init>", desc := "()V", sig := { parameters := [], returnType := none }, accessFlags := 2, code := none }
def k2c1 : Code := { maxStack := 4, maxLocals := 5, code := prog_7_method_4_code, exceptionTable := #[], attributes := #[] }
def k2m1 : Method := { name := "ofEachPrefix", desc := "([I)[I", sig := { parameters := [(.array .int)], returnType := some (.array .int) }, accessFlags := 8, code := some k2c1 }
/-- example/zedbox/Periods -/
def k2 : Class := { plain "example/zedbox/Periods" (some 0) with
  accessFlags := 48
  interfaces := #[]
  cf := some (fileOf pool2 48 #[] #[{ accessFlags := 2, nameIndex := 5, descriptorIndex := 6, attributes := #[] }, { accessFlags := 8, nameIndex := 58, descriptorIndex := 59, attributes := #[] }] 48 2 #[] #[])
  fields := #[]
  methods := #[k2m0, k2m1]
  instanceTypes := #[]
  staticTypes := #[]
  resolved := Array.replicate 101 none
  statics := none }

def pool3 : Array CpInfo := pool [(1, u "java/lang/Cloneable"), (0, .class_ 1), (0, u "java/lang/Object"), (0, .class_ 3)] 3

/-- java/lang/Cloneable -/
def k3 : Class := { plain "java/lang/Cloneable" (some 0) with
  accessFlags := 1537
  interfaces := #[]
  cf := some (fileOf pool3 2 #[] #[] 1537 4 #[] #[])
  fields := #[]
  methods := #[]
  instanceTypes := #[]
  staticTypes := #[]
  resolved := Array.replicate 8 none
  statics := none }

def pool4 : Array CpInfo := pool [(1, u "java/io/Serializable"), (0, .class_ 1), (0, u "java/lang/Object"), (0, .class_ 3)] 3

/-- java/io/Serializable -/
def k4 : Class := { plain "java/io/Serializable" (some 0) with
  accessFlags := 1537
  interfaces := #[]
  cf := some (fileOf pool4 2 #[] #[] 1537 4 #[] #[])
  fields := #[]
  methods := #[]
  instanceTypes := #[]
  staticTypes := #[]
  resolved := Array.replicate 8 none
  statics := none }

/-- the primitive byte -/
def k5 : Class := { plain "byte" none with kind := .primitive 'B', accessFlags := 0x411 }
/-- [B -/
def k6 : Class := { plain "[B" (some 0) with kind := .array 5 .byte, interfaces := #[3, 4], accessFlags := 1041 }

/-- the primitive int -/
def k7 : Class := { plain "int" none with kind := .primitive 'I', accessFlags := 0x411 }
/-- [I -/
def k8 : Class := { plain "[I" (some 0) with kind := .array 7 .int, interfaces := #[3, 4], accessFlags := 1041 }

def heap : Heap := #[]
def classes : Array Class := #[k0, k1, k2, k3, k4, k5, k6, k7, k8]
def interned : List (Array UInt16 × Addr) := []
def slotsUsed : Nat := 0
def theMethod : MethodId := ⟨1, 1⟩
def args0 : Array Value := #[.int 5, .int 6, .int 7, .int 3, .int 3, .int 3]
def aboutOver (below : List Frame) : State where
  vm := { classes := classes, interned := interned.toArray }
  heap := heap
  slotsUsed := slotsUsed
  threads := #[{ frames := .invoking theMethod args0 :: below }]
def below0 : List Frame := [.native { method := ⟨0, 0⟩, args := #[] }]
def about1 : State := aboutOver below0
def p0 : Program := .bare "" "" ""
def e0 : Env := launch0.env 0 0 0
theorem w_frames : about1.frames = Frame.invoking theMethod args0 :: below0 := rfl
set_option maxRecDepth 65536 in
theorem w_args : argsFit about1.vm theMethod args0 = true := by decide +kernel
set_option maxRecDepth 65536 in
theorem w_heap : heapFits about1 = true := by decide +kernel
set_option maxRecDepth 65536 in
theorem w_runnable : about1.curStatus? = some .runnable := by decide +kernel
set_option maxRecDepth 65536 in
theorem w_alone : about1.alone = true := by decide +kernel
set_option maxRecDepth 65536 in
theorem w_named : about1.methodNamed? x = some theMethod := by decide +kernel
set_option maxRecDepth 65536 in
theorem w_hears : about1.hears theMethod below0 = true := by decide +kernel
set_option maxRecDepth 65536 in
theorem w_ripe : about1.ripe theMethod args0 below0 = true := by decide +kernel
theorem w_running : about1.status = .running := rfl
set_option maxRecDepth 65536 in
theorem w_room : about1.hasRoom e0.platform room_1 = true :=
  launch0.hasRoom_least _ room_1 (by decide +kernel) (by decide +kernel) (by decide +kernel) (by decide +kernel) (by decide +kernel) (by decide +kernel)
theorem allAtoms_all (ts : List Jvm.Cond) (a : Array Jvm.Value) (st : Jvm.State) : (allAtoms ts).before a st = ts.all (fun c => c.before a st) := by
  induction ts with
  | nil => rfl
  | cons c t ih =>
    show (Jvm.Cond.and c (allAtoms t)).before a st = _
    rw [Jvm.Cond.before_and, ih, List.all_cons]
def words1 : List Jvm.Cond := Jvm.Cond.code x code maxLocals ret :: tables_1
/-- a 'code' word, met by the world's own term for the bytes: nothing is compared byte by byte -/
theorem code_word {y : MethodName} {bytes : ByteArray} {mx : Nat} {rt : Option FieldType} {a : Array Value} {s : State} {m : MethodId} {meth : Method} {c : Code} (h1 : s.methodNamed? y = some m) (h2 : s.vm.method? m = some meth) (h3 : meth.code = some c) (h4 : c.code = bytes)
    (h5 : (c.maxLocals == mx && c.exceptionTable.isEmpty && decide (c.maxStack ≤ mostOperands) && decide (meth.sig.returnType = rt) && !meth.locks && decide (parseMethodDescriptor y.desc = some meth.sig)) = true) : (Jvm.Cond.code y bytes mx rt).before a s = true := by
  simp only [Bool.and_eq_true, beq_iff_eq, Bool.not_eq_true', decide_eq_true_eq] at h5
  obtain ⟨⟨⟨⟨⟨g1, g2⟩, g3⟩, g4⟩, g5⟩, g6⟩ := h5
  simp [Cond.before, Cond.holds, Cond.value, h1, h2, h3, h4, g1, g2, g3, g4, g5, g6]
def isCode : Jvm.Cond → Bool
  | .code _ _ _ _ => true
  | _ => false
theorem all_split {L : List Jvm.Cond} {P : Jvm.Cond → Bool} (h1 : L.all (fun c => isCode c || P c) = true) (h2 : ∀ c ∈ L.filter isCode, P c = true) : L.all P = true := by
  refine List.all_eq_true.mpr fun c hc => ?_
  have h := List.all_eq_true.mp h1 c hc
  rcases Bool.eq_false_or_eq_true (isCode c) with hi | hi
  · exact h2 c (List.mem_filter.mpr ⟨hc, hi⟩)
  · simpa [hi] using h
set_option maxRecDepth 65536 in
theorem w_c0 : (Jvm.Cond.code x code maxLocals ret).before args0 about1 = true := code_word (m := ⟨1, 1⟩) (meth := k1m1) (c := k1c1) (by decide +kernel) rfl rfl rfl (by decide +kernel)
set_option maxRecDepth 65536 in
theorem w_c1 : (Jvm.Cond.code ({ cls := "example/zedbox/Periods", name := "ofEachPrefix", desc := "([I)[I" } : Jvm.MethodName) prog_7_method_4_code (5 : Nat) (Option.some (Jvm.ClassFile.FieldType.array Jvm.ClassFile.FieldType.int))).before args0 about1 = true := code_word (m := ⟨2, 1⟩) (meth := k2m1) (c := k2c1) (by decide +kernel) rfl rfl rfl (by decide +kernel)
set_option maxRecDepth 65536 in
theorem w_c2 : (Jvm.Cond.code ({ cls := "example/zedbox/PeriodsOfEachPrefixPinLaw", name := "ok", desc := "([I[II)Z" } : Jvm.MethodName) method_3_code (3 : Nat) (Option.some Jvm.ClassFile.FieldType.boolean)).before args0 about1 = true := code_word (m := ⟨1, 2⟩) (meth := k1m2) (c := k1c2) (by decide +kernel) rfl rfl rfl (by decide +kernel)
set_option maxRecDepth 65536 in
theorem w_c3 : (Jvm.Cond.code ({ cls := "example/zedbox/PeriodsOfEachPrefixPinLaw", name := "expect", desc := "([II)I" } : Jvm.MethodName) method_4_code (2 : Nat) (Option.some Jvm.ClassFile.FieldType.int)).before args0 about1 = true := code_word (m := ⟨1, 3⟩) (meth := k1m3) (c := k1c3) (by decide +kernel) rfl rfl rfl (by decide +kernel)
def codes1 : List Jvm.Cond := [Jvm.Cond.code x code maxLocals ret, Jvm.Cond.code ({ cls := "example/zedbox/Periods", name := "ofEachPrefix", desc := "([I)[I" } : Jvm.MethodName) prog_7_method_4_code (5 : Nat) (Option.some (Jvm.ClassFile.FieldType.array Jvm.ClassFile.FieldType.int)), Jvm.Cond.code ({ cls := "example/zedbox/PeriodsOfEachPrefixPinLaw", name := "ok", desc := "([I[II)Z" } : Jvm.MethodName) method_3_code (3 : Nat) (Option.some Jvm.ClassFile.FieldType.boolean), Jvm.Cond.code ({ cls := "example/zedbox/PeriodsOfEachPrefixPinLaw", name := "expect", desc := "([II)I" } : Jvm.MethodName) method_4_code (2 : Nat) (Option.some Jvm.ClassFile.FieldType.int)]
set_option maxRecDepth 65536 in
theorem codes_eq : words1.filter isCode = codes1 := rfl
theorem w_codes : ∀ c ∈ words1.filter isCode, c.before args0 about1 = true := by
  rw [codes_eq]
  intro c hc
  simp only [codes1, List.mem_cons, List.not_mem_nil, or_false] at hc
  rcases hc with rfl | rfl | rfl | rfl
  · exact w_c0
  · exact w_c1
  · exact w_c2
  · exact w_c3
set_option maxRecDepth 65536 in
theorem w_t1 : words1.all (fun c => isCode c || c.before args0 about1) = true := by decide +kernel
theorem w_tables : (allAtoms (Jvm.Cond.code x code maxLocals ret :: tables_1)).before args0 about1 = true := by
  rw [allAtoms_all]
  show words1.all (fun c => c.before args0 about1) = true
  refine all_split ?_ w_codes
  rw [w_t1]
set_option maxRecDepth 65536 in
theorem w_case : (Jvm.Cond.and given_1 narrow_1).before args0 about1 = true := by decide +kernel
theorem w_applies : (headSpec (Jvm.Cond.code x code maxLocals ret :: tables_1) room_1).applies x e0.platform about1 = true :=
  (Spec.applies_iff w_frames).mpr ⟨w_running, w_runnable, w_alone, w_named, w_hears, w_ripe, w_room, w_tables⟩
theorem atStart : AtStart classFile x code maxLocals ret World_1 tables_1 room_1 Calls_1 rest_1 Pre_1 launch0 p0 e0 about1 theMethod args0 below0 :=
  ⟨lists_1, trivial, launch0.admits_env _ _ _, launch0.least_env, fairChoices_fair.cas, fairChoices_fair.clock, w_frames, w_args, w_heap, w_applies, trivial, trivial, w_case⟩
end start1
theorem witness_1 : WitnessClaimed_1 := ⟨start1.p0, start1.e0, start1.about1, start1.theMethod, start1.args0, start1.below0, start1.atStart⟩
end Jvm.Pilot.@@N@@
