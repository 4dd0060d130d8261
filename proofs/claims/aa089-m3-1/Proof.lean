import JvmDerived
import JvmDerived.Pilot.@@N@@Statement
import JvmDerived.Pilot.@@N@@Code
set_option linter.unusedVariables false
set_option linter.unusedSimpArgs false
namespace Jvm.Pilot.@@N@@
open Jvm Jvm.ClassFile Sem Op Lib Jvm.Free Jvm.Stand Jvm.LawKit Jvm.RoadKit Bundle Jvm.Pilot.@@N@@.Jvm.D
section Own
variable {p : Program} {l : Launch} {e : Env} {R : Room} {s : State} {m : MethodId} {args : Array Value} {below : List Frame} {meth : Method} {c : Code} {T : State} {locs : List Loc} {cells slots : Nat}
/-- from the state A on the run comes to a return of the body that s was about to invoke, with Q of the value, the heap and the places written -/
def Go (En : State → Outcome → State → List Loc → Nat → Nat → Prop) (p : Program) (e : Env) (below : List Frame) (s : State) (C S : Nat) (Q : Option Value → Heap → List Loc → Prop) (A : State) : Prop :=
  ∃ s₂ o, Steps p.tables e below A s₂ ∧ s₂.status = .running ∧ Ended s₂ below o ∧ ∃ v L, o = .returned v ∧ Q v s₂.heap L ∧ En s o s₂ L C S
variable {En : State → Outcome → State → List Loc → Nat → Nat → Prop} {C S : Nat} {Q : Option Value → Heap → List Loc → Prop} {A B : State} {h : Heap}
theorem Go.step (h : ∀ t, Steps p.tables e below B t → Steps p.tables e below A t) (g : Go En p e below s C S Q B) : Go En p e below s C S Q A := by
  obtain ⟨s₂, o, h1, r⟩ := g
  exact ⟨s₂, o, h _ h1, r⟩
theorem Go.hop (h : Steps p.tables e below A B) (g : Go En p e below s C S Q B) : Go En p e below s C S Q A := Go.step (fun _ k => h.trans k) g
theorem Go.out (X : Stand p l e R s m args below meth c T locs cells slots) {v : Option Value} (hv : meth.sig.returnType = none → v = none) (hl : meth.locks = false) (eT : T.heap = h) (hc : cells ≤ C) (hs : slots ≤ S) (q : Q v h locs)
    (st : ∀ fs, (∀ (f : JFrame) (acts : List Action), f.method = m → f.locked = none → f.entered = [] → (doReturn e (T.setTop f) acts v).1 = T.setFrames fs) → Steps p.tables e below A (T.setFrames fs)) : Go FrameEnd p e below s C S Q A := by
  obtain ⟨fs, hr, hrun, hended, hW, hsame⟩ := X.leave (v := v) hv hl
  refine ⟨_, _, st fs hr, hrun, hended, _, _, rfl, ?_, ⟨_, rfl⟩, hW, hsame.mono hc hs⟩
  show Q v T.heap locs
  rw [eT]
  exact q
theorem Go.retN (X : Stand p l e R s m args below meth c T locs cells slots) (hx : p.tables.exec = Jvm.exec) {pc : Nat} {Ls : Array Slot} {z : Int32} {t : FieldType} {rest : List Value} (hret : meth.sig.returnType = some t) (ht : t = .boolean ∨ t = .byte ∨ t = .char ∨ t = .short)
    (hz : nar t z = z) (hd : decode c.code pc = .ok (.ireturn, 1)) (hl : meth.locks = false) (eT : T.heap = h) (hc : cells ≤ C) (hs : slots ≤ S) (q : Q (some (.int z)) h locs) : Go FrameEnd p e below s C S Q (T.setTop (mkF m pc Ls (.int z :: rest))) :=
  Go.out X (v := some (.int z)) (fun k => by rw [hret] at k; cases k) hl eT hc hs q fun fs hr => Jvm.RoadKit.retN X hx (t := t) hret ht hd (by rw [hz]; exact hr)
theorem Go.retI (X : Stand p l e R s m args below meth c T locs cells slots) (hx : p.tables.exec = Jvm.exec) {pc : Nat} {Ls : Array Slot} {z : Int32} {rest : List Value} (hret : meth.sig.returnType = some .int)
    (hd : decode c.code pc = .ok (.ireturn, 1)) (hl : meth.locks = false) (eT : T.heap = h) (hc : cells ≤ C) (hs : slots ≤ S) (q : Q (some (.int z)) h locs) : Go FrameEnd p e below s C S Q (T.setTop (mkF m pc Ls (.int z :: rest))) :=
  Go.out X (v := some (.int z)) (fun k => by rw [hret] at k; cases k) hl eT hc hs q fun fs hr => retOut X hx hret rfl (Or.inl ⟨rfl, Or.inl rfl, z, rfl⟩) hd hr
theorem Go.retJ (X : Stand p l e R s m args below meth c T locs cells slots) (hx : p.tables.exec = Jvm.exec) {pc : Nat} {Ls : Array Slot} {z : Int64} {rest : List Value} (hret : meth.sig.returnType = some .long)
    (hd : decode c.code pc = .ok (.lreturn, 1)) (hl : meth.locks = false) (eT : T.heap = h) (hc : cells ≤ C) (hs : slots ≤ S) (q : Q (some (.long z)) h locs) : Go FrameEnd p e below s C S Q (T.setTop (mkF m pc Ls (.long z :: rest))) :=
  Go.out X (v := some (.long z)) (fun k => by rw [hret] at k; cases k) hl eT hc hs q fun fs hr => retOut X hx hret rfl (Or.inr (Or.inl ⟨rfl, rfl, z, rfl⟩)) hd hr
theorem own_narR {t : FieldType} {v : Value} (hv : v.isRef = true) : narrow t v = v := by cases v <;> first | (cases hv; done) | (cases t <;> rfl)
theorem Go.retR (X : Stand p l e R s m args below meth c T locs cells slots) (hx : p.tables.exec = Jvm.exec) {pc : Nat} {Ls : Array Slot} {v : Value} {t : FieldType} {rest : List Value} (hret : meth.sig.returnType = some t) (ht : t.isReference = true) (hv : v.isRef = true)
    (hd : decode c.code pc = .ok (.areturn, 1)) (hl : meth.locks = false) (eT : T.heap = h) (hc : cells ≤ C) (hs : slots ≤ S) (q : Q (some v) h locs) : Go FrameEnd p e below s C S Q (T.setTop (mkF m pc Ls (v :: rest))) :=
  Go.out X (v := some v) (fun k => by rw [hret] at k; cases k) hl eT hc hs q fun fs hr => retOut X hx hret (own_narR hv) (Or.inr (Or.inr (Or.inr (Or.inr ⟨rfl, ht, hv⟩)))) hd hr
theorem Go.ret0 (X : Stand p l e R s m args below meth c T locs cells slots) (hx : p.tables.exec = Jvm.exec) {pc : Nat} {Ls : Array Slot} (hret : meth.sig.returnType = none)
    (hd : decode c.code pc = .ok (.return_, 1)) (hl : meth.locks = false) (eT : T.heap = h) (hc : cells ≤ C) (hs : slots ≤ S) (q : Q none h locs) : Go FrameEnd p e below s C S Q (T.setTop (mkF m pc Ls [])) :=
  Go.out X (v := none) (fun _ => rfl) hl eT hc hs q fun fs hr => X.returnOut hx hret hd hr
theorem Go.outW {vm0 : Vm} {k0 : Nat} (X : Stand p l e R (s.setVm vm0) m args below meth c T locs cells slots) (hS : s.Since vm0 k0) (hk : k0 ≤ h.size) {v : Option Value} (hv : meth.sig.returnType = none → v = none) (hl : meth.locks = false) (eT : T.heap = h) (hc : cells ≤ C) (hs : slots ≤ S) (q : Q v h locs)
    (st : ∀ fs, (∀ (f : JFrame) (acts : List Action), f.method = m → f.locked = none → f.entered = [] → (doReturn e (T.setTop f) acts v).1 = T.setFrames fs) → Steps p.tables e below A (T.setFrames fs)) : Go ReturnedEndW p e below s C S Q A := by
  obtain ⟨fs, hr, hrun, hended, hq1, hq2, hq3, hq4⟩ := X.leaveW hS (by rw [eT]; exact hk) (v := v) hv hl
  refine ⟨_, _, st fs hr, hrun, hended, _, _, rfl, ?_, hq1, hq2, hq3, hq4.mono hc hs⟩
  show Q v T.heap locs
  rw [eT]
  exact q
theorem Go.retNW {vm0 : Vm} {k0 : Nat} (X : Stand p l e R (s.setVm vm0) m args below meth c T locs cells slots) (hS : s.Since vm0 k0) (hk : k0 ≤ h.size) (hx : p.tables.exec = Jvm.exec) {pc : Nat} {Ls : Array Slot} {z : Int32} {t : FieldType} {rest : List Value} (hret : meth.sig.returnType = some t) (ht : t = .boolean ∨ t = .byte ∨ t = .char ∨ t = .short)
    (hz : nar t z = z) (hd : decode c.code pc = .ok (.ireturn, 1)) (hl : meth.locks = false) (eT : T.heap = h) (hc : cells ≤ C) (hs : slots ≤ S) (q : Q (some (.int z)) h locs) : Go ReturnedEndW p e below s C S Q (T.setTop (mkF m pc Ls (.int z :: rest))) :=
  Go.outW X hS hk (v := some (.int z)) (fun k => by rw [hret] at k; cases k) hl eT hc hs q fun fs hr => Jvm.RoadKit.retN X hx (t := t) hret ht hd (by rw [hz]; exact hr)
theorem Go.retIW {vm0 : Vm} {k0 : Nat} (X : Stand p l e R (s.setVm vm0) m args below meth c T locs cells slots) (hS : s.Since vm0 k0) (hk : k0 ≤ h.size) (hx : p.tables.exec = Jvm.exec) {pc : Nat} {Ls : Array Slot} {z : Int32} {rest : List Value} (hret : meth.sig.returnType = some .int)
    (hd : decode c.code pc = .ok (.ireturn, 1)) (hl : meth.locks = false) (eT : T.heap = h) (hc : cells ≤ C) (hs : slots ≤ S) (q : Q (some (.int z)) h locs) : Go ReturnedEndW p e below s C S Q (T.setTop (mkF m pc Ls (.int z :: rest))) :=
  Go.outW X hS hk (v := some (.int z)) (fun k => by rw [hret] at k; cases k) hl eT hc hs q fun fs hr => retOut X hx hret rfl (Or.inl ⟨rfl, Or.inl rfl, z, rfl⟩) hd hr
theorem Go.retJW {vm0 : Vm} {k0 : Nat} (X : Stand p l e R (s.setVm vm0) m args below meth c T locs cells slots) (hS : s.Since vm0 k0) (hk : k0 ≤ h.size) (hx : p.tables.exec = Jvm.exec) {pc : Nat} {Ls : Array Slot} {z : Int64} {rest : List Value} (hret : meth.sig.returnType = some .long)
    (hd : decode c.code pc = .ok (.lreturn, 1)) (hl : meth.locks = false) (eT : T.heap = h) (hc : cells ≤ C) (hs : slots ≤ S) (q : Q (some (.long z)) h locs) : Go ReturnedEndW p e below s C S Q (T.setTop (mkF m pc Ls (.long z :: rest))) :=
  Go.outW X hS hk (v := some (.long z)) (fun k => by rw [hret] at k; cases k) hl eT hc hs q fun fs hr => retOut X hx hret rfl (Or.inr (Or.inl ⟨rfl, rfl, z, rfl⟩)) hd hr
theorem Go.retRW {vm0 : Vm} {k0 : Nat} (X : Stand p l e R (s.setVm vm0) m args below meth c T locs cells slots) (hS : s.Since vm0 k0) (hk : k0 ≤ h.size) (hx : p.tables.exec = Jvm.exec) {pc : Nat} {Ls : Array Slot} {v : Value} {t : FieldType} {rest : List Value} (hret : meth.sig.returnType = some t) (ht : t.isReference = true) (hv : v.isRef = true)
    (hd : decode c.code pc = .ok (.areturn, 1)) (hl : meth.locks = false) (eT : T.heap = h) (hc : cells ≤ C) (hs : slots ≤ S) (q : Q (some v) h locs) : Go ReturnedEndW p e below s C S Q (T.setTop (mkF m pc Ls (v :: rest))) :=
  Go.outW X hS hk (v := some v) (fun k => by rw [hret] at k; cases k) hl eT hc hs q fun fs hr => retOut X hx hret (own_narR hv) (Or.inr (Or.inr (Or.inr (Or.inr ⟨rfl, ht, hv⟩)))) hd hr
theorem Go.ret0W {vm0 : Vm} {k0 : Nat} (X : Stand p l e R (s.setVm vm0) m args below meth c T locs cells slots) (hS : s.Since vm0 k0) (hk : k0 ≤ h.size) (hx : p.tables.exec = Jvm.exec) {pc : Nat} {Ls : Array Slot} (hret : meth.sig.returnType = none)
    (hd : decode c.code pc = .ok (.return_, 1)) (hl : meth.locks = false) (eT : T.heap = h) (hc : cells ≤ C) (hs : slots ≤ S) (q : Q none h locs) : Go ReturnedEndW p e below s C S Q (T.setTop (mkF m pc Ls [])) :=
  Go.outW X hS hk (v := none) (fun _ => rfl) hl eT hc hs q fun fs hr => X.returnOut hx hret hd hr
theorem own_lrem {g : JFrame} {target : State} (X : Stand p l e R s m args below meth c T locs cells slots) (hx : p.tables.exec = Jvm.exec) (hg : g.method = m) {x y : Int64} {rest : List Value} (hd : decode c.code g.pc = .ok (.lrem, 1)) (hs : g.stack = .long y :: .long x :: rest) (hy : y ≠ 0)
    (hr : Steps p.tables e below (T.setTop { g with pc := g.pc + 1, stack := .long (x % y) :: rest }) target) : Steps p.tables e below (T.setTop g) target := by
  have q : x - x / y * y = x % y := lrem_mod x y
  exact XS.lrem X.here hx hg hd hs hy (by rw [q]; exact hr)
theorem own_fitR {t : FieldType} {v : Value} (ht : t.isReference = true) (hv : v.isRef = true) : fits t v = true := by cases v <;> first | (cases hv; done) | (cases t <;> first | rfl | cases ht)
variable {Z : State} {h' : Heap} {a b : Addr} {ty : FieldType} {n i sl : Nat} {f : Nat → Value} {v w : Value} {cl : Cell} {j z : Int32} {k : ClassId} {ws : List Addr}
/-- the array at a has n places; place j holds f j -/
def Av (Z : State) (h : Heap) (a : Addr) (ty : FieldType) (n : Nat) (f : Nat → Value) : Prop := ∃ c : Cell, Arr Z h a c ty ∧ c.slots.size = n ∧ n < 2147483648 ∧ ∀ j, j < n → c.slots[j]? = some (f j)
def aset (f : Nat → Value) (i : Nat) (v : Value) : Nat → Value := fun j => if j = i then v else f j
theorem Av.lt (F : Av Z h a ty n f) : a < h.size := by obtain ⟨c, A, -⟩ := F; exact A.lt
theorem Av.ext (F : Av Z h a ty n f) (E : Ext h h') : Av Z h' a ty n f := by obtain ⟨c, A, r⟩ := F; exact ⟨c, A.ext E, r⟩
theorem Av.other (F : Av Z h b ty n f) (W : Wr h h' a sl v) (q : b ≠ a) : Av Z h' b ty n f := by obtain ⟨c, A, r⟩ := F; exact ⟨c, A.other W q, r⟩
theorem Av.keep (F : Av Z h a ty n f) (K : Keep h h' ws) (q : a ∉ ws) : Av Z h' a ty n f := by obtain ⟨c, A, r⟩ := F; exact ⟨c, ⟨K.2.1 a c A.1 q, A.2⟩, r⟩
theorem Av.eq (F : Av Z h a ty n f) {g : Nat → Value} (q : ∀ j, j < n → f j = g j) : Av Z h a ty n g := by obtain ⟨c, A, r1, r2, r3⟩ := F; exact ⟨c, A, r1, r2, fun j hj => by rw [← q j hj]; exact r3 j hj⟩
theorem own_clamp (q : ¬ z < 0) : z.toNatClampNeg < 2147483648 := (back32 q).2
theorem Av.new (A : Arr Z h a (newA k ty z) ty) (q : ¬ z < 0) (e : z.toNatClampNeg = n) : Av Z h a ty n (fun _ => defaultValue ty) := by
  refine ⟨_, A, by rw [sz_new, e], by rw [← e]; exact own_clamp q, fun j hj => ?_⟩
  have q2 : (newA k ty z).slots = Array.replicate z.toNatClampNeg (defaultValue ty) := rfl
  rw [q2, Array.getElem?_replicate, e, if_pos hj]
theorem own_in {c : Cell} (S : c.slots.size = n) (h0 : ¬ j < 0) (h : j.toNatClampNeg < n) : ¬ (j < 0 ∨ c.slots.size ≤ j.toNatClampNeg) := by
  rw [S]; exact fun q => q.elim h0 (Nat.not_le.mpr h)
theorem Av.at {c : Cell} (G : ∀ j, j < n → c.slots[j]? = some (f j)) (e : j.toNatClampNeg = i) (hi : i < n) (w : f i = v) : c.slots[j.toNatClampNeg]? = some v := by rw [e, G i hi, w]
theorem own_slots (c : Cell) (i : Nat) (v : Value) : (c.setSlot i v).slots = c.slots.setIfInBounds i v := rfl
theorem Av.set {c : Cell} (A : Arr Z h a c ty) (S : c.slots.size = n) (M : n < 2147483648) (G : ∀ j, j < n → c.slots[j]? = some (f j)) (W : Wr h h' a j.toNatClampNeg v) (e : j.toNatClampNeg = i) (hin : ¬ (j < 0 ∨ c.slots.size ≤ j.toNatClampNeg)) : Av Z h' a ty n (aset f i v) := by
  have hi : i < c.slots.size := by rw [← e]; exact Nat.lt_of_not_le fun q => hin (Or.inr q)
  refine ⟨_, A.same W, by rw [sz_set]; exact S, M, fun q hq => ?_⟩
  rw [own_slots, e, Array.getElem?_setIfInBounds]
  by_cases r : i = q
  · subst r
    rw [if_pos rfl, if_pos hi]; simp [aset]
  · rw [if_neg r, G q hq]
    show some (f q) = some (if q = i then v else f q)
    rw [if_neg (Ne.symm r)]
theorem own_int_v {aa : Array Value} {t : Term} {k : Int32} (he : (Cond.eq t (.int k)).value aa Z none Z [] = some true) : t.eval aa Z none [] Z = some (.int k) := by
  have hk : (Term.int k).eval aa Z none [] Z = some (.int k) := Term.int_eval k
  cases ht : t.eval aa Z none [] Z with
  | none => simp [Cond.value, ht] at he
  | some x => cases x <;> simp_all [Cond.value]
theorem own_enum {aa : Array Value} {t : Term} {C D n d : String} {k : Int32} (hx : (Cond.exactly t C).value aa Z none Z [] = some true) (he : (Cond.eq (.field t D n d) (.int k)).value aa Z none Z [] = some true) :
    ∃ x : Addr, t.eval aa Z none [] Z = some (.ref x) ∧ Exa Z Z.heap x C ∧ Fld Z Z.heap x D n d (.int k) := by
  obtain ⟨x, hv⟩ := exa_v hx
  exact ⟨x, hv, Exa.start hv hx, Fld.start (by rw [← fld_at hv]; exact own_int_v he)⟩
theorem own_self {y z : MethodName} (hz : (Cond.selects z.cls z z).before args s = true) (e : z.cls = y.cls) (hp : s.PrivateAt y) (hi : (Cond.instanceMethod y).before args s = true) (hy : y.cls ≠ "java/lang/invoke/MethodHandle" ∧ y.cls ≠ "java/lang/invoke/VarHandle") : (Cond.selects y.cls y y).before args s = true := by
  obtain ⟨c2, r2, m2, q1, -, q3, -, kP, hkP, hkPi⟩ := Cond.selects_spec hz
  have q := findClass_of_methodNamed q3
  rw [e] at q
  exact selects_self_of_private q hkP hkPi hp hi hy
def ushI (x y : Int32) : Int32 := (x.toUInt32 >>> (y &&& 31).toUInt32).toInt32
def ushL (x : Int64) (y : Int32) : Int64 := (x.toUInt64 >>> (y &&& 0x3f).toInt64.toUInt64).toInt64
theorem own_nar8 (a : Int32) : nar .byte a.toInt8.toInt32 = a.toInt8.toInt32 := by show a.toInt8.toInt32.toInt8.toInt32 = _; simp
theorem own_nar16 (a : Int32) : nar .char a.toUInt32.toUInt16.toUInt32.toInt32 = a.toUInt32.toUInt16.toUInt32.toInt32 := by
  show a.toUInt32.toUInt16.toUInt32.toInt32.toUInt32.toUInt16.toUInt32.toInt32 = _
  rw [show a.toUInt32.toUInt16.toUInt32.toInt32.toUInt32 = a.toUInt32.toUInt16.toUInt32 from rfl, UInt16.toUInt16_toUInt32]
theorem own_sta_keep {C d nm : String} (F : Sta Z h C nm d w) (K : Keep h h' []) : Sta Z h' C nm d w := by
  obtain ⟨cf, i, k, f, st, cell, h1, h2, h3, h4, h5, r⟩ := F
  exact ⟨cf, i, k, f, st, cell, h1, h2, h3, h4, K.2.1 _ _ h5 nin0, r⟩
theorem own_ext_keep (E : Ext h h') : Keep h h' [] := (Keep.refl h []).ext E
theorem own_keep_eq (e : h' = h) (ws : List Addr) : Keep h h' ws := by rw [e]; exact Keep.refl _ _
end Own
theorem pn_deckmill_CardAsksChoicePinLaw : plainName "deckmill/CardAsksChoicePinLaw" = true := by first | (simp [plainName, overriddenIn]; done) | decide +kernel
theorem d_method_2_code_0 : decode method_2_code 0 = .ok (.iload_n 0, 1) := by decide +kernel
theorem d_method_2_code_1 : decode method_2_code 1 = .ok (.ifCond .ne 7, 3) := by decide +kernel
theorem d_method_2_code_4 : decode method_2_code 4 = .ok (.getstatic 7, 3) := by decide +kernel
theorem d_method_2_code_7 : decode method_2_code 7 = .ok (.areturn, 1) := by decide +kernel
theorem d_method_2_code_8 : decode method_2_code 8 = .ok (.iload_n 0, 1) := by decide +kernel
theorem d_method_2_code_9 : decode method_2_code 9 = .ok (.iconst 1, 1) := by decide +kernel
theorem d_method_2_code_10 : decode method_2_code 10 = .ok (.if_icmp .ne 7, 3) := by decide +kernel
theorem d_method_2_code_13 : decode method_2_code 13 = .ok (.getstatic 13, 3) := by decide +kernel
theorem d_method_2_code_16 : decode method_2_code 16 = .ok (.areturn, 1) := by decide +kernel
theorem d_method_2_code_17 : decode method_2_code 17 = .ok (.iload_n 0, 1) := by decide +kernel
theorem d_method_2_code_18 : decode method_2_code 18 = .ok (.iconst 2, 1) := by decide +kernel
theorem d_method_2_code_19 : decode method_2_code 19 = .ok (.if_icmp .ne 7, 3) := by decide +kernel
theorem d_method_2_code_22 : decode method_2_code 22 = .ok (.getstatic 16, 3) := by decide +kernel
theorem d_method_2_code_25 : decode method_2_code 25 = .ok (.areturn, 1) := by decide +kernel
theorem d_method_2_code_26 : decode method_2_code 26 = .ok (.iload_n 0, 1) := by decide +kernel
theorem d_method_2_code_27 : decode method_2_code 27 = .ok (.iconst 3, 1) := by decide +kernel
theorem d_method_2_code_28 : decode method_2_code 28 = .ok (.if_icmp .ne 7, 3) := by decide +kernel
theorem d_method_2_code_31 : decode method_2_code 31 = .ok (.getstatic 19, 3) := by decide +kernel
theorem d_method_2_code_34 : decode method_2_code 34 = .ok (.areturn, 1) := by decide +kernel
theorem d_method_2_code_35 : decode method_2_code 35 = .ok (.iload_n 0, 1) := by decide +kernel
theorem d_method_2_code_36 : decode method_2_code 36 = .ok (.iconst 4, 1) := by decide +kernel
theorem d_method_2_code_37 : decode method_2_code 37 = .ok (.if_icmp .ne 7, 3) := by decide +kernel
theorem d_method_2_code_40 : decode method_2_code 40 = .ok (.getstatic 22, 3) := by decide +kernel
theorem d_method_2_code_43 : decode method_2_code 43 = .ok (.areturn, 1) := by decide +kernel
theorem d_method_2_code_44 : decode method_2_code 44 = .ok (.iload_n 0, 1) := by decide +kernel
theorem d_method_2_code_45 : decode method_2_code 45 = .ok (.iconst 5, 1) := by decide +kernel
theorem d_method_2_code_46 : decode method_2_code 46 = .ok (.if_icmp .ne 7, 3) := by decide +kernel
theorem d_method_2_code_49 : decode method_2_code 49 = .ok (.getstatic 25, 3) := by decide +kernel
theorem d_method_2_code_52 : decode method_2_code 52 = .ok (.areturn, 1) := by decide +kernel
theorem d_method_2_code_53 : decode method_2_code 53 = .ok (.iload_n 0, 1) := by decide +kernel
theorem d_method_2_code_54 : decode method_2_code 54 = .ok (.bipush 6, 2) := by decide +kernel
theorem d_method_2_code_56 : decode method_2_code 56 = .ok (.if_icmp .ne 7, 3) := by decide +kernel
theorem d_method_2_code_59 : decode method_2_code 59 = .ok (.getstatic 28, 3) := by decide +kernel
theorem d_method_2_code_62 : decode method_2_code 62 = .ok (.areturn, 1) := by decide +kernel
theorem d_method_2_code_63 : decode method_2_code 63 = .ok (.iload_n 0, 1) := by decide +kernel
theorem d_method_2_code_64 : decode method_2_code 64 = .ok (.bipush 7, 2) := by decide +kernel
theorem d_method_2_code_66 : decode method_2_code 66 = .ok (.if_icmp .ne 7, 3) := by decide +kernel
theorem d_method_2_code_69 : decode method_2_code 69 = .ok (.getstatic 31, 3) := by decide +kernel
theorem d_method_2_code_72 : decode method_2_code 72 = .ok (.areturn, 1) := by decide +kernel
theorem d_method_2_code_73 : decode method_2_code 73 = .ok (.iload_n 0, 1) := by decide +kernel
theorem d_method_2_code_74 : decode method_2_code 74 = .ok (.bipush 8, 2) := by decide +kernel
theorem d_method_2_code_76 : decode method_2_code 76 = .ok (.if_icmp .ne 7, 3) := by decide +kernel
theorem d_method_2_code_79 : decode method_2_code 79 = .ok (.getstatic 34, 3) := by decide +kernel
theorem d_method_2_code_82 : decode method_2_code 82 = .ok (.areturn, 1) := by decide +kernel
theorem d_method_2_code_83 : decode method_2_code 83 = .ok (.iload_n 0, 1) := by decide +kernel
theorem d_method_2_code_84 : decode method_2_code 84 = .ok (.bipush 9, 2) := by decide +kernel
theorem d_method_2_code_86 : decode method_2_code 86 = .ok (.if_icmp .ne 7, 3) := by decide +kernel
theorem d_method_2_code_89 : decode method_2_code 89 = .ok (.getstatic 37, 3) := by decide +kernel
theorem d_method_2_code_92 : decode method_2_code 92 = .ok (.areturn, 1) := by decide +kernel
theorem d_method_2_code_93 : decode method_2_code 93 = .ok (.iload_n 0, 1) := by decide +kernel
theorem d_method_2_code_94 : decode method_2_code 94 = .ok (.bipush 10, 2) := by decide +kernel
theorem d_method_2_code_96 : decode method_2_code 96 = .ok (.if_icmp .ne 7, 3) := by decide +kernel
theorem d_method_2_code_99 : decode method_2_code 99 = .ok (.getstatic 40, 3) := by decide +kernel
theorem d_method_2_code_102 : decode method_2_code 102 = .ok (.areturn, 1) := by decide +kernel
theorem d_method_2_code_103 : decode method_2_code 103 = .ok (.iload_n 0, 1) := by decide +kernel
theorem d_method_2_code_104 : decode method_2_code 104 = .ok (.bipush 11, 2) := by decide +kernel
theorem d_method_2_code_106 : decode method_2_code 106 = .ok (.if_icmp .ne 7, 3) := by decide +kernel
theorem d_method_2_code_109 : decode method_2_code 109 = .ok (.getstatic 43, 3) := by decide +kernel
theorem d_method_2_code_112 : decode method_2_code 112 = .ok (.areturn, 1) := by decide +kernel
theorem d_method_2_code_113 : decode method_2_code 113 = .ok (.iload_n 0, 1) := by decide +kernel
theorem d_method_2_code_114 : decode method_2_code 114 = .ok (.bipush 12, 2) := by decide +kernel
theorem d_method_2_code_116 : decode method_2_code 116 = .ok (.if_icmp .ne 7, 3) := by decide +kernel
theorem d_method_2_code_119 : decode method_2_code 119 = .ok (.getstatic 46, 3) := by decide +kernel
theorem d_method_2_code_122 : decode method_2_code 122 = .ok (.areturn, 1) := by decide +kernel
theorem d_method_2_code_123 : decode method_2_code 123 = .ok (.iload_n 0, 1) := by decide +kernel
theorem d_method_2_code_124 : decode method_2_code 124 = .ok (.bipush 13, 2) := by decide +kernel
theorem d_method_2_code_126 : decode method_2_code 126 = .ok (.if_icmp .ne 7, 3) := by decide +kernel
theorem d_method_2_code_129 : decode method_2_code 129 = .ok (.getstatic 49, 3) := by decide +kernel
theorem d_method_2_code_132 : decode method_2_code 132 = .ok (.areturn, 1) := by decide +kernel
theorem d_method_2_code_133 : decode method_2_code 133 = .ok (.iload_n 0, 1) := by decide +kernel
theorem d_method_2_code_134 : decode method_2_code 134 = .ok (.bipush 14, 2) := by decide +kernel
theorem d_method_2_code_136 : decode method_2_code 136 = .ok (.if_icmp .ne 7, 3) := by decide +kernel
theorem d_method_2_code_139 : decode method_2_code 139 = .ok (.getstatic 52, 3) := by decide +kernel
theorem d_method_2_code_142 : decode method_2_code 142 = .ok (.areturn, 1) := by decide +kernel
theorem d_method_2_code_143 : decode method_2_code 143 = .ok (.iload_n 0, 1) := by decide +kernel
theorem d_method_2_code_144 : decode method_2_code 144 = .ok (.bipush 15, 2) := by decide +kernel
theorem d_method_2_code_146 : decode method_2_code 146 = .ok (.if_icmp .ne 7, 3) := by decide +kernel
theorem d_method_2_code_149 : decode method_2_code 149 = .ok (.getstatic 55, 3) := by decide +kernel
theorem d_method_2_code_152 : decode method_2_code 152 = .ok (.areturn, 1) := by decide +kernel
theorem d_method_2_code_153 : decode method_2_code 153 = .ok (.iload_n 0, 1) := by decide +kernel
theorem d_method_2_code_154 : decode method_2_code 154 = .ok (.bipush 16, 2) := by decide +kernel
theorem d_method_2_code_156 : decode method_2_code 156 = .ok (.if_icmp .ne 7, 3) := by decide +kernel
theorem d_method_2_code_159 : decode method_2_code 159 = .ok (.getstatic 58, 3) := by decide +kernel
theorem d_method_2_code_162 : decode method_2_code 162 = .ok (.areturn, 1) := by decide +kernel
theorem d_method_2_code_163 : decode method_2_code 163 = .ok (.iload_n 0, 1) := by decide +kernel
theorem d_method_2_code_164 : decode method_2_code 164 = .ok (.bipush 17, 2) := by decide +kernel
theorem d_method_2_code_166 : decode method_2_code 166 = .ok (.if_icmp .ne 7, 3) := by decide +kernel
theorem d_method_2_code_169 : decode method_2_code 169 = .ok (.getstatic 61, 3) := by decide +kernel
theorem d_method_2_code_172 : decode method_2_code 172 = .ok (.areturn, 1) := by decide +kernel
theorem d_method_2_code_173 : decode method_2_code 173 = .ok (.iload_n 0, 1) := by decide +kernel
theorem d_method_2_code_174 : decode method_2_code 174 = .ok (.bipush 18, 2) := by decide +kernel
theorem d_method_2_code_176 : decode method_2_code 176 = .ok (.if_icmp .ne 7, 3) := by decide +kernel
theorem d_method_2_code_179 : decode method_2_code 179 = .ok (.getstatic 64, 3) := by decide +kernel
theorem d_method_2_code_182 : decode method_2_code 182 = .ok (.areturn, 1) := by decide +kernel
theorem d_method_2_code_183 : decode method_2_code 183 = .ok (.iload_n 0, 1) := by decide +kernel
theorem d_method_2_code_184 : decode method_2_code 184 = .ok (.bipush 19, 2) := by decide +kernel
theorem d_method_2_code_186 : decode method_2_code 186 = .ok (.if_icmp .ne 7, 3) := by decide +kernel
theorem d_method_2_code_189 : decode method_2_code 189 = .ok (.getstatic 67, 3) := by decide +kernel
theorem d_method_2_code_192 : decode method_2_code 192 = .ok (.areturn, 1) := by decide +kernel
theorem d_method_2_code_193 : decode method_2_code 193 = .ok (.iload_n 0, 1) := by decide +kernel
theorem d_method_2_code_194 : decode method_2_code 194 = .ok (.bipush 20, 2) := by decide +kernel
theorem d_method_2_code_196 : decode method_2_code 196 = .ok (.if_icmp .ne 7, 3) := by decide +kernel
theorem d_method_2_code_199 : decode method_2_code 199 = .ok (.getstatic 70, 3) := by decide +kernel
theorem d_method_2_code_202 : decode method_2_code 202 = .ok (.areturn, 1) := by decide +kernel
theorem d_method_2_code_203 : decode method_2_code 203 = .ok (.getstatic 73, 3) := by decide +kernel
theorem d_method_2_code_206 : decode method_2_code 206 = .ok (.areturn, 1) := by decide +kernel
theorem pn_deckmill_Card : plainName "deckmill/Card" = true := by first | (simp [plainName, overriddenIn]; done) | decide +kernel
theorem d_prog_1_method_19_code_0 : decode prog_1_method_19_code 0 = .ok (.aload_n 0, 1) := by decide +kernel
theorem d_prog_1_method_19_code_1 : decode prog_1_method_19_code 1 = .ok (.getfield 141, 3) := by decide +kernel
theorem d_prog_1_method_19_code_4 : decode prog_1_method_19_code 4 = .ok (.ifnull 7, 3) := by decide +kernel
theorem d_prog_1_method_19_code_7 : decode prog_1_method_19_code 7 = .ok (.iconst 1, 1) := by decide +kernel
theorem d_prog_1_method_19_code_8 : decode prog_1_method_19_code 8 = .ok (.goto 4, 3) := by decide +kernel
theorem d_prog_1_method_19_code_12 : decode prog_1_method_19_code 12 = .ok (.ireturn, 1) := by decide +kernel
theorem d_prog_1_method_19_code_11 : decode prog_1_method_19_code 11 = .ok (.iconst 0, 1) := by decide +kernel
theorem pd__I_Ldeckmill_Card_ : parseMethodDescriptor "(I)Ldeckmill/Card;" = some ⟨[.int], some (.object "deckmill/Card")⟩ := by decide +kernel
theorem pd___Z : parseMethodDescriptor "()Z" = some ⟨[], some .boolean⟩ := by decide +kernel
def pickA (en0 en1 en2 en3 en4 en5 en6 en7 en8 en9 en10 en11 en12 en13 en14 en15 en16 en17 en18 en19 en20 en21 : Addr) (x : Int32) : Addr := if x = 0 then en0 else if x = 1 then en1 else if x = 2 then en2 else if x = 3 then en3 else if x = 4 then en4 else if x = 5 then en5 else if x = 6 then en6 else if x = 7 then en7 else if x = 8 then en8 else if x = 9 then en9 else if x = 10 then en10 else if x = 11 then en11 else if x = 12 then en12 else if x = 13 then en13 else if x = 14 then en14 else if x = 15 then en15 else if x = 16 then en16 else if x = 17 then en17 else if x = 18 then en18 else if x = 19 then en19 else if x = 20 then en20 else en21
theorem own_pick (en0 en1 en2 en3 en4 en5 en6 en7 en8 en9 en10 en11 en12 en13 en14 en15 en16 en17 en18 en19 en20 en21 : Addr) (x : Int32) : pickA en0 en1 en2 en3 en4 en5 en6 en7 en8 en9 en10 en11 en12 en13 en14 en15 en16 en17 en18 en19 en20 en21 x = en0 ∨ pickA en0 en1 en2 en3 en4 en5 en6 en7 en8 en9 en10 en11 en12 en13 en14 en15 en16 en17 en18 en19 en20 en21 x = en1 ∨ pickA en0 en1 en2 en3 en4 en5 en6 en7 en8 en9 en10 en11 en12 en13 en14 en15 en16 en17 en18 en19 en20 en21 x = en2 ∨ pickA en0 en1 en2 en3 en4 en5 en6 en7 en8 en9 en10 en11 en12 en13 en14 en15 en16 en17 en18 en19 en20 en21 x = en3 ∨ pickA en0 en1 en2 en3 en4 en5 en6 en7 en8 en9 en10 en11 en12 en13 en14 en15 en16 en17 en18 en19 en20 en21 x = en4 ∨ pickA en0 en1 en2 en3 en4 en5 en6 en7 en8 en9 en10 en11 en12 en13 en14 en15 en16 en17 en18 en19 en20 en21 x = en5 ∨ pickA en0 en1 en2 en3 en4 en5 en6 en7 en8 en9 en10 en11 en12 en13 en14 en15 en16 en17 en18 en19 en20 en21 x = en6 ∨ pickA en0 en1 en2 en3 en4 en5 en6 en7 en8 en9 en10 en11 en12 en13 en14 en15 en16 en17 en18 en19 en20 en21 x = en7 ∨ pickA en0 en1 en2 en3 en4 en5 en6 en7 en8 en9 en10 en11 en12 en13 en14 en15 en16 en17 en18 en19 en20 en21 x = en8 ∨ pickA en0 en1 en2 en3 en4 en5 en6 en7 en8 en9 en10 en11 en12 en13 en14 en15 en16 en17 en18 en19 en20 en21 x = en9 ∨ pickA en0 en1 en2 en3 en4 en5 en6 en7 en8 en9 en10 en11 en12 en13 en14 en15 en16 en17 en18 en19 en20 en21 x = en10 ∨ pickA en0 en1 en2 en3 en4 en5 en6 en7 en8 en9 en10 en11 en12 en13 en14 en15 en16 en17 en18 en19 en20 en21 x = en11 ∨ pickA en0 en1 en2 en3 en4 en5 en6 en7 en8 en9 en10 en11 en12 en13 en14 en15 en16 en17 en18 en19 en20 en21 x = en12 ∨ pickA en0 en1 en2 en3 en4 en5 en6 en7 en8 en9 en10 en11 en12 en13 en14 en15 en16 en17 en18 en19 en20 en21 x = en13 ∨ pickA en0 en1 en2 en3 en4 en5 en6 en7 en8 en9 en10 en11 en12 en13 en14 en15 en16 en17 en18 en19 en20 en21 x = en14 ∨ pickA en0 en1 en2 en3 en4 en5 en6 en7 en8 en9 en10 en11 en12 en13 en14 en15 en16 en17 en18 en19 en20 en21 x = en15 ∨ pickA en0 en1 en2 en3 en4 en5 en6 en7 en8 en9 en10 en11 en12 en13 en14 en15 en16 en17 en18 en19 en20 en21 x = en16 ∨ pickA en0 en1 en2 en3 en4 en5 en6 en7 en8 en9 en10 en11 en12 en13 en14 en15 en16 en17 en18 en19 en20 en21 x = en17 ∨ pickA en0 en1 en2 en3 en4 en5 en6 en7 en8 en9 en10 en11 en12 en13 en14 en15 en16 en17 en18 en19 en20 en21 x = en18 ∨ pickA en0 en1 en2 en3 en4 en5 en6 en7 en8 en9 en10 en11 en12 en13 en14 en15 en16 en17 en18 en19 en20 en21 x = en19 ∨ pickA en0 en1 en2 en3 en4 en5 en6 en7 en8 en9 en10 en11 en12 en13 en14 en15 en16 en17 en18 en19 en20 en21 x = en20 ∨ pickA en0 en1 en2 en3 en4 en5 en6 en7 en8 en9 en10 en11 en12 en13 en14 en15 en16 en17 en18 en19 en20 en21 x = en21 := by
  unfold pickA
  by_cases h0 : x = 0
  · rw [if_pos h0]; exact Or.inl rfl
  rw [if_neg h0]
  by_cases h1 : x = 1
  · rw [if_pos h1]; exact Or.inr (Or.inl rfl)
  rw [if_neg h1]
  by_cases h2 : x = 2
  · rw [if_pos h2]; exact Or.inr (Or.inr (Or.inl rfl))
  rw [if_neg h2]
  by_cases h3 : x = 3
  · rw [if_pos h3]; exact Or.inr (Or.inr (Or.inr (Or.inl rfl)))
  rw [if_neg h3]
  by_cases h4 : x = 4
  · rw [if_pos h4]; exact Or.inr (Or.inr (Or.inr (Or.inr (Or.inl rfl))))
  rw [if_neg h4]
  by_cases h5 : x = 5
  · rw [if_pos h5]; exact Or.inr (Or.inr (Or.inr (Or.inr (Or.inr (Or.inl rfl)))))
  rw [if_neg h5]
  by_cases h6 : x = 6
  · rw [if_pos h6]; exact Or.inr (Or.inr (Or.inr (Or.inr (Or.inr (Or.inr (Or.inl rfl))))))
  rw [if_neg h6]
  by_cases h7 : x = 7
  · rw [if_pos h7]; exact Or.inr (Or.inr (Or.inr (Or.inr (Or.inr (Or.inr (Or.inr (Or.inl rfl)))))))
  rw [if_neg h7]
  by_cases h8 : x = 8
  · rw [if_pos h8]; exact Or.inr (Or.inr (Or.inr (Or.inr (Or.inr (Or.inr (Or.inr (Or.inr (Or.inl rfl))))))))
  rw [if_neg h8]
  by_cases h9 : x = 9
  · rw [if_pos h9]; exact Or.inr (Or.inr (Or.inr (Or.inr (Or.inr (Or.inr (Or.inr (Or.inr (Or.inr (Or.inl rfl)))))))))
  rw [if_neg h9]
  by_cases h10 : x = 10
  · rw [if_pos h10]; exact Or.inr (Or.inr (Or.inr (Or.inr (Or.inr (Or.inr (Or.inr (Or.inr (Or.inr (Or.inr (Or.inl rfl))))))))))
  rw [if_neg h10]
  by_cases h11 : x = 11
  · rw [if_pos h11]; exact Or.inr (Or.inr (Or.inr (Or.inr (Or.inr (Or.inr (Or.inr (Or.inr (Or.inr (Or.inr (Or.inr (Or.inl rfl)))))))))))
  rw [if_neg h11]
  by_cases h12 : x = 12
  · rw [if_pos h12]; exact Or.inr (Or.inr (Or.inr (Or.inr (Or.inr (Or.inr (Or.inr (Or.inr (Or.inr (Or.inr (Or.inr (Or.inr (Or.inl rfl))))))))))))
  rw [if_neg h12]
  by_cases h13 : x = 13
  · rw [if_pos h13]; exact Or.inr (Or.inr (Or.inr (Or.inr (Or.inr (Or.inr (Or.inr (Or.inr (Or.inr (Or.inr (Or.inr (Or.inr (Or.inr (Or.inl rfl)))))))))))))
  rw [if_neg h13]
  by_cases h14 : x = 14
  · rw [if_pos h14]; exact Or.inr (Or.inr (Or.inr (Or.inr (Or.inr (Or.inr (Or.inr (Or.inr (Or.inr (Or.inr (Or.inr (Or.inr (Or.inr (Or.inr (Or.inl rfl))))))))))))))
  rw [if_neg h14]
  by_cases h15 : x = 15
  · rw [if_pos h15]; exact Or.inr (Or.inr (Or.inr (Or.inr (Or.inr (Or.inr (Or.inr (Or.inr (Or.inr (Or.inr (Or.inr (Or.inr (Or.inr (Or.inr (Or.inr (Or.inl rfl)))))))))))))))
  rw [if_neg h15]
  by_cases h16 : x = 16
  · rw [if_pos h16]; exact Or.inr (Or.inr (Or.inr (Or.inr (Or.inr (Or.inr (Or.inr (Or.inr (Or.inr (Or.inr (Or.inr (Or.inr (Or.inr (Or.inr (Or.inr (Or.inr (Or.inl rfl))))))))))))))))
  rw [if_neg h16]
  by_cases h17 : x = 17
  · rw [if_pos h17]; exact Or.inr (Or.inr (Or.inr (Or.inr (Or.inr (Or.inr (Or.inr (Or.inr (Or.inr (Or.inr (Or.inr (Or.inr (Or.inr (Or.inr (Or.inr (Or.inr (Or.inr (Or.inl rfl)))))))))))))))))
  rw [if_neg h17]
  by_cases h18 : x = 18
  · rw [if_pos h18]; exact Or.inr (Or.inr (Or.inr (Or.inr (Or.inr (Or.inr (Or.inr (Or.inr (Or.inr (Or.inr (Or.inr (Or.inr (Or.inr (Or.inr (Or.inr (Or.inr (Or.inr (Or.inr (Or.inl rfl))))))))))))))))))
  rw [if_neg h18]
  by_cases h19 : x = 19
  · rw [if_pos h19]; exact Or.inr (Or.inr (Or.inr (Or.inr (Or.inr (Or.inr (Or.inr (Or.inr (Or.inr (Or.inr (Or.inr (Or.inr (Or.inr (Or.inr (Or.inr (Or.inr (Or.inr (Or.inr (Or.inr (Or.inl rfl)))))))))))))))))))
  rw [if_neg h19]
  by_cases h20 : x = 20
  · rw [if_pos h20]; exact Or.inr (Or.inr (Or.inr (Or.inr (Or.inr (Or.inr (Or.inr (Or.inr (Or.inr (Or.inr (Or.inr (Or.inr (Or.inr (Or.inr (Or.inr (Or.inr (Or.inr (Or.inr (Or.inr (Or.inr (Or.inl rfl))))))))))))))))))))
  rw [if_neg h20]
  exact Or.inr (Or.inr (Or.inr (Or.inr (Or.inr (Or.inr (Or.inr (Or.inr (Or.inr (Or.inr (Or.inr (Or.inr (Or.inr (Or.inr (Or.inr (Or.inr (Or.inr (Or.inr (Or.inr (Or.inr (Or.inr (rfl)))))))))))))))))))))
def Cards (Z : State) (h : Heap) (en0 en1 en2 en3 en4 en5 en6 en7 en8 en9 en10 en11 en12 en13 en14 en15 en16 en17 en18 en19 en20 en21 : Addr) : Prop := (Sta Z h "deckmill/Card" "COPPER" "Ldeckmill/Card;" (.ref en0) ∧ Exa Z h en0 "deckmill/Card" ∧ Fld Z h en0 "java/lang/Enum" "ordinal" "I" (.int (0 : Int32)) ∧ Fld Z h en0 "deckmill/Card" "choice" "Ldeckmill/Card$Choice;" .null) ∧ (Sta Z h "deckmill/Card" "SILVER" "Ldeckmill/Card;" (.ref en1) ∧ Exa Z h en1 "deckmill/Card" ∧ Fld Z h en1 "java/lang/Enum" "ordinal" "I" (.int (1 : Int32)) ∧ Fld Z h en1 "deckmill/Card" "choice" "Ldeckmill/Card$Choice;" .null) ∧ (Sta Z h "deckmill/Card" "GOLD" "Ldeckmill/Card;" (.ref en2) ∧ Exa Z h en2 "deckmill/Card" ∧ Fld Z h en2 "java/lang/Enum" "ordinal" "I" (.int (2 : Int32)) ∧ Fld Z h en2 "deckmill/Card" "choice" "Ldeckmill/Card$Choice;" .null) ∧ (Sta Z h "deckmill/Card" "ESTATE" "Ldeckmill/Card;" (.ref en3) ∧ Exa Z h en3 "deckmill/Card" ∧ Fld Z h en3 "java/lang/Enum" "ordinal" "I" (.int (3 : Int32)) ∧ Fld Z h en3 "deckmill/Card" "choice" "Ldeckmill/Card$Choice;" .null) ∧ (Sta Z h "deckmill/Card" "DUCHY" "Ldeckmill/Card;" (.ref en4) ∧ Exa Z h en4 "deckmill/Card" ∧ Fld Z h en4 "java/lang/Enum" "ordinal" "I" (.int (4 : Int32)) ∧ Fld Z h en4 "deckmill/Card" "choice" "Ldeckmill/Card$Choice;" .null) ∧ (Sta Z h "deckmill/Card" "PROVINCE" "Ldeckmill/Card;" (.ref en5) ∧ Exa Z h en5 "deckmill/Card" ∧ Fld Z h en5 "java/lang/Enum" "ordinal" "I" (.int (5 : Int32)) ∧ Fld Z h en5 "deckmill/Card" "choice" "Ldeckmill/Card$Choice;" .null) ∧ (Sta Z h "deckmill/Card" "CURSE" "Ldeckmill/Card;" (.ref en6) ∧ Exa Z h en6 "deckmill/Card" ∧ Fld Z h en6 "java/lang/Enum" "ordinal" "I" (.int (6 : Int32)) ∧ Fld Z h en6 "deckmill/Card" "choice" "Ldeckmill/Card$Choice;" .null) ∧ (Sta Z h "deckmill/Card" "VILLAGE" "Ldeckmill/Card;" (.ref en7) ∧ Exa Z h en7 "deckmill/Card" ∧ Fld Z h en7 "java/lang/Enum" "ordinal" "I" (.int (7 : Int32)) ∧ Fld Z h en7 "deckmill/Card" "choice" "Ldeckmill/Card$Choice;" .null) ∧ (Sta Z h "deckmill/Card" "SMITHY" "Ldeckmill/Card;" (.ref en8) ∧ Exa Z h en8 "deckmill/Card" ∧ Fld Z h en8 "java/lang/Enum" "ordinal" "I" (.int (8 : Int32)) ∧ Fld Z h en8 "deckmill/Card" "choice" "Ldeckmill/Card$Choice;" .null) ∧ (Sta Z h "deckmill/Card" "LABORATORY" "Ldeckmill/Card;" (.ref en9) ∧ Exa Z h en9 "deckmill/Card" ∧ Fld Z h en9 "java/lang/Enum" "ordinal" "I" (.int (9 : Int32)) ∧ Fld Z h en9 "deckmill/Card" "choice" "Ldeckmill/Card$Choice;" .null) ∧ (Sta Z h "deckmill/Card" "MARKET" "Ldeckmill/Card;" (.ref en10) ∧ Exa Z h en10 "deckmill/Card" ∧ Fld Z h en10 "java/lang/Enum" "ordinal" "I" (.int (10 : Int32)) ∧ Fld Z h en10 "deckmill/Card" "choice" "Ldeckmill/Card$Choice;" .null) ∧ (Sta Z h "deckmill/Card" "FESTIVAL" "Ldeckmill/Card;" (.ref en11) ∧ Exa Z h en11 "deckmill/Card" ∧ Fld Z h en11 "java/lang/Enum" "ordinal" "I" (.int (11 : Int32)) ∧ Fld Z h en11 "deckmill/Card" "choice" "Ldeckmill/Card$Choice;" .null) ∧ (Sta Z h "deckmill/Card" "COUNCIL_ROOM" "Ldeckmill/Card;" (.ref en12) ∧ Exa Z h en12 "deckmill/Card" ∧ Fld Z h en12 "java/lang/Enum" "ordinal" "I" (.int (12 : Int32)) ∧ Fld Z h en12 "deckmill/Card" "choice" "Ldeckmill/Card$Choice;" .null) ∧ (Sta Z h "deckmill/Card" "CELLAR" "Ldeckmill/Card;" (.ref en13) ∧ Exa Z h en13 "deckmill/Card" ∧ Fld Z h en13 "java/lang/Enum" "ordinal" "I" (.int (13 : Int32)) ∧ (∃ t, Fld Z h en13 "deckmill/Card" "choice" "Ldeckmill/Card$Choice;" (.ref t))) ∧ (Sta Z h "deckmill/Card" "CHAPEL" "Ldeckmill/Card;" (.ref en14) ∧ Exa Z h en14 "deckmill/Card" ∧ Fld Z h en14 "java/lang/Enum" "ordinal" "I" (.int (14 : Int32)) ∧ (∃ t, Fld Z h en14 "deckmill/Card" "choice" "Ldeckmill/Card$Choice;" (.ref t))) ∧ (Sta Z h "deckmill/Card" "WORKSHOP" "Ldeckmill/Card;" (.ref en15) ∧ Exa Z h en15 "deckmill/Card" ∧ Fld Z h en15 "java/lang/Enum" "ordinal" "I" (.int (15 : Int32)) ∧ (∃ t, Fld Z h en15 "deckmill/Card" "choice" "Ldeckmill/Card$Choice;" (.ref t))) ∧ (Sta Z h "deckmill/Card" "MONEYLENDER" "Ldeckmill/Card;" (.ref en16) ∧ Exa Z h en16 "deckmill/Card" ∧ Fld Z h en16 "java/lang/Enum" "ordinal" "I" (.int (16 : Int32)) ∧ (∃ t, Fld Z h en16 "deckmill/Card" "choice" "Ldeckmill/Card$Choice;" (.ref t))) ∧ (Sta Z h "deckmill/Card" "REMODEL" "Ldeckmill/Card;" (.ref en17) ∧ Exa Z h en17 "deckmill/Card" ∧ Fld Z h en17 "java/lang/Enum" "ordinal" "I" (.int (17 : Int32)) ∧ (∃ t, Fld Z h en17 "deckmill/Card" "choice" "Ldeckmill/Card$Choice;" (.ref t))) ∧ (Sta Z h "deckmill/Card" "MINE" "Ldeckmill/Card;" (.ref en18) ∧ Exa Z h en18 "deckmill/Card" ∧ Fld Z h en18 "java/lang/Enum" "ordinal" "I" (.int (18 : Int32)) ∧ (∃ t, Fld Z h en18 "deckmill/Card" "choice" "Ldeckmill/Card$Choice;" (.ref t))) ∧ (Sta Z h "deckmill/Card" "MILITIA" "Ldeckmill/Card;" (.ref en19) ∧ Exa Z h en19 "deckmill/Card" ∧ Fld Z h en19 "java/lang/Enum" "ordinal" "I" (.int (19 : Int32)) ∧ Fld Z h en19 "deckmill/Card" "choice" "Ldeckmill/Card$Choice;" .null) ∧ (Sta Z h "deckmill/Card" "WITCH" "Ldeckmill/Card;" (.ref en20) ∧ Exa Z h en20 "deckmill/Card" ∧ Fld Z h en20 "java/lang/Enum" "ordinal" "I" (.int (20 : Int32)) ∧ Fld Z h en20 "deckmill/Card" "choice" "Ldeckmill/Card$Choice;" .null) ∧ (Sta Z h "deckmill/Card" "MOAT" "Ldeckmill/Card;" (.ref en21) ∧ Exa Z h en21 "deckmill/Card" ∧ Fld Z h en21 "java/lang/Enum" "ordinal" "I" (.int (21 : Int32)) ∧ Fld Z h en21 "deckmill/Card" "choice" "Ldeckmill/Card$Choice;" .null)
def Q1 (Z : State) (p1 : Int32) (en0 : Addr) (en1 : Addr) (en2 : Addr) (en3 : Addr) (en4 : Addr) (en5 : Addr) (en6 : Addr) (en7 : Addr) (en8 : Addr) (en9 : Addr) (en10 : Addr) (en11 : Addr) (en12 : Addr) (en13 : Addr) (en14 : Addr) (en15 : Addr) (en16 : Addr) (en17 : Addr) (en18 : Addr) (en19 : Addr) (en20 : Addr) (en21 : Addr) (h0 : Heap) (v : Option Value) (h : Heap) (L : List Loc) : Prop := v = some (.ref (pickA en0 en1 en2 en3 en4 en5 en6 en7 en8 en9 en10 en11 en12 en13 en14 en15 en16 en17 en18 en19 en20 en21 p1)) ∧ L = [] ∧ h = h0
theorem ef_1 (m : MethodId) (p1 : Int32) : entryFrame m #[(.int p1)] 1 = mkF m 0 #[.val (.int p1)] [] := by first | (simp [entryFrame, mkF, argsToLocals, Value.category]; done) | rfl
set_option maxRecDepth 65536 in
set_option maxHeartbeats 40000000 in
theorem rm1 (l : Launch) (Z : State) (a0 : Array Value) (hw : ∀ d ∈ tables_1, d.before a0 Z = true) (ws : List Jvm.Cond) (p1 : Int32) (en0 : Addr) (en1 : Addr) (en2 : Addr) (en3 : Addr) (en4 : Addr) (en5 : Addr) (en6 : Addr) (en7 : Addr) (en8 : Addr) (en9 : Addr) (en10 : Addr) (en11 : Addr) (en12 : Addr) (en13 : Addr) (en14 : Addr) (en15 : Addr) (en16 : Addr) (en17 : Addr) (en18 : Addr) (en19 : Addr) (en20 : Addr) (en21 : Addr) (h0 : Heap) (hC : Cards Z h0 en0 en1 en2 en3 en4 en5 en6 en7 en8 en9 en10 en11 en12 en13 en14 en15 en16 en17 en18 en19 en20 en21) :
    MetFree l (⟨"deckmill/CardAsksChoicePinLaw", "pick", "(I)Ldeckmill/Card;"⟩ : MethodName) (head1 (Jvm.Cond.code (⟨"deckmill/CardAsksChoicePinLaw", "pick", "(I)Ldeckmill/Card;"⟩ : MethodName) method_2_code 1 (some (.object "deckmill/Card")) :: ws) ({ frames := 0, cells := 0, slots := 0, locals := 0 } : Room)) (fun a U => a = #[(.int p1)] ∧ Z.Warmed39 U.vm ∧ U.heap = h0) (fun _ _ _ _ _ => True) (fun _ U o U' => ∃ v L, o = .returned v ∧ (Q1 Z p1 en0 en1 en2 en3 en4 en5 en6 en7 en8 en9 en10 en11 en12 en13 en14 en15 en16 en17 en18 en19 en20 en21 h0) v U'.heap L ∧ FrameEnd U o U' L 0 0) := by
  refine MetFree.of_bodySF (plainFor_of_name pn_deckmill_CardAsksChoicePinLaw) hisR ?_
  intro p e s m args below meth c s₁ Bd hml0 hP hK
  obtain ⟨rfl, hZ, hh⟩ := hP
  have hx := Bd.exec
  have hby := Bd.bytes
  have hml : c.maxLocals = 1 := hml0
  have hown : s.vm.findClass "deckmill/CardAsksChoicePinLaw" = some m.cls := findClass_of_methodNamed Bd.named
  have hnm := (name_of_methodNamed Bd.named Bd.method).1
  have X0 : Stand p l e ({ frames := 0, cells := 0, slots := 0, locals := 0 } : Room) s m #[(.int p1)] below meth c s₁ [] 0 0 := Stand.of_body Bd
  have e0 : s₁.heap = h0 := by rw [← hh, Bd.state]; rfl
  show Go FrameEnd p e below s 0 0 (Q1 Z p1 en0 en1 en2 en3 en4 en5 en6 en7 en8 en9 en10 en11 en12 en13 en14 en15 en16 en17 en18 en19 en20 en21 h0) _
  refine Go.step (fun _ k => castTop (ef_1 m p1) k) ?_
  obtain ⟨⟨S0, E0, F0, C0⟩, ⟨S1, E1, F1, C1⟩, ⟨S2, E2, F2, C2⟩, ⟨S3, E3, F3, C3⟩, ⟨S4, E4, F4, C4⟩, ⟨S5, E5, F5, C5⟩, ⟨S6, E6, F6, C6⟩, ⟨S7, E7, F7, C7⟩, ⟨S8, E8, F8, C8⟩, ⟨S9, E9, F9, C9⟩, ⟨S10, E10, F10, C10⟩, ⟨S11, E11, F11, C11⟩, ⟨S12, E12, F12, C12⟩, ⟨S13, E13, F13, C13⟩, ⟨S14, E14, F14, C14⟩, ⟨S15, E15, F15, C15⟩, ⟨S16, E16, F16, C16⟩, ⟨S17, E17, F17, C17⟩, ⟨S18, E18, F18, C18⟩, ⟨S19, E19, F19, C19⟩, ⟨S20, E20, F20, C20⟩, ⟨S21, E21, F21, C21⟩⟩ := hC
  show Go FrameEnd p e below s 0 0 (Q1 Z p1 en0 en1 en2 en3 en4 en5 en6 en7 en8 en9 en10 en11 en12 en13 en14 en15 en16 en17 en18 en19 en20 en21 h0) (s₁.setTop (mkF m 0 #[.val (.int p1)] []))
  refine Go.step (fun _ k => XS.iloadN X0.here hx rfl (hb hby d_method_2_code_0) rfl k) ?_
  show Go FrameEnd p e below s 0 0 (Q1 Z p1 en0 en1 en2 en3 en4 en5 en6 en7 en8 en9 en10 en11 en12 en13 en14 en15 en16 en17 en18 en19 en20 en21 h0) (s₁.setTop (mkF m 1 #[.val (.int p1)] [(.int p1)]))
  by_cases hc1 : p1 = (0 : Int32)
  · skip
    refine Go.step (fun _ k => XS.ifNo X0.here hx rfl (hb hby d_method_2_code_1) rfl ((if0 _ _).trans (teq hc1).2) k) ?_
    show Go FrameEnd p e below s 0 0 (Q1 Z p1 en0 en1 en2 en3 en4 en5 en6 en7 en8 en9 en10 en11 en12 en13 en14 en15 en16 en17 en18 en19 en20 en21 h0) (s₁.setTop (mkF m 4 #[.val (.int p1)] []))
    obtain ⟨T1, X1, e1, st1⟩ := getS2 X0 hx hZ hown (host := "") (Or.inl (hw _ (List.mem_of_getElem? (i := 5) rfl))) Via.refl e0 S0 (g := (mkF m 4 #[.val (.int p1)] [])) rfl (hb hby d_method_2_code_4)
    refine Go.step st1 ?_
    show Go FrameEnd p e below s 0 0 (Q1 Z p1 en0 en1 en2 en3 en4 en5 en6 en7 en8 en9 en10 en11 en12 en13 en14 en15 en16 en17 en18 en19 en20 en21 h0) (T1.setTop (mkF m 7 #[.val (.int p1)] [(.ref en0)]))
    refine Go.retR X1 hx Bd.returns rfl rfl (hb hby d_method_2_code_7) (BodyLoose.notSynchronized Bd) e1 (by decide) (by decide) ?_
    exact ⟨by first | contradiction | simp only [pickA, eq_true hc1, true_or, or_true, false_or, or_false, or_self, true_and, and_true, false_and, and_false, and_self, not_true_eq_false, not_false_eq_true, if_true, if_false], rfl, rfl⟩
  · skip
    refine Go.step (fun _ k => XS.ifYes X0.here hx rfl (pc0 := 1) (pc' := 8) rfl (hb hby d_method_2_code_1) rfl ((if0 _ _).trans (feq hc1).2) (by decide) (by decide) k) ?_
    show Go FrameEnd p e below s 0 0 (Q1 Z p1 en0 en1 en2 en3 en4 en5 en6 en7 en8 en9 en10 en11 en12 en13 en14 en15 en16 en17 en18 en19 en20 en21 h0) (s₁.setTop (mkF m 8 #[.val (.int p1)] []))
    refine Go.step (fun _ k => XS.iloadN X0.here hx rfl (hb hby d_method_2_code_8) rfl k) ?_
    show Go FrameEnd p e below s 0 0 (Q1 Z p1 en0 en1 en2 en3 en4 en5 en6 en7 en8 en9 en10 en11 en12 en13 en14 en15 en16 en17 en18 en19 en20 en21 h0) (s₁.setTop (mkF m 9 #[.val (.int p1)] [(.int p1)]))
    refine Go.step (fun _ k => XS.iconst X0.here hx rfl (hb hby d_method_2_code_9) k) ?_
    show Go FrameEnd p e below s 0 0 (Q1 Z p1 en0 en1 en2 en3 en4 en5 en6 en7 en8 en9 en10 en11 en12 en13 en14 en15 en16 en17 en18 en19 en20 en21 h0) (s₁.setTop (mkF m 10 #[.val (.int p1)] [(.int (1 : Int32)), (.int p1)]))
    by_cases hc10 : p1 = (1 : Int32)
    · skip
      refine Go.step (fun _ k => XS.icmpNo X0.here hx rfl (hb hby d_method_2_code_10) rfl (teq hc10).2 k) ?_
      show Go FrameEnd p e below s 0 0 (Q1 Z p1 en0 en1 en2 en3 en4 en5 en6 en7 en8 en9 en10 en11 en12 en13 en14 en15 en16 en17 en18 en19 en20 en21 h0) (s₁.setTop (mkF m 13 #[.val (.int p1)] []))
      obtain ⟨T2, X2, e2, st2⟩ := getS2 X0 hx hZ hown (host := "") (Or.inl (hw _ (List.mem_of_getElem? (i := 39) rfl))) Via.refl e0 S1 (g := (mkF m 13 #[.val (.int p1)] [])) rfl (hb hby d_method_2_code_13)
      refine Go.step st2 ?_
      show Go FrameEnd p e below s 0 0 (Q1 Z p1 en0 en1 en2 en3 en4 en5 en6 en7 en8 en9 en10 en11 en12 en13 en14 en15 en16 en17 en18 en19 en20 en21 h0) (T2.setTop (mkF m 16 #[.val (.int p1)] [(.ref en1)]))
      refine Go.retR X2 hx Bd.returns rfl rfl (hb hby d_method_2_code_16) (BodyLoose.notSynchronized Bd) e2 (by decide) (by decide) ?_
      exact ⟨by first | contradiction | simp only [pickA, eq_false hc1, eq_true hc10, true_or, or_true, false_or, or_false, or_self, true_and, and_true, false_and, and_false, and_self, not_true_eq_false, not_false_eq_true, if_true, if_false], rfl, rfl⟩
    · skip
      refine Go.step (fun _ k => XS.icmpYes X0.here hx rfl (pc0 := 10) (pc' := 17) rfl (hb hby d_method_2_code_10) rfl (feq hc10).2 (by decide) (by decide) k) ?_
      show Go FrameEnd p e below s 0 0 (Q1 Z p1 en0 en1 en2 en3 en4 en5 en6 en7 en8 en9 en10 en11 en12 en13 en14 en15 en16 en17 en18 en19 en20 en21 h0) (s₁.setTop (mkF m 17 #[.val (.int p1)] []))
      refine Go.step (fun _ k => XS.iloadN X0.here hx rfl (hb hby d_method_2_code_17) rfl k) ?_
      show Go FrameEnd p e below s 0 0 (Q1 Z p1 en0 en1 en2 en3 en4 en5 en6 en7 en8 en9 en10 en11 en12 en13 en14 en15 en16 en17 en18 en19 en20 en21 h0) (s₁.setTop (mkF m 18 #[.val (.int p1)] [(.int p1)]))
      refine Go.step (fun _ k => XS.iconst X0.here hx rfl (hb hby d_method_2_code_18) k) ?_
      show Go FrameEnd p e below s 0 0 (Q1 Z p1 en0 en1 en2 en3 en4 en5 en6 en7 en8 en9 en10 en11 en12 en13 en14 en15 en16 en17 en18 en19 en20 en21 h0) (s₁.setTop (mkF m 19 #[.val (.int p1)] [(.int (2 : Int32)), (.int p1)]))
      by_cases hc19 : p1 = (2 : Int32)
      · skip
        refine Go.step (fun _ k => XS.icmpNo X0.here hx rfl (hb hby d_method_2_code_19) rfl (teq hc19).2 k) ?_
        show Go FrameEnd p e below s 0 0 (Q1 Z p1 en0 en1 en2 en3 en4 en5 en6 en7 en8 en9 en10 en11 en12 en13 en14 en15 en16 en17 en18 en19 en20 en21 h0) (s₁.setTop (mkF m 22 #[.val (.int p1)] []))
        obtain ⟨T3, X3, e3, st3⟩ := getS2 X0 hx hZ hown (host := "") (Or.inl (hw _ (List.mem_of_getElem? (i := 33) rfl))) Via.refl e0 S2 (g := (mkF m 22 #[.val (.int p1)] [])) rfl (hb hby d_method_2_code_22)
        refine Go.step st3 ?_
        show Go FrameEnd p e below s 0 0 (Q1 Z p1 en0 en1 en2 en3 en4 en5 en6 en7 en8 en9 en10 en11 en12 en13 en14 en15 en16 en17 en18 en19 en20 en21 h0) (T3.setTop (mkF m 25 #[.val (.int p1)] [(.ref en2)]))
        refine Go.retR X3 hx Bd.returns rfl rfl (hb hby d_method_2_code_25) (BodyLoose.notSynchronized Bd) e3 (by decide) (by decide) ?_
        exact ⟨by first | contradiction | simp only [pickA, eq_false hc1, eq_false hc10, eq_true hc19, true_or, or_true, false_or, or_false, or_self, true_and, and_true, false_and, and_false, and_self, not_true_eq_false, not_false_eq_true, if_true, if_false], rfl, rfl⟩
      · skip
        refine Go.step (fun _ k => XS.icmpYes X0.here hx rfl (pc0 := 19) (pc' := 26) rfl (hb hby d_method_2_code_19) rfl (feq hc19).2 (by decide) (by decide) k) ?_
        show Go FrameEnd p e below s 0 0 (Q1 Z p1 en0 en1 en2 en3 en4 en5 en6 en7 en8 en9 en10 en11 en12 en13 en14 en15 en16 en17 en18 en19 en20 en21 h0) (s₁.setTop (mkF m 26 #[.val (.int p1)] []))
        refine Go.step (fun _ k => XS.iloadN X0.here hx rfl (hb hby d_method_2_code_26) rfl k) ?_
        show Go FrameEnd p e below s 0 0 (Q1 Z p1 en0 en1 en2 en3 en4 en5 en6 en7 en8 en9 en10 en11 en12 en13 en14 en15 en16 en17 en18 en19 en20 en21 h0) (s₁.setTop (mkF m 27 #[.val (.int p1)] [(.int p1)]))
        refine Go.step (fun _ k => XS.iconst X0.here hx rfl (hb hby d_method_2_code_27) k) ?_
        show Go FrameEnd p e below s 0 0 (Q1 Z p1 en0 en1 en2 en3 en4 en5 en6 en7 en8 en9 en10 en11 en12 en13 en14 en15 en16 en17 en18 en19 en20 en21 h0) (s₁.setTop (mkF m 28 #[.val (.int p1)] [(.int (3 : Int32)), (.int p1)]))
        by_cases hc28 : p1 = (3 : Int32)
        · skip
          refine Go.step (fun _ k => XS.icmpNo X0.here hx rfl (hb hby d_method_2_code_28) rfl (teq hc28).2 k) ?_
          show Go FrameEnd p e below s 0 0 (Q1 Z p1 en0 en1 en2 en3 en4 en5 en6 en7 en8 en9 en10 en11 en12 en13 en14 en15 en16 en17 en18 en19 en20 en21 h0) (s₁.setTop (mkF m 31 #[.val (.int p1)] []))
          obtain ⟨T4, X4, e4, st4⟩ := getS2 X0 hx hZ hown (host := "") (Or.inl (hw _ (List.mem_of_getElem? (i := 27) rfl))) Via.refl e0 S3 (g := (mkF m 31 #[.val (.int p1)] [])) rfl (hb hby d_method_2_code_31)
          refine Go.step st4 ?_
          show Go FrameEnd p e below s 0 0 (Q1 Z p1 en0 en1 en2 en3 en4 en5 en6 en7 en8 en9 en10 en11 en12 en13 en14 en15 en16 en17 en18 en19 en20 en21 h0) (T4.setTop (mkF m 34 #[.val (.int p1)] [(.ref en3)]))
          refine Go.retR X4 hx Bd.returns rfl rfl (hb hby d_method_2_code_34) (BodyLoose.notSynchronized Bd) e4 (by decide) (by decide) ?_
          exact ⟨by first | contradiction | simp only [pickA, eq_false hc1, eq_false hc10, eq_false hc19, eq_true hc28, true_or, or_true, false_or, or_false, or_self, true_and, and_true, false_and, and_false, and_self, not_true_eq_false, not_false_eq_true, if_true, if_false], rfl, rfl⟩
        · skip
          refine Go.step (fun _ k => XS.icmpYes X0.here hx rfl (pc0 := 28) (pc' := 35) rfl (hb hby d_method_2_code_28) rfl (feq hc28).2 (by decide) (by decide) k) ?_
          show Go FrameEnd p e below s 0 0 (Q1 Z p1 en0 en1 en2 en3 en4 en5 en6 en7 en8 en9 en10 en11 en12 en13 en14 en15 en16 en17 en18 en19 en20 en21 h0) (s₁.setTop (mkF m 35 #[.val (.int p1)] []))
          refine Go.step (fun _ k => XS.iloadN X0.here hx rfl (hb hby d_method_2_code_35) rfl k) ?_
          show Go FrameEnd p e below s 0 0 (Q1 Z p1 en0 en1 en2 en3 en4 en5 en6 en7 en8 en9 en10 en11 en12 en13 en14 en15 en16 en17 en18 en19 en20 en21 h0) (s₁.setTop (mkF m 36 #[.val (.int p1)] [(.int p1)]))
          refine Go.step (fun _ k => XS.iconst X0.here hx rfl (hb hby d_method_2_code_36) k) ?_
          show Go FrameEnd p e below s 0 0 (Q1 Z p1 en0 en1 en2 en3 en4 en5 en6 en7 en8 en9 en10 en11 en12 en13 en14 en15 en16 en17 en18 en19 en20 en21 h0) (s₁.setTop (mkF m 37 #[.val (.int p1)] [(.int (4 : Int32)), (.int p1)]))
          by_cases hc37 : p1 = (4 : Int32)
          · skip
            refine Go.step (fun _ k => XS.icmpNo X0.here hx rfl (hb hby d_method_2_code_37) rfl (teq hc37).2 k) ?_
            show Go FrameEnd p e below s 0 0 (Q1 Z p1 en0 en1 en2 en3 en4 en5 en6 en7 en8 en9 en10 en11 en12 en13 en14 en15 en16 en17 en18 en19 en20 en21 h0) (s₁.setTop (mkF m 40 #[.val (.int p1)] []))
            obtain ⟨T5, X5, e5, st5⟩ := getS2 X0 hx hZ hown (host := "") (Or.inl (hw _ (List.mem_of_getElem? (i := 49) rfl))) Via.refl e0 S4 (g := (mkF m 40 #[.val (.int p1)] [])) rfl (hb hby d_method_2_code_40)
            refine Go.step st5 ?_
            show Go FrameEnd p e below s 0 0 (Q1 Z p1 en0 en1 en2 en3 en4 en5 en6 en7 en8 en9 en10 en11 en12 en13 en14 en15 en16 en17 en18 en19 en20 en21 h0) (T5.setTop (mkF m 43 #[.val (.int p1)] [(.ref en4)]))
            refine Go.retR X5 hx Bd.returns rfl rfl (hb hby d_method_2_code_43) (BodyLoose.notSynchronized Bd) e5 (by decide) (by decide) ?_
            exact ⟨by first | contradiction | simp only [pickA, eq_false hc1, eq_false hc10, eq_false hc19, eq_false hc28, eq_true hc37, true_or, or_true, false_or, or_false, or_self, true_and, and_true, false_and, and_false, and_self, not_true_eq_false, not_false_eq_true, if_true, if_false], rfl, rfl⟩
          · skip
            refine Go.step (fun _ k => XS.icmpYes X0.here hx rfl (pc0 := 37) (pc' := 44) rfl (hb hby d_method_2_code_37) rfl (feq hc37).2 (by decide) (by decide) k) ?_
            show Go FrameEnd p e below s 0 0 (Q1 Z p1 en0 en1 en2 en3 en4 en5 en6 en7 en8 en9 en10 en11 en12 en13 en14 en15 en16 en17 en18 en19 en20 en21 h0) (s₁.setTop (mkF m 44 #[.val (.int p1)] []))
            refine Go.step (fun _ k => XS.iloadN X0.here hx rfl (hb hby d_method_2_code_44) rfl k) ?_
            show Go FrameEnd p e below s 0 0 (Q1 Z p1 en0 en1 en2 en3 en4 en5 en6 en7 en8 en9 en10 en11 en12 en13 en14 en15 en16 en17 en18 en19 en20 en21 h0) (s₁.setTop (mkF m 45 #[.val (.int p1)] [(.int p1)]))
            refine Go.step (fun _ k => XS.iconst X0.here hx rfl (hb hby d_method_2_code_45) k) ?_
            show Go FrameEnd p e below s 0 0 (Q1 Z p1 en0 en1 en2 en3 en4 en5 en6 en7 en8 en9 en10 en11 en12 en13 en14 en15 en16 en17 en18 en19 en20 en21 h0) (s₁.setTop (mkF m 46 #[.val (.int p1)] [(.int (5 : Int32)), (.int p1)]))
            by_cases hc46 : p1 = (5 : Int32)
            · skip
              refine Go.step (fun _ k => XS.icmpNo X0.here hx rfl (hb hby d_method_2_code_46) rfl (teq hc46).2 k) ?_
              show Go FrameEnd p e below s 0 0 (Q1 Z p1 en0 en1 en2 en3 en4 en5 en6 en7 en8 en9 en10 en11 en12 en13 en14 en15 en16 en17 en18 en19 en20 en21 h0) (s₁.setTop (mkF m 49 #[.val (.int p1)] []))
              obtain ⟨T6, X6, e6, st6⟩ := getS2 X0 hx hZ hown (host := "") (Or.inl (hw _ (List.mem_of_getElem? (i := 43) rfl))) Via.refl e0 S5 (g := (mkF m 49 #[.val (.int p1)] [])) rfl (hb hby d_method_2_code_49)
              refine Go.step st6 ?_
              show Go FrameEnd p e below s 0 0 (Q1 Z p1 en0 en1 en2 en3 en4 en5 en6 en7 en8 en9 en10 en11 en12 en13 en14 en15 en16 en17 en18 en19 en20 en21 h0) (T6.setTop (mkF m 52 #[.val (.int p1)] [(.ref en5)]))
              refine Go.retR X6 hx Bd.returns rfl rfl (hb hby d_method_2_code_52) (BodyLoose.notSynchronized Bd) e6 (by decide) (by decide) ?_
              exact ⟨by first | contradiction | simp only [pickA, eq_false hc1, eq_false hc10, eq_false hc19, eq_false hc28, eq_false hc37, eq_true hc46, true_or, or_true, false_or, or_false, or_self, true_and, and_true, false_and, and_false, and_self, not_true_eq_false, not_false_eq_true, if_true, if_false], rfl, rfl⟩
            · skip
              refine Go.step (fun _ k => XS.icmpYes X0.here hx rfl (pc0 := 46) (pc' := 53) rfl (hb hby d_method_2_code_46) rfl (feq hc46).2 (by decide) (by decide) k) ?_
              show Go FrameEnd p e below s 0 0 (Q1 Z p1 en0 en1 en2 en3 en4 en5 en6 en7 en8 en9 en10 en11 en12 en13 en14 en15 en16 en17 en18 en19 en20 en21 h0) (s₁.setTop (mkF m 53 #[.val (.int p1)] []))
              refine Go.step (fun _ k => XS.iloadN X0.here hx rfl (hb hby d_method_2_code_53) rfl k) ?_
              show Go FrameEnd p e below s 0 0 (Q1 Z p1 en0 en1 en2 en3 en4 en5 en6 en7 en8 en9 en10 en11 en12 en13 en14 en15 en16 en17 en18 en19 en20 en21 h0) (s₁.setTop (mkF m 54 #[.val (.int p1)] [(.int p1)]))
              refine Go.step (fun _ k => XS.bipush X0.here hx rfl (hb hby d_method_2_code_54) k) ?_
              show Go FrameEnd p e below s 0 0 (Q1 Z p1 en0 en1 en2 en3 en4 en5 en6 en7 en8 en9 en10 en11 en12 en13 en14 en15 en16 en17 en18 en19 en20 en21 h0) (s₁.setTop (mkF m 56 #[.val (.int p1)] [(.int (6 : Int32)), (.int p1)]))
              by_cases hc56 : p1 = (6 : Int32)
              · skip
                refine Go.step (fun _ k => XS.icmpNo X0.here hx rfl (hb hby d_method_2_code_56) rfl (teq hc56).2 k) ?_
                show Go FrameEnd p e below s 0 0 (Q1 Z p1 en0 en1 en2 en3 en4 en5 en6 en7 en8 en9 en10 en11 en12 en13 en14 en15 en16 en17 en18 en19 en20 en21 h0) (s₁.setTop (mkF m 59 #[.val (.int p1)] []))
                obtain ⟨T7, X7, e7, st7⟩ := getS2 X0 hx hZ hown (host := "") (Or.inl (hw _ (List.mem_of_getElem? (i := 45) rfl))) Via.refl e0 S6 (g := (mkF m 59 #[.val (.int p1)] [])) rfl (hb hby d_method_2_code_59)
                refine Go.step st7 ?_
                show Go FrameEnd p e below s 0 0 (Q1 Z p1 en0 en1 en2 en3 en4 en5 en6 en7 en8 en9 en10 en11 en12 en13 en14 en15 en16 en17 en18 en19 en20 en21 h0) (T7.setTop (mkF m 62 #[.val (.int p1)] [(.ref en6)]))
                refine Go.retR X7 hx Bd.returns rfl rfl (hb hby d_method_2_code_62) (BodyLoose.notSynchronized Bd) e7 (by decide) (by decide) ?_
                exact ⟨by first | contradiction | simp only [pickA, eq_false hc1, eq_false hc10, eq_false hc19, eq_false hc28, eq_false hc37, eq_false hc46, eq_true hc56, true_or, or_true, false_or, or_false, or_self, true_and, and_true, false_and, and_false, and_self, not_true_eq_false, not_false_eq_true, if_true, if_false], rfl, rfl⟩
              · skip
                refine Go.step (fun _ k => XS.icmpYes X0.here hx rfl (pc0 := 56) (pc' := 63) rfl (hb hby d_method_2_code_56) rfl (feq hc56).2 (by decide) (by decide) k) ?_
                show Go FrameEnd p e below s 0 0 (Q1 Z p1 en0 en1 en2 en3 en4 en5 en6 en7 en8 en9 en10 en11 en12 en13 en14 en15 en16 en17 en18 en19 en20 en21 h0) (s₁.setTop (mkF m 63 #[.val (.int p1)] []))
                refine Go.step (fun _ k => XS.iloadN X0.here hx rfl (hb hby d_method_2_code_63) rfl k) ?_
                show Go FrameEnd p e below s 0 0 (Q1 Z p1 en0 en1 en2 en3 en4 en5 en6 en7 en8 en9 en10 en11 en12 en13 en14 en15 en16 en17 en18 en19 en20 en21 h0) (s₁.setTop (mkF m 64 #[.val (.int p1)] [(.int p1)]))
                refine Go.step (fun _ k => XS.bipush X0.here hx rfl (hb hby d_method_2_code_64) k) ?_
                show Go FrameEnd p e below s 0 0 (Q1 Z p1 en0 en1 en2 en3 en4 en5 en6 en7 en8 en9 en10 en11 en12 en13 en14 en15 en16 en17 en18 en19 en20 en21 h0) (s₁.setTop (mkF m 66 #[.val (.int p1)] [(.int (7 : Int32)), (.int p1)]))
                by_cases hc66 : p1 = (7 : Int32)
                · skip
                  refine Go.step (fun _ k => XS.icmpNo X0.here hx rfl (hb hby d_method_2_code_66) rfl (teq hc66).2 k) ?_
                  show Go FrameEnd p e below s 0 0 (Q1 Z p1 en0 en1 en2 en3 en4 en5 en6 en7 en8 en9 en10 en11 en12 en13 en14 en15 en16 en17 en18 en19 en20 en21 h0) (s₁.setTop (mkF m 69 #[.val (.int p1)] []))
                  obtain ⟨T8, X8, e8, st8⟩ := getS2 X0 hx hZ hown (host := "") (Or.inl (hw _ (List.mem_of_getElem? (i := 29) rfl))) Via.refl e0 S7 (g := (mkF m 69 #[.val (.int p1)] [])) rfl (hb hby d_method_2_code_69)
                  refine Go.step st8 ?_
                  show Go FrameEnd p e below s 0 0 (Q1 Z p1 en0 en1 en2 en3 en4 en5 en6 en7 en8 en9 en10 en11 en12 en13 en14 en15 en16 en17 en18 en19 en20 en21 h0) (T8.setTop (mkF m 72 #[.val (.int p1)] [(.ref en7)]))
                  refine Go.retR X8 hx Bd.returns rfl rfl (hb hby d_method_2_code_72) (BodyLoose.notSynchronized Bd) e8 (by decide) (by decide) ?_
                  exact ⟨by first | contradiction | simp only [pickA, eq_false hc1, eq_false hc10, eq_false hc19, eq_false hc28, eq_false hc37, eq_false hc46, eq_false hc56, eq_true hc66, true_or, or_true, false_or, or_false, or_self, true_and, and_true, false_and, and_false, and_self, not_true_eq_false, not_false_eq_true, if_true, if_false], rfl, rfl⟩
                · skip
                  refine Go.step (fun _ k => XS.icmpYes X0.here hx rfl (pc0 := 66) (pc' := 73) rfl (hb hby d_method_2_code_66) rfl (feq hc66).2 (by decide) (by decide) k) ?_
                  show Go FrameEnd p e below s 0 0 (Q1 Z p1 en0 en1 en2 en3 en4 en5 en6 en7 en8 en9 en10 en11 en12 en13 en14 en15 en16 en17 en18 en19 en20 en21 h0) (s₁.setTop (mkF m 73 #[.val (.int p1)] []))
                  refine Go.step (fun _ k => XS.iloadN X0.here hx rfl (hb hby d_method_2_code_73) rfl k) ?_
                  show Go FrameEnd p e below s 0 0 (Q1 Z p1 en0 en1 en2 en3 en4 en5 en6 en7 en8 en9 en10 en11 en12 en13 en14 en15 en16 en17 en18 en19 en20 en21 h0) (s₁.setTop (mkF m 74 #[.val (.int p1)] [(.int p1)]))
                  refine Go.step (fun _ k => XS.bipush X0.here hx rfl (hb hby d_method_2_code_74) k) ?_
                  show Go FrameEnd p e below s 0 0 (Q1 Z p1 en0 en1 en2 en3 en4 en5 en6 en7 en8 en9 en10 en11 en12 en13 en14 en15 en16 en17 en18 en19 en20 en21 h0) (s₁.setTop (mkF m 76 #[.val (.int p1)] [(.int (8 : Int32)), (.int p1)]))
                  by_cases hc76 : p1 = (8 : Int32)
                  · skip
                    refine Go.step (fun _ k => XS.icmpNo X0.here hx rfl (hb hby d_method_2_code_76) rfl (teq hc76).2 k) ?_
                    show Go FrameEnd p e below s 0 0 (Q1 Z p1 en0 en1 en2 en3 en4 en5 en6 en7 en8 en9 en10 en11 en12 en13 en14 en15 en16 en17 en18 en19 en20 en21 h0) (s₁.setTop (mkF m 79 #[.val (.int p1)] []))
                    obtain ⟨T9, X9, e9, st9⟩ := getS2 X0 hx hZ hown (host := "") (Or.inl (hw _ (List.mem_of_getElem? (i := 31) rfl))) Via.refl e0 S8 (g := (mkF m 79 #[.val (.int p1)] [])) rfl (hb hby d_method_2_code_79)
                    refine Go.step st9 ?_
                    show Go FrameEnd p e below s 0 0 (Q1 Z p1 en0 en1 en2 en3 en4 en5 en6 en7 en8 en9 en10 en11 en12 en13 en14 en15 en16 en17 en18 en19 en20 en21 h0) (T9.setTop (mkF m 82 #[.val (.int p1)] [(.ref en8)]))
                    refine Go.retR X9 hx Bd.returns rfl rfl (hb hby d_method_2_code_82) (BodyLoose.notSynchronized Bd) e9 (by decide) (by decide) ?_
                    exact ⟨by first | contradiction | simp only [pickA, eq_false hc1, eq_false hc10, eq_false hc19, eq_false hc28, eq_false hc37, eq_false hc46, eq_false hc56, eq_false hc66, eq_true hc76, true_or, or_true, false_or, or_false, or_self, true_and, and_true, false_and, and_false, and_self, not_true_eq_false, not_false_eq_true, if_true, if_false], rfl, rfl⟩
                  · skip
                    refine Go.step (fun _ k => XS.icmpYes X0.here hx rfl (pc0 := 76) (pc' := 83) rfl (hb hby d_method_2_code_76) rfl (feq hc76).2 (by decide) (by decide) k) ?_
                    show Go FrameEnd p e below s 0 0 (Q1 Z p1 en0 en1 en2 en3 en4 en5 en6 en7 en8 en9 en10 en11 en12 en13 en14 en15 en16 en17 en18 en19 en20 en21 h0) (s₁.setTop (mkF m 83 #[.val (.int p1)] []))
                    refine Go.step (fun _ k => XS.iloadN X0.here hx rfl (hb hby d_method_2_code_83) rfl k) ?_
                    show Go FrameEnd p e below s 0 0 (Q1 Z p1 en0 en1 en2 en3 en4 en5 en6 en7 en8 en9 en10 en11 en12 en13 en14 en15 en16 en17 en18 en19 en20 en21 h0) (s₁.setTop (mkF m 84 #[.val (.int p1)] [(.int p1)]))
                    refine Go.step (fun _ k => XS.bipush X0.here hx rfl (hb hby d_method_2_code_84) k) ?_
                    show Go FrameEnd p e below s 0 0 (Q1 Z p1 en0 en1 en2 en3 en4 en5 en6 en7 en8 en9 en10 en11 en12 en13 en14 en15 en16 en17 en18 en19 en20 en21 h0) (s₁.setTop (mkF m 86 #[.val (.int p1)] [(.int (9 : Int32)), (.int p1)]))
                    by_cases hc86 : p1 = (9 : Int32)
                    · skip
                      refine Go.step (fun _ k => XS.icmpNo X0.here hx rfl (hb hby d_method_2_code_86) rfl (teq hc86).2 k) ?_
                      show Go FrameEnd p e below s 0 0 (Q1 Z p1 en0 en1 en2 en3 en4 en5 en6 en7 en8 en9 en10 en11 en12 en13 en14 en15 en16 en17 en18 en19 en20 en21 h0) (s₁.setTop (mkF m 89 #[.val (.int p1)] []))
                      obtain ⟨T10, X10, e10, st10⟩ := getS2 X0 hx hZ hown (host := "") (Or.inl (hw _ (List.mem_of_getElem? (i := 41) rfl))) Via.refl e0 S9 (g := (mkF m 89 #[.val (.int p1)] [])) rfl (hb hby d_method_2_code_89)
                      refine Go.step st10 ?_
                      show Go FrameEnd p e below s 0 0 (Q1 Z p1 en0 en1 en2 en3 en4 en5 en6 en7 en8 en9 en10 en11 en12 en13 en14 en15 en16 en17 en18 en19 en20 en21 h0) (T10.setTop (mkF m 92 #[.val (.int p1)] [(.ref en9)]))
                      refine Go.retR X10 hx Bd.returns rfl rfl (hb hby d_method_2_code_92) (BodyLoose.notSynchronized Bd) e10 (by decide) (by decide) ?_
                      exact ⟨by first | contradiction | simp only [pickA, eq_false hc1, eq_false hc10, eq_false hc19, eq_false hc28, eq_false hc37, eq_false hc46, eq_false hc56, eq_false hc66, eq_false hc76, eq_true hc86, true_or, or_true, false_or, or_false, or_self, true_and, and_true, false_and, and_false, and_self, not_true_eq_false, not_false_eq_true, if_true, if_false], rfl, rfl⟩
                    · skip
                      refine Go.step (fun _ k => XS.icmpYes X0.here hx rfl (pc0 := 86) (pc' := 93) rfl (hb hby d_method_2_code_86) rfl (feq hc86).2 (by decide) (by decide) k) ?_
                      show Go FrameEnd p e below s 0 0 (Q1 Z p1 en0 en1 en2 en3 en4 en5 en6 en7 en8 en9 en10 en11 en12 en13 en14 en15 en16 en17 en18 en19 en20 en21 h0) (s₁.setTop (mkF m 93 #[.val (.int p1)] []))
                      refine Go.step (fun _ k => XS.iloadN X0.here hx rfl (hb hby d_method_2_code_93) rfl k) ?_
                      show Go FrameEnd p e below s 0 0 (Q1 Z p1 en0 en1 en2 en3 en4 en5 en6 en7 en8 en9 en10 en11 en12 en13 en14 en15 en16 en17 en18 en19 en20 en21 h0) (s₁.setTop (mkF m 94 #[.val (.int p1)] [(.int p1)]))
                      refine Go.step (fun _ k => XS.bipush X0.here hx rfl (hb hby d_method_2_code_94) k) ?_
                      show Go FrameEnd p e below s 0 0 (Q1 Z p1 en0 en1 en2 en3 en4 en5 en6 en7 en8 en9 en10 en11 en12 en13 en14 en15 en16 en17 en18 en19 en20 en21 h0) (s₁.setTop (mkF m 96 #[.val (.int p1)] [(.int (10 : Int32)), (.int p1)]))
                      by_cases hc96 : p1 = (10 : Int32)
                      · skip
                        refine Go.step (fun _ k => XS.icmpNo X0.here hx rfl (hb hby d_method_2_code_96) rfl (teq hc96).2 k) ?_
                        show Go FrameEnd p e below s 0 0 (Q1 Z p1 en0 en1 en2 en3 en4 en5 en6 en7 en8 en9 en10 en11 en12 en13 en14 en15 en16 en17 en18 en19 en20 en21 h0) (s₁.setTop (mkF m 99 #[.val (.int p1)] []))
                        obtain ⟨T11, X11, e11, st11⟩ := getS2 X0 hx hZ hown (host := "") (Or.inl (hw _ (List.mem_of_getElem? (i := 37) rfl))) Via.refl e0 S10 (g := (mkF m 99 #[.val (.int p1)] [])) rfl (hb hby d_method_2_code_99)
                        refine Go.step st11 ?_
                        show Go FrameEnd p e below s 0 0 (Q1 Z p1 en0 en1 en2 en3 en4 en5 en6 en7 en8 en9 en10 en11 en12 en13 en14 en15 en16 en17 en18 en19 en20 en21 h0) (T11.setTop (mkF m 102 #[.val (.int p1)] [(.ref en10)]))
                        refine Go.retR X11 hx Bd.returns rfl rfl (hb hby d_method_2_code_102) (BodyLoose.notSynchronized Bd) e11 (by decide) (by decide) ?_
                        exact ⟨by first | contradiction | simp only [pickA, eq_false hc1, eq_false hc10, eq_false hc19, eq_false hc28, eq_false hc37, eq_false hc46, eq_false hc56, eq_false hc66, eq_false hc76, eq_false hc86, eq_true hc96, true_or, or_true, false_or, or_false, or_self, true_and, and_true, false_and, and_false, and_self, not_true_eq_false, not_false_eq_true, if_true, if_false], rfl, rfl⟩
                      · skip
                        refine Go.step (fun _ k => XS.icmpYes X0.here hx rfl (pc0 := 96) (pc' := 103) rfl (hb hby d_method_2_code_96) rfl (feq hc96).2 (by decide) (by decide) k) ?_
                        show Go FrameEnd p e below s 0 0 (Q1 Z p1 en0 en1 en2 en3 en4 en5 en6 en7 en8 en9 en10 en11 en12 en13 en14 en15 en16 en17 en18 en19 en20 en21 h0) (s₁.setTop (mkF m 103 #[.val (.int p1)] []))
                        refine Go.step (fun _ k => XS.iloadN X0.here hx rfl (hb hby d_method_2_code_103) rfl k) ?_
                        show Go FrameEnd p e below s 0 0 (Q1 Z p1 en0 en1 en2 en3 en4 en5 en6 en7 en8 en9 en10 en11 en12 en13 en14 en15 en16 en17 en18 en19 en20 en21 h0) (s₁.setTop (mkF m 104 #[.val (.int p1)] [(.int p1)]))
                        refine Go.step (fun _ k => XS.bipush X0.here hx rfl (hb hby d_method_2_code_104) k) ?_
                        show Go FrameEnd p e below s 0 0 (Q1 Z p1 en0 en1 en2 en3 en4 en5 en6 en7 en8 en9 en10 en11 en12 en13 en14 en15 en16 en17 en18 en19 en20 en21 h0) (s₁.setTop (mkF m 106 #[.val (.int p1)] [(.int (11 : Int32)), (.int p1)]))
                        by_cases hc106 : p1 = (11 : Int32)
                        · skip
                          refine Go.step (fun _ k => XS.icmpNo X0.here hx rfl (hb hby d_method_2_code_106) rfl (teq hc106).2 k) ?_
                          show Go FrameEnd p e below s 0 0 (Q1 Z p1 en0 en1 en2 en3 en4 en5 en6 en7 en8 en9 en10 en11 en12 en13 en14 en15 en16 en17 en18 en19 en20 en21 h0) (s₁.setTop (mkF m 109 #[.val (.int p1)] []))
                          obtain ⟨T12, X12, e12, st12⟩ := getS2 X0 hx hZ hown (host := "") (Or.inl (hw _ (List.mem_of_getElem? (i := 35) rfl))) Via.refl e0 S11 (g := (mkF m 109 #[.val (.int p1)] [])) rfl (hb hby d_method_2_code_109)
                          refine Go.step st12 ?_
                          show Go FrameEnd p e below s 0 0 (Q1 Z p1 en0 en1 en2 en3 en4 en5 en6 en7 en8 en9 en10 en11 en12 en13 en14 en15 en16 en17 en18 en19 en20 en21 h0) (T12.setTop (mkF m 112 #[.val (.int p1)] [(.ref en11)]))
                          refine Go.retR X12 hx Bd.returns rfl rfl (hb hby d_method_2_code_112) (BodyLoose.notSynchronized Bd) e12 (by decide) (by decide) ?_
                          exact ⟨by first | contradiction | simp only [pickA, eq_false hc1, eq_false hc10, eq_false hc19, eq_false hc28, eq_false hc37, eq_false hc46, eq_false hc56, eq_false hc66, eq_false hc76, eq_false hc86, eq_false hc96, eq_true hc106, true_or, or_true, false_or, or_false, or_self, true_and, and_true, false_and, and_false, and_self, not_true_eq_false, not_false_eq_true, if_true, if_false], rfl, rfl⟩
                        · skip
                          refine Go.step (fun _ k => XS.icmpYes X0.here hx rfl (pc0 := 106) (pc' := 113) rfl (hb hby d_method_2_code_106) rfl (feq hc106).2 (by decide) (by decide) k) ?_
                          show Go FrameEnd p e below s 0 0 (Q1 Z p1 en0 en1 en2 en3 en4 en5 en6 en7 en8 en9 en10 en11 en12 en13 en14 en15 en16 en17 en18 en19 en20 en21 h0) (s₁.setTop (mkF m 113 #[.val (.int p1)] []))
                          refine Go.step (fun _ k => XS.iloadN X0.here hx rfl (hb hby d_method_2_code_113) rfl k) ?_
                          show Go FrameEnd p e below s 0 0 (Q1 Z p1 en0 en1 en2 en3 en4 en5 en6 en7 en8 en9 en10 en11 en12 en13 en14 en15 en16 en17 en18 en19 en20 en21 h0) (s₁.setTop (mkF m 114 #[.val (.int p1)] [(.int p1)]))
                          refine Go.step (fun _ k => XS.bipush X0.here hx rfl (hb hby d_method_2_code_114) k) ?_
                          show Go FrameEnd p e below s 0 0 (Q1 Z p1 en0 en1 en2 en3 en4 en5 en6 en7 en8 en9 en10 en11 en12 en13 en14 en15 en16 en17 en18 en19 en20 en21 h0) (s₁.setTop (mkF m 116 #[.val (.int p1)] [(.int (12 : Int32)), (.int p1)]))
                          by_cases hc116 : p1 = (12 : Int32)
                          · skip
                            refine Go.step (fun _ k => XS.icmpNo X0.here hx rfl (hb hby d_method_2_code_116) rfl (teq hc116).2 k) ?_
                            show Go FrameEnd p e below s 0 0 (Q1 Z p1 en0 en1 en2 en3 en4 en5 en6 en7 en8 en9 en10 en11 en12 en13 en14 en15 en16 en17 en18 en19 en20 en21 h0) (s₁.setTop (mkF m 119 #[.val (.int p1)] []))
                            obtain ⟨T13, X13, e13, st13⟩ := getS2 X0 hx hZ hown (host := "") (Or.inl (hw _ (List.mem_of_getElem? (i := 53) rfl))) Via.refl e0 S12 (g := (mkF m 119 #[.val (.int p1)] [])) rfl (hb hby d_method_2_code_119)
                            refine Go.step st13 ?_
                            show Go FrameEnd p e below s 0 0 (Q1 Z p1 en0 en1 en2 en3 en4 en5 en6 en7 en8 en9 en10 en11 en12 en13 en14 en15 en16 en17 en18 en19 en20 en21 h0) (T13.setTop (mkF m 122 #[.val (.int p1)] [(.ref en12)]))
                            refine Go.retR X13 hx Bd.returns rfl rfl (hb hby d_method_2_code_122) (BodyLoose.notSynchronized Bd) e13 (by decide) (by decide) ?_
                            exact ⟨by first | contradiction | simp only [pickA, eq_false hc1, eq_false hc10, eq_false hc19, eq_false hc28, eq_false hc37, eq_false hc46, eq_false hc56, eq_false hc66, eq_false hc76, eq_false hc86, eq_false hc96, eq_false hc106, eq_true hc116, true_or, or_true, false_or, or_false, or_self, true_and, and_true, false_and, and_false, and_self, not_true_eq_false, not_false_eq_true, if_true, if_false], rfl, rfl⟩
                          · skip
                            refine Go.step (fun _ k => XS.icmpYes X0.here hx rfl (pc0 := 116) (pc' := 123) rfl (hb hby d_method_2_code_116) rfl (feq hc116).2 (by decide) (by decide) k) ?_
                            show Go FrameEnd p e below s 0 0 (Q1 Z p1 en0 en1 en2 en3 en4 en5 en6 en7 en8 en9 en10 en11 en12 en13 en14 en15 en16 en17 en18 en19 en20 en21 h0) (s₁.setTop (mkF m 123 #[.val (.int p1)] []))
                            refine Go.step (fun _ k => XS.iloadN X0.here hx rfl (hb hby d_method_2_code_123) rfl k) ?_
                            show Go FrameEnd p e below s 0 0 (Q1 Z p1 en0 en1 en2 en3 en4 en5 en6 en7 en8 en9 en10 en11 en12 en13 en14 en15 en16 en17 en18 en19 en20 en21 h0) (s₁.setTop (mkF m 124 #[.val (.int p1)] [(.int p1)]))
                            refine Go.step (fun _ k => XS.bipush X0.here hx rfl (hb hby d_method_2_code_124) k) ?_
                            show Go FrameEnd p e below s 0 0 (Q1 Z p1 en0 en1 en2 en3 en4 en5 en6 en7 en8 en9 en10 en11 en12 en13 en14 en15 en16 en17 en18 en19 en20 en21 h0) (s₁.setTop (mkF m 126 #[.val (.int p1)] [(.int (13 : Int32)), (.int p1)]))
                            by_cases hc126 : p1 = (13 : Int32)
                            · skip
                              refine Go.step (fun _ k => XS.icmpNo X0.here hx rfl (hb hby d_method_2_code_126) rfl (teq hc126).2 k) ?_
                              show Go FrameEnd p e below s 0 0 (Q1 Z p1 en0 en1 en2 en3 en4 en5 en6 en7 en8 en9 en10 en11 en12 en13 en14 en15 en16 en17 en18 en19 en20 en21 h0) (s₁.setTop (mkF m 129 #[.val (.int p1)] []))
                              obtain ⟨T14, X14, e14, st14⟩ := getS2 X0 hx hZ hown (host := "") (Or.inl (hw _ (List.mem_of_getElem? (i := 8) rfl))) Via.refl e0 S13 (g := (mkF m 129 #[.val (.int p1)] [])) rfl (hb hby d_method_2_code_129)
                              refine Go.step st14 ?_
                              show Go FrameEnd p e below s 0 0 (Q1 Z p1 en0 en1 en2 en3 en4 en5 en6 en7 en8 en9 en10 en11 en12 en13 en14 en15 en16 en17 en18 en19 en20 en21 h0) (T14.setTop (mkF m 132 #[.val (.int p1)] [(.ref en13)]))
                              refine Go.retR X14 hx Bd.returns rfl rfl (hb hby d_method_2_code_132) (BodyLoose.notSynchronized Bd) e14 (by decide) (by decide) ?_
                              exact ⟨by first | contradiction | simp only [pickA, eq_false hc1, eq_false hc10, eq_false hc19, eq_false hc28, eq_false hc37, eq_false hc46, eq_false hc56, eq_false hc66, eq_false hc76, eq_false hc86, eq_false hc96, eq_false hc106, eq_false hc116, eq_true hc126, true_or, or_true, false_or, or_false, or_self, true_and, and_true, false_and, and_false, and_self, not_true_eq_false, not_false_eq_true, if_true, if_false], rfl, rfl⟩
                            · skip
                              refine Go.step (fun _ k => XS.icmpYes X0.here hx rfl (pc0 := 126) (pc' := 133) rfl (hb hby d_method_2_code_126) rfl (feq hc126).2 (by decide) (by decide) k) ?_
                              show Go FrameEnd p e below s 0 0 (Q1 Z p1 en0 en1 en2 en3 en4 en5 en6 en7 en8 en9 en10 en11 en12 en13 en14 en15 en16 en17 en18 en19 en20 en21 h0) (s₁.setTop (mkF m 133 #[.val (.int p1)] []))
                              refine Go.step (fun _ k => XS.iloadN X0.here hx rfl (hb hby d_method_2_code_133) rfl k) ?_
                              show Go FrameEnd p e below s 0 0 (Q1 Z p1 en0 en1 en2 en3 en4 en5 en6 en7 en8 en9 en10 en11 en12 en13 en14 en15 en16 en17 en18 en19 en20 en21 h0) (s₁.setTop (mkF m 134 #[.val (.int p1)] [(.int p1)]))
                              refine Go.step (fun _ k => XS.bipush X0.here hx rfl (hb hby d_method_2_code_134) k) ?_
                              show Go FrameEnd p e below s 0 0 (Q1 Z p1 en0 en1 en2 en3 en4 en5 en6 en7 en8 en9 en10 en11 en12 en13 en14 en15 en16 en17 en18 en19 en20 en21 h0) (s₁.setTop (mkF m 136 #[.val (.int p1)] [(.int (14 : Int32)), (.int p1)]))
                              by_cases hc136 : p1 = (14 : Int32)
                              · skip
                                refine Go.step (fun _ k => XS.icmpNo X0.here hx rfl (hb hby d_method_2_code_136) rfl (teq hc136).2 k) ?_
                                show Go FrameEnd p e below s 0 0 (Q1 Z p1 en0 en1 en2 en3 en4 en5 en6 en7 en8 en9 en10 en11 en12 en13 en14 en15 en16 en17 en18 en19 en20 en21 h0) (s₁.setTop (mkF m 139 #[.val (.int p1)] []))
                                obtain ⟨T15, X15, e15, st15⟩ := getS2 X0 hx hZ hown (host := "") (Or.inl (hw _ (List.mem_of_getElem? (i := 10) rfl))) Via.refl e0 S14 (g := (mkF m 139 #[.val (.int p1)] [])) rfl (hb hby d_method_2_code_139)
                                refine Go.step st15 ?_
                                show Go FrameEnd p e below s 0 0 (Q1 Z p1 en0 en1 en2 en3 en4 en5 en6 en7 en8 en9 en10 en11 en12 en13 en14 en15 en16 en17 en18 en19 en20 en21 h0) (T15.setTop (mkF m 142 #[.val (.int p1)] [(.ref en14)]))
                                refine Go.retR X15 hx Bd.returns rfl rfl (hb hby d_method_2_code_142) (BodyLoose.notSynchronized Bd) e15 (by decide) (by decide) ?_
                                exact ⟨by first | contradiction | simp only [pickA, eq_false hc1, eq_false hc10, eq_false hc19, eq_false hc28, eq_false hc37, eq_false hc46, eq_false hc56, eq_false hc66, eq_false hc76, eq_false hc86, eq_false hc96, eq_false hc106, eq_false hc116, eq_false hc126, eq_true hc136, true_or, or_true, false_or, or_false, or_self, true_and, and_true, false_and, and_false, and_self, not_true_eq_false, not_false_eq_true, if_true, if_false], rfl, rfl⟩
                              · skip
                                refine Go.step (fun _ k => XS.icmpYes X0.here hx rfl (pc0 := 136) (pc' := 143) rfl (hb hby d_method_2_code_136) rfl (feq hc136).2 (by decide) (by decide) k) ?_
                                show Go FrameEnd p e below s 0 0 (Q1 Z p1 en0 en1 en2 en3 en4 en5 en6 en7 en8 en9 en10 en11 en12 en13 en14 en15 en16 en17 en18 en19 en20 en21 h0) (s₁.setTop (mkF m 143 #[.val (.int p1)] []))
                                refine Go.step (fun _ k => XS.iloadN X0.here hx rfl (hb hby d_method_2_code_143) rfl k) ?_
                                show Go FrameEnd p e below s 0 0 (Q1 Z p1 en0 en1 en2 en3 en4 en5 en6 en7 en8 en9 en10 en11 en12 en13 en14 en15 en16 en17 en18 en19 en20 en21 h0) (s₁.setTop (mkF m 144 #[.val (.int p1)] [(.int p1)]))
                                refine Go.step (fun _ k => XS.bipush X0.here hx rfl (hb hby d_method_2_code_144) k) ?_
                                show Go FrameEnd p e below s 0 0 (Q1 Z p1 en0 en1 en2 en3 en4 en5 en6 en7 en8 en9 en10 en11 en12 en13 en14 en15 en16 en17 en18 en19 en20 en21 h0) (s₁.setTop (mkF m 146 #[.val (.int p1)] [(.int (15 : Int32)), (.int p1)]))
                                by_cases hc146 : p1 = (15 : Int32)
                                · skip
                                  refine Go.step (fun _ k => XS.icmpNo X0.here hx rfl (hb hby d_method_2_code_146) rfl (teq hc146).2 k) ?_
                                  show Go FrameEnd p e below s 0 0 (Q1 Z p1 en0 en1 en2 en3 en4 en5 en6 en7 en8 en9 en10 en11 en12 en13 en14 en15 en16 en17 en18 en19 en20 en21 h0) (s₁.setTop (mkF m 149 #[.val (.int p1)] []))
                                  obtain ⟨T16, X16, e16, st16⟩ := getS2 X0 hx hZ hown (host := "") (Or.inl (hw _ (List.mem_of_getElem? (i := 12) rfl))) Via.refl e0 S15 (g := (mkF m 149 #[.val (.int p1)] [])) rfl (hb hby d_method_2_code_149)
                                  refine Go.step st16 ?_
                                  show Go FrameEnd p e below s 0 0 (Q1 Z p1 en0 en1 en2 en3 en4 en5 en6 en7 en8 en9 en10 en11 en12 en13 en14 en15 en16 en17 en18 en19 en20 en21 h0) (T16.setTop (mkF m 152 #[.val (.int p1)] [(.ref en15)]))
                                  refine Go.retR X16 hx Bd.returns rfl rfl (hb hby d_method_2_code_152) (BodyLoose.notSynchronized Bd) e16 (by decide) (by decide) ?_
                                  exact ⟨by first | contradiction | simp only [pickA, eq_false hc1, eq_false hc10, eq_false hc19, eq_false hc28, eq_false hc37, eq_false hc46, eq_false hc56, eq_false hc66, eq_false hc76, eq_false hc86, eq_false hc96, eq_false hc106, eq_false hc116, eq_false hc126, eq_false hc136, eq_true hc146, true_or, or_true, false_or, or_false, or_self, true_and, and_true, false_and, and_false, and_self, not_true_eq_false, not_false_eq_true, if_true, if_false], rfl, rfl⟩
                                · skip
                                  refine Go.step (fun _ k => XS.icmpYes X0.here hx rfl (pc0 := 146) (pc' := 153) rfl (hb hby d_method_2_code_146) rfl (feq hc146).2 (by decide) (by decide) k) ?_
                                  show Go FrameEnd p e below s 0 0 (Q1 Z p1 en0 en1 en2 en3 en4 en5 en6 en7 en8 en9 en10 en11 en12 en13 en14 en15 en16 en17 en18 en19 en20 en21 h0) (s₁.setTop (mkF m 153 #[.val (.int p1)] []))
                                  refine Go.step (fun _ k => XS.iloadN X0.here hx rfl (hb hby d_method_2_code_153) rfl k) ?_
                                  show Go FrameEnd p e below s 0 0 (Q1 Z p1 en0 en1 en2 en3 en4 en5 en6 en7 en8 en9 en10 en11 en12 en13 en14 en15 en16 en17 en18 en19 en20 en21 h0) (s₁.setTop (mkF m 154 #[.val (.int p1)] [(.int p1)]))
                                  refine Go.step (fun _ k => XS.bipush X0.here hx rfl (hb hby d_method_2_code_154) k) ?_
                                  show Go FrameEnd p e below s 0 0 (Q1 Z p1 en0 en1 en2 en3 en4 en5 en6 en7 en8 en9 en10 en11 en12 en13 en14 en15 en16 en17 en18 en19 en20 en21 h0) (s₁.setTop (mkF m 156 #[.val (.int p1)] [(.int (16 : Int32)), (.int p1)]))
                                  by_cases hc156 : p1 = (16 : Int32)
                                  · skip
                                    refine Go.step (fun _ k => XS.icmpNo X0.here hx rfl (hb hby d_method_2_code_156) rfl (teq hc156).2 k) ?_
                                    show Go FrameEnd p e below s 0 0 (Q1 Z p1 en0 en1 en2 en3 en4 en5 en6 en7 en8 en9 en10 en11 en12 en13 en14 en15 en16 en17 en18 en19 en20 en21 h0) (s₁.setTop (mkF m 159 #[.val (.int p1)] []))
                                    obtain ⟨T17, X17, e17, st17⟩ := getS2 X0 hx hZ hown (host := "") (Or.inl (hw _ (List.mem_of_getElem? (i := 14) rfl))) Via.refl e0 S16 (g := (mkF m 159 #[.val (.int p1)] [])) rfl (hb hby d_method_2_code_159)
                                    refine Go.step st17 ?_
                                    show Go FrameEnd p e below s 0 0 (Q1 Z p1 en0 en1 en2 en3 en4 en5 en6 en7 en8 en9 en10 en11 en12 en13 en14 en15 en16 en17 en18 en19 en20 en21 h0) (T17.setTop (mkF m 162 #[.val (.int p1)] [(.ref en16)]))
                                    refine Go.retR X17 hx Bd.returns rfl rfl (hb hby d_method_2_code_162) (BodyLoose.notSynchronized Bd) e17 (by decide) (by decide) ?_
                                    exact ⟨by first | contradiction | simp only [pickA, eq_false hc1, eq_false hc10, eq_false hc19, eq_false hc28, eq_false hc37, eq_false hc46, eq_false hc56, eq_false hc66, eq_false hc76, eq_false hc86, eq_false hc96, eq_false hc106, eq_false hc116, eq_false hc126, eq_false hc136, eq_false hc146, eq_true hc156, true_or, or_true, false_or, or_false, or_self, true_and, and_true, false_and, and_false, and_self, not_true_eq_false, not_false_eq_true, if_true, if_false], rfl, rfl⟩
                                  · skip
                                    refine Go.step (fun _ k => XS.icmpYes X0.here hx rfl (pc0 := 156) (pc' := 163) rfl (hb hby d_method_2_code_156) rfl (feq hc156).2 (by decide) (by decide) k) ?_
                                    show Go FrameEnd p e below s 0 0 (Q1 Z p1 en0 en1 en2 en3 en4 en5 en6 en7 en8 en9 en10 en11 en12 en13 en14 en15 en16 en17 en18 en19 en20 en21 h0) (s₁.setTop (mkF m 163 #[.val (.int p1)] []))
                                    refine Go.step (fun _ k => XS.iloadN X0.here hx rfl (hb hby d_method_2_code_163) rfl k) ?_
                                    show Go FrameEnd p e below s 0 0 (Q1 Z p1 en0 en1 en2 en3 en4 en5 en6 en7 en8 en9 en10 en11 en12 en13 en14 en15 en16 en17 en18 en19 en20 en21 h0) (s₁.setTop (mkF m 164 #[.val (.int p1)] [(.int p1)]))
                                    refine Go.step (fun _ k => XS.bipush X0.here hx rfl (hb hby d_method_2_code_164) k) ?_
                                    show Go FrameEnd p e below s 0 0 (Q1 Z p1 en0 en1 en2 en3 en4 en5 en6 en7 en8 en9 en10 en11 en12 en13 en14 en15 en16 en17 en18 en19 en20 en21 h0) (s₁.setTop (mkF m 166 #[.val (.int p1)] [(.int (17 : Int32)), (.int p1)]))
                                    by_cases hc166 : p1 = (17 : Int32)
                                    · skip
                                      refine Go.step (fun _ k => XS.icmpNo X0.here hx rfl (hb hby d_method_2_code_166) rfl (teq hc166).2 k) ?_
                                      show Go FrameEnd p e below s 0 0 (Q1 Z p1 en0 en1 en2 en3 en4 en5 en6 en7 en8 en9 en10 en11 en12 en13 en14 en15 en16 en17 en18 en19 en20 en21 h0) (s₁.setTop (mkF m 169 #[.val (.int p1)] []))
                                      obtain ⟨T18, X18, e18, st18⟩ := getS2 X0 hx hZ hown (host := "") (Or.inl (hw _ (List.mem_of_getElem? (i := 16) rfl))) Via.refl e0 S17 (g := (mkF m 169 #[.val (.int p1)] [])) rfl (hb hby d_method_2_code_169)
                                      refine Go.step st18 ?_
                                      show Go FrameEnd p e below s 0 0 (Q1 Z p1 en0 en1 en2 en3 en4 en5 en6 en7 en8 en9 en10 en11 en12 en13 en14 en15 en16 en17 en18 en19 en20 en21 h0) (T18.setTop (mkF m 172 #[.val (.int p1)] [(.ref en17)]))
                                      refine Go.retR X18 hx Bd.returns rfl rfl (hb hby d_method_2_code_172) (BodyLoose.notSynchronized Bd) e18 (by decide) (by decide) ?_
                                      exact ⟨by first | contradiction | simp only [pickA, eq_false hc1, eq_false hc10, eq_false hc19, eq_false hc28, eq_false hc37, eq_false hc46, eq_false hc56, eq_false hc66, eq_false hc76, eq_false hc86, eq_false hc96, eq_false hc106, eq_false hc116, eq_false hc126, eq_false hc136, eq_false hc146, eq_false hc156, eq_true hc166, true_or, or_true, false_or, or_false, or_self, true_and, and_true, false_and, and_false, and_self, not_true_eq_false, not_false_eq_true, if_true, if_false], rfl, rfl⟩
                                    · skip
                                      refine Go.step (fun _ k => XS.icmpYes X0.here hx rfl (pc0 := 166) (pc' := 173) rfl (hb hby d_method_2_code_166) rfl (feq hc166).2 (by decide) (by decide) k) ?_
                                      show Go FrameEnd p e below s 0 0 (Q1 Z p1 en0 en1 en2 en3 en4 en5 en6 en7 en8 en9 en10 en11 en12 en13 en14 en15 en16 en17 en18 en19 en20 en21 h0) (s₁.setTop (mkF m 173 #[.val (.int p1)] []))
                                      refine Go.step (fun _ k => XS.iloadN X0.here hx rfl (hb hby d_method_2_code_173) rfl k) ?_
                                      show Go FrameEnd p e below s 0 0 (Q1 Z p1 en0 en1 en2 en3 en4 en5 en6 en7 en8 en9 en10 en11 en12 en13 en14 en15 en16 en17 en18 en19 en20 en21 h0) (s₁.setTop (mkF m 174 #[.val (.int p1)] [(.int p1)]))
                                      refine Go.step (fun _ k => XS.bipush X0.here hx rfl (hb hby d_method_2_code_174) k) ?_
                                      show Go FrameEnd p e below s 0 0 (Q1 Z p1 en0 en1 en2 en3 en4 en5 en6 en7 en8 en9 en10 en11 en12 en13 en14 en15 en16 en17 en18 en19 en20 en21 h0) (s₁.setTop (mkF m 176 #[.val (.int p1)] [(.int (18 : Int32)), (.int p1)]))
                                      by_cases hc176 : p1 = (18 : Int32)
                                      · skip
                                        refine Go.step (fun _ k => XS.icmpNo X0.here hx rfl (hb hby d_method_2_code_176) rfl (teq hc176).2 k) ?_
                                        show Go FrameEnd p e below s 0 0 (Q1 Z p1 en0 en1 en2 en3 en4 en5 en6 en7 en8 en9 en10 en11 en12 en13 en14 en15 en16 en17 en18 en19 en20 en21 h0) (s₁.setTop (mkF m 179 #[.val (.int p1)] []))
                                        obtain ⟨T19, X19, e19, st19⟩ := getS2 X0 hx hZ hown (host := "") (Or.inl (hw _ (List.mem_of_getElem? (i := 18) rfl))) Via.refl e0 S18 (g := (mkF m 179 #[.val (.int p1)] [])) rfl (hb hby d_method_2_code_179)
                                        refine Go.step st19 ?_
                                        show Go FrameEnd p e below s 0 0 (Q1 Z p1 en0 en1 en2 en3 en4 en5 en6 en7 en8 en9 en10 en11 en12 en13 en14 en15 en16 en17 en18 en19 en20 en21 h0) (T19.setTop (mkF m 182 #[.val (.int p1)] [(.ref en18)]))
                                        refine Go.retR X19 hx Bd.returns rfl rfl (hb hby d_method_2_code_182) (BodyLoose.notSynchronized Bd) e19 (by decide) (by decide) ?_
                                        exact ⟨by first | contradiction | simp only [pickA, eq_false hc1, eq_false hc10, eq_false hc19, eq_false hc28, eq_false hc37, eq_false hc46, eq_false hc56, eq_false hc66, eq_false hc76, eq_false hc86, eq_false hc96, eq_false hc106, eq_false hc116, eq_false hc126, eq_false hc136, eq_false hc146, eq_false hc156, eq_false hc166, eq_true hc176, true_or, or_true, false_or, or_false, or_self, true_and, and_true, false_and, and_false, and_self, not_true_eq_false, not_false_eq_true, if_true, if_false], rfl, rfl⟩
                                      · skip
                                        refine Go.step (fun _ k => XS.icmpYes X0.here hx rfl (pc0 := 176) (pc' := 183) rfl (hb hby d_method_2_code_176) rfl (feq hc176).2 (by decide) (by decide) k) ?_
                                        show Go FrameEnd p e below s 0 0 (Q1 Z p1 en0 en1 en2 en3 en4 en5 en6 en7 en8 en9 en10 en11 en12 en13 en14 en15 en16 en17 en18 en19 en20 en21 h0) (s₁.setTop (mkF m 183 #[.val (.int p1)] []))
                                        refine Go.step (fun _ k => XS.iloadN X0.here hx rfl (hb hby d_method_2_code_183) rfl k) ?_
                                        show Go FrameEnd p e below s 0 0 (Q1 Z p1 en0 en1 en2 en3 en4 en5 en6 en7 en8 en9 en10 en11 en12 en13 en14 en15 en16 en17 en18 en19 en20 en21 h0) (s₁.setTop (mkF m 184 #[.val (.int p1)] [(.int p1)]))
                                        refine Go.step (fun _ k => XS.bipush X0.here hx rfl (hb hby d_method_2_code_184) k) ?_
                                        show Go FrameEnd p e below s 0 0 (Q1 Z p1 en0 en1 en2 en3 en4 en5 en6 en7 en8 en9 en10 en11 en12 en13 en14 en15 en16 en17 en18 en19 en20 en21 h0) (s₁.setTop (mkF m 186 #[.val (.int p1)] [(.int (19 : Int32)), (.int p1)]))
                                        by_cases hc186 : p1 = (19 : Int32)
                                        · skip
                                          refine Go.step (fun _ k => XS.icmpNo X0.here hx rfl (hb hby d_method_2_code_186) rfl (teq hc186).2 k) ?_
                                          show Go FrameEnd p e below s 0 0 (Q1 Z p1 en0 en1 en2 en3 en4 en5 en6 en7 en8 en9 en10 en11 en12 en13 en14 en15 en16 en17 en18 en19 en20 en21 h0) (s₁.setTop (mkF m 189 #[.val (.int p1)] []))
                                          obtain ⟨T20, X20, e20, st20⟩ := getS2 X0 hx hZ hown (host := "") (Or.inl (hw _ (List.mem_of_getElem? (i := 47) rfl))) Via.refl e0 S19 (g := (mkF m 189 #[.val (.int p1)] [])) rfl (hb hby d_method_2_code_189)
                                          refine Go.step st20 ?_
                                          show Go FrameEnd p e below s 0 0 (Q1 Z p1 en0 en1 en2 en3 en4 en5 en6 en7 en8 en9 en10 en11 en12 en13 en14 en15 en16 en17 en18 en19 en20 en21 h0) (T20.setTop (mkF m 192 #[.val (.int p1)] [(.ref en19)]))
                                          refine Go.retR X20 hx Bd.returns rfl rfl (hb hby d_method_2_code_192) (BodyLoose.notSynchronized Bd) e20 (by decide) (by decide) ?_
                                          exact ⟨by first | contradiction | simp only [pickA, eq_false hc1, eq_false hc10, eq_false hc19, eq_false hc28, eq_false hc37, eq_false hc46, eq_false hc56, eq_false hc66, eq_false hc76, eq_false hc86, eq_false hc96, eq_false hc106, eq_false hc116, eq_false hc126, eq_false hc136, eq_false hc146, eq_false hc156, eq_false hc166, eq_false hc176, eq_true hc186, true_or, or_true, false_or, or_false, or_self, true_and, and_true, false_and, and_false, and_self, not_true_eq_false, not_false_eq_true, if_true, if_false], rfl, rfl⟩
                                        · skip
                                          refine Go.step (fun _ k => XS.icmpYes X0.here hx rfl (pc0 := 186) (pc' := 193) rfl (hb hby d_method_2_code_186) rfl (feq hc186).2 (by decide) (by decide) k) ?_
                                          show Go FrameEnd p e below s 0 0 (Q1 Z p1 en0 en1 en2 en3 en4 en5 en6 en7 en8 en9 en10 en11 en12 en13 en14 en15 en16 en17 en18 en19 en20 en21 h0) (s₁.setTop (mkF m 193 #[.val (.int p1)] []))
                                          refine Go.step (fun _ k => XS.iloadN X0.here hx rfl (hb hby d_method_2_code_193) rfl k) ?_
                                          show Go FrameEnd p e below s 0 0 (Q1 Z p1 en0 en1 en2 en3 en4 en5 en6 en7 en8 en9 en10 en11 en12 en13 en14 en15 en16 en17 en18 en19 en20 en21 h0) (s₁.setTop (mkF m 194 #[.val (.int p1)] [(.int p1)]))
                                          refine Go.step (fun _ k => XS.bipush X0.here hx rfl (hb hby d_method_2_code_194) k) ?_
                                          show Go FrameEnd p e below s 0 0 (Q1 Z p1 en0 en1 en2 en3 en4 en5 en6 en7 en8 en9 en10 en11 en12 en13 en14 en15 en16 en17 en18 en19 en20 en21 h0) (s₁.setTop (mkF m 196 #[.val (.int p1)] [(.int (20 : Int32)), (.int p1)]))
                                          by_cases hc196 : p1 = (20 : Int32)
                                          · skip
                                            refine Go.step (fun _ k => XS.icmpNo X0.here hx rfl (hb hby d_method_2_code_196) rfl (teq hc196).2 k) ?_
                                            show Go FrameEnd p e below s 0 0 (Q1 Z p1 en0 en1 en2 en3 en4 en5 en6 en7 en8 en9 en10 en11 en12 en13 en14 en15 en16 en17 en18 en19 en20 en21 h0) (s₁.setTop (mkF m 199 #[.val (.int p1)] []))
                                            obtain ⟨T21, X21, e21, st21⟩ := getS2 X0 hx hZ hown (host := "") (Or.inl (hw _ (List.mem_of_getElem? (i := 55) rfl))) Via.refl e0 S20 (g := (mkF m 199 #[.val (.int p1)] [])) rfl (hb hby d_method_2_code_199)
                                            refine Go.step st21 ?_
                                            show Go FrameEnd p e below s 0 0 (Q1 Z p1 en0 en1 en2 en3 en4 en5 en6 en7 en8 en9 en10 en11 en12 en13 en14 en15 en16 en17 en18 en19 en20 en21 h0) (T21.setTop (mkF m 202 #[.val (.int p1)] [(.ref en20)]))
                                            refine Go.retR X21 hx Bd.returns rfl rfl (hb hby d_method_2_code_202) (BodyLoose.notSynchronized Bd) e21 (by decide) (by decide) ?_
                                            exact ⟨by first | contradiction | simp only [pickA, eq_false hc1, eq_false hc10, eq_false hc19, eq_false hc28, eq_false hc37, eq_false hc46, eq_false hc56, eq_false hc66, eq_false hc76, eq_false hc86, eq_false hc96, eq_false hc106, eq_false hc116, eq_false hc126, eq_false hc136, eq_false hc146, eq_false hc156, eq_false hc166, eq_false hc176, eq_false hc186, eq_true hc196, true_or, or_true, false_or, or_false, or_self, true_and, and_true, false_and, and_false, and_self, not_true_eq_false, not_false_eq_true, if_true, if_false], rfl, rfl⟩
                                          · skip
                                            refine Go.step (fun _ k => XS.icmpYes X0.here hx rfl (pc0 := 196) (pc' := 203) rfl (hb hby d_method_2_code_196) rfl (feq hc196).2 (by decide) (by decide) k) ?_
                                            show Go FrameEnd p e below s 0 0 (Q1 Z p1 en0 en1 en2 en3 en4 en5 en6 en7 en8 en9 en10 en11 en12 en13 en14 en15 en16 en17 en18 en19 en20 en21 h0) (s₁.setTop (mkF m 203 #[.val (.int p1)] []))
                                            obtain ⟨T22, X22, e22, st22⟩ := getS2 X0 hx hZ hown (host := "") (Or.inl (hw _ (List.mem_of_getElem? (i := 51) rfl))) Via.refl e0 S21 (g := (mkF m 203 #[.val (.int p1)] [])) rfl (hb hby d_method_2_code_203)
                                            refine Go.step st22 ?_
                                            show Go FrameEnd p e below s 0 0 (Q1 Z p1 en0 en1 en2 en3 en4 en5 en6 en7 en8 en9 en10 en11 en12 en13 en14 en15 en16 en17 en18 en19 en20 en21 h0) (T22.setTop (mkF m 206 #[.val (.int p1)] [(.ref en21)]))
                                            refine Go.retR X22 hx Bd.returns rfl rfl (hb hby d_method_2_code_206) (BodyLoose.notSynchronized Bd) e22 (by decide) (by decide) ?_
                                            exact ⟨by first | contradiction | simp only [pickA, eq_false hc1, eq_false hc10, eq_false hc19, eq_false hc28, eq_false hc37, eq_false hc46, eq_false hc56, eq_false hc66, eq_false hc76, eq_false hc86, eq_false hc96, eq_false hc106, eq_false hc116, eq_false hc126, eq_false hc136, eq_false hc146, eq_false hc156, eq_false hc166, eq_false hc176, eq_false hc186, eq_false hc196, true_or, or_true, false_or, or_false, or_self, true_and, and_true, false_and, and_false, and_self, not_true_eq_false, not_false_eq_true, if_true, if_false], rfl, rfl⟩
def Q2y (Z : State) (a1 : Addr) (t : Addr) (h0 : Heap) (v : Option Value) (h : Heap) (L : List Loc) : Prop := v = some (.int (1 : Int32)) ∧ L = [] ∧ h = h0
theorem ef_2y (m : MethodId) (a1 : Addr) : entryFrame m #[(.ref a1)] 1 = mkF m 0 #[.val (.ref a1)] [] := by first | (simp [entryFrame, mkF, argsToLocals, Value.category]; done) | rfl
set_option maxRecDepth 65536 in
set_option maxHeartbeats 40000000 in
theorem rm2y (l : Launch) (Z : State) (a0 : Array Value) (hw : ∀ d ∈ tables_1, d.before a0 Z = true) (ws : List Jvm.Cond) (a1 : Addr) (t : Addr) (h0 : Heap) (F_choice_a1 : Fld Z h0 a1 "deckmill/Card" "choice" "Ldeckmill/Card$Choice;" (.ref t)) :
    MetFree l (⟨"deckmill/Card", "asksChoice", "()Z"⟩ : MethodName) (head1 (Jvm.Cond.code (⟨"deckmill/Card", "asksChoice", "()Z"⟩ : MethodName) prog_1_method_19_code 1 (some .boolean) :: ws) ({ frames := 0, cells := 0, slots := 0, locals := 0 } : Room)) (fun a U => a = #[(.ref a1)] ∧ Z.Warmed39 U.vm ∧ U.heap = h0) (fun _ _ _ _ _ => True) (fun _ U o U' => ∃ v L, o = .returned v ∧ (Q2y Z a1 t h0) v U'.heap L ∧ FrameEnd U o U' L 0 0) := by
  refine MetFree.of_bodySF (plainFor_of_name pn_deckmill_Card) hisR ?_
  intro p e s m args below meth c s₁ Bd hml0 hP hK
  obtain ⟨rfl, hZ, hh⟩ := hP
  have hx := Bd.exec
  have hby := Bd.bytes
  have hml : c.maxLocals = 1 := hml0
  have hown : s.vm.findClass "deckmill/Card" = some m.cls := findClass_of_methodNamed Bd.named
  have hnm := (name_of_methodNamed Bd.named Bd.method).1
  have X0 : Stand p l e ({ frames := 0, cells := 0, slots := 0, locals := 0 } : Room) s m #[(.ref a1)] below meth c s₁ [] 0 0 := Stand.of_body Bd
  have e0 : s₁.heap = h0 := by rw [← hh, Bd.state]; rfl
  show Go FrameEnd p e below s 0 0 (Q2y Z a1 t h0) _
  refine Go.step (fun _ k => castTop (ef_2y m a1) k) ?_
  show Go FrameEnd p e below s 0 0 (Q2y Z a1 t h0) (s₁.setTop (mkF m 0 #[.val (.ref a1)] []))
  refine Go.step (fun _ k => XS.aloadN X0.here hx rfl (hb hby d_prog_1_method_19_code_0) rfl rfl k) ?_
  show Go FrameEnd p e below s 0 0 (Q2y Z a1 t h0) (s₁.setTop (mkF m 1 #[.val (.ref a1)] [(.ref a1)]))
  obtain ⟨T1, X1, e1, st1⟩ := getF X0 hx hZ hown (host := "") (Or.inl (hw _ (List.mem_of_getElem? (i := 25) rfl))) Via.refl e0 F_choice_a1 (g := (mkF m 1 #[.val (.ref a1)] [(.ref a1)])) rfl rfl (hb hby d_prog_1_method_19_code_1)
  refine Go.step st1 ?_
  show Go FrameEnd p e below s 0 0 (Q2y Z a1 t h0) (T1.setTop (mkF m 4 #[.val (.ref a1)] [(.ref t)]))
  refine Go.step (fun _ k => XS.ifnullNo X1.here hx rfl (hb hby d_prog_1_method_19_code_4) rfl k) ?_
  show Go FrameEnd p e below s 0 0 (Q2y Z a1 t h0) (T1.setTop (mkF m 7 #[.val (.ref a1)] []))
  refine Go.step (fun _ k => XS.iconst X1.here hx rfl (hb hby d_prog_1_method_19_code_7) k) ?_
  show Go FrameEnd p e below s 0 0 (Q2y Z a1 t h0) (T1.setTop (mkF m 8 #[.val (.ref a1)] [(.int (1 : Int32))]))
  refine Go.step (fun _ k => XS.goto X1.here hx rfl (pc0 := 8) (pc' := 12) rfl (hb hby d_prog_1_method_19_code_8) (by decide) (by decide) k) ?_
  show Go FrameEnd p e below s 0 0 (Q2y Z a1 t h0) (T1.setTop (mkF m 12 #[.val (.ref a1)] [(.int (1 : Int32))]))
  refine Go.retN X1 hx (t := .boolean) Bd.returns (by simp) (by decide) (hb hby d_prog_1_method_19_code_12) (BodyLoose.notSynchronized Bd) e1 (by decide) (by decide) ?_
  exact ⟨rfl, rfl, rfl⟩
def Q2n (Z : State) (a1 : Addr) (h0 : Heap) (v : Option Value) (h : Heap) (L : List Loc) : Prop := v = some (.int (0 : Int32)) ∧ L = [] ∧ h = h0
theorem ef_2n (m : MethodId) (a1 : Addr) : entryFrame m #[(.ref a1)] 1 = mkF m 0 #[.val (.ref a1)] [] := by first | (simp [entryFrame, mkF, argsToLocals, Value.category]; done) | rfl
set_option maxRecDepth 65536 in
set_option maxHeartbeats 40000000 in
theorem rm2n (l : Launch) (Z : State) (a0 : Array Value) (hw : ∀ d ∈ tables_1, d.before a0 Z = true) (ws : List Jvm.Cond) (a1 : Addr) (h0 : Heap) (F_choice_a1 : Fld Z h0 a1 "deckmill/Card" "choice" "Ldeckmill/Card$Choice;" .null) :
    MetFree l (⟨"deckmill/Card", "asksChoice", "()Z"⟩ : MethodName) (head1 (Jvm.Cond.code (⟨"deckmill/Card", "asksChoice", "()Z"⟩ : MethodName) prog_1_method_19_code 1 (some .boolean) :: ws) ({ frames := 0, cells := 0, slots := 0, locals := 0 } : Room)) (fun a U => a = #[(.ref a1)] ∧ Z.Warmed39 U.vm ∧ U.heap = h0) (fun _ _ _ _ _ => True) (fun _ U o U' => ∃ v L, o = .returned v ∧ (Q2n Z a1 h0) v U'.heap L ∧ FrameEnd U o U' L 0 0) := by
  refine MetFree.of_bodySF (plainFor_of_name pn_deckmill_Card) hisR ?_
  intro p e s m args below meth c s₁ Bd hml0 hP hK
  obtain ⟨rfl, hZ, hh⟩ := hP
  have hx := Bd.exec
  have hby := Bd.bytes
  have hml : c.maxLocals = 1 := hml0
  have hown : s.vm.findClass "deckmill/Card" = some m.cls := findClass_of_methodNamed Bd.named
  have hnm := (name_of_methodNamed Bd.named Bd.method).1
  have X0 : Stand p l e ({ frames := 0, cells := 0, slots := 0, locals := 0 } : Room) s m #[(.ref a1)] below meth c s₁ [] 0 0 := Stand.of_body Bd
  have e0 : s₁.heap = h0 := by rw [← hh, Bd.state]; rfl
  show Go FrameEnd p e below s 0 0 (Q2n Z a1 h0) _
  refine Go.step (fun _ k => castTop (ef_2n m a1) k) ?_
  show Go FrameEnd p e below s 0 0 (Q2n Z a1 h0) (s₁.setTop (mkF m 0 #[.val (.ref a1)] []))
  refine Go.step (fun _ k => XS.aloadN X0.here hx rfl (hb hby d_prog_1_method_19_code_0) rfl rfl k) ?_
  show Go FrameEnd p e below s 0 0 (Q2n Z a1 h0) (s₁.setTop (mkF m 1 #[.val (.ref a1)] [(.ref a1)]))
  obtain ⟨T1, X1, e1, st1⟩ := getF X0 hx hZ hown (host := "") (Or.inl (hw _ (List.mem_of_getElem? (i := 25) rfl))) Via.refl e0 F_choice_a1 (g := (mkF m 1 #[.val (.ref a1)] [(.ref a1)])) rfl rfl (hb hby d_prog_1_method_19_code_1)
  refine Go.step st1 ?_
  show Go FrameEnd p e below s 0 0 (Q2n Z a1 h0) (T1.setTop (mkF m 4 #[.val (.ref a1)] [.null]))
  refine Go.step (fun _ k => XS.ifnullYes X1.here hx rfl (pc0 := 4) (pc' := 11) rfl (hb hby d_prog_1_method_19_code_4) rfl (by decide) (by decide) k) ?_
  show Go FrameEnd p e below s 0 0 (Q2n Z a1 h0) (T1.setTop (mkF m 11 #[.val (.ref a1)] []))
  refine Go.step (fun _ k => XS.iconst X1.here hx rfl (hb hby d_prog_1_method_19_code_11) k) ?_
  show Go FrameEnd p e below s 0 0 (Q2n Z a1 h0) (T1.setTop (mkF m 12 #[.val (.ref a1)] [(.int (0 : Int32))]))
  refine Go.retN X1 hx (t := .boolean) Bd.returns (by simp) (by decide) (hb hby d_prog_1_method_19_code_12) (BodyLoose.notSynchronized Bd) e1 (by decide) (by decide) ?_
  exact ⟨rfl, rfl, rfl⟩
def Q0 (Z : State) (p1 : Int32) (en0 : Addr) (en1 : Addr) (en2 : Addr) (en3 : Addr) (en4 : Addr) (en5 : Addr) (en6 : Addr) (en7 : Addr) (en8 : Addr) (en9 : Addr) (en10 : Addr) (en11 : Addr) (en12 : Addr) (en13 : Addr) (en14 : Addr) (en15 : Addr) (en16 : Addr) (en17 : Addr) (en18 : Addr) (en19 : Addr) (en20 : Addr) (en21 : Addr) (h0 : Heap) (n0 : Nat) (v : Option Value) (h : Heap) (L : List Loc) : Prop := v = some (.int 1) ∧ Fr n0 L
theorem ef_0 (m : MethodId) (p1 : Int32) : entryFrame m #[(.int p1)] maxLocals = mkF m 0 #[.val (.int p1), .unset, .unset, .unset] [] := by first | (simp [entryFrame, mkF, argsToLocals, Value.category, maxLocals]; done) | rfl
set_option maxRecDepth 65536 in
set_option maxHeartbeats 40000000 in
theorem rm0 (l : Launch) (Z : State) (a0 : Array Value) (hw : ∀ d ∈ tables_1, d.before a0 Z = true) (ws : List Jvm.Cond) (p1 : Int32) (en0 : Addr) (en1 : Addr) (en2 : Addr) (en3 : Addr) (en4 : Addr) (en5 : Addr) (en6 : Addr) (en7 : Addr) (en8 : Addr) (en9 : Addr) (en10 : Addr) (en11 : Addr) (en12 : Addr) (en13 : Addr) (en14 : Addr) (en15 : Addr) (en16 : Addr) (en17 : Addr) (en18 : Addr) (en19 : Addr) (en20 : Addr) (en21 : Addr) (h0 : Heap) (n0 : Nat) (Z0 : n0 ≤ h0.size) (hC : Cards Z h0 en0 en1 en2 en3 en4 en5 en6 en7 en8 en9 en10 en11 en12 en13 en14 en15 en16 en17 en18 en19 en20 en21) :
    MetFree l x (head1 (Jvm.Cond.code x code maxLocals ret :: ws) room_1) (fun a U => a = #[(.int p1)] ∧ Z.Warmed39 U.vm ∧ U.heap = h0) (fun _ _ _ _ _ => True) (fun _ U o U' => ∃ v L, o = .returned v ∧ (Q0 Z p1 en0 en1 en2 en3 en4 en5 en6 en7 en8 en9 en10 en11 en12 en13 en14 en15 en16 en17 en18 en19 en20 en21 h0 n0) v U'.heap L ∧ FrameEnd U o U' L 0 0) := by
  refine MetFree.of_bodySF (plainFor_of_name pn_deckmill_CardAsksChoicePinLaw) hisR ?_
  intro p e s m args below meth c s₁ Bd hml0 hP hK
  obtain ⟨rfl, hZ, hh⟩ := hP
  have hx := Bd.exec
  have hby := Bd.bytes
  have hml : c.maxLocals = 4 := hml0
  have hown : s.vm.findClass "deckmill/CardAsksChoicePinLaw" = some m.cls := findClass_of_methodNamed Bd.named
  have hnm := (name_of_methodNamed Bd.named Bd.method).1
  have X0 : Stand p l e room_1 s m #[(.int p1)] below meth c s₁ [] 0 0 := Stand.of_body Bd
  have e0 : s₁.heap = h0 := by rw [← hh, Bd.state]; rfl
  have N0 := Fr.nil n0
  show Go FrameEnd p e below s 0 0 (Q0 Z p1 en0 en1 en2 en3 en4 en5 en6 en7 en8 en9 en10 en11 en12 en13 en14 en15 en16 en17 en18 en19 en20 en21 h0 n0) _
  refine Go.step (fun _ k => castTop (ef_0 m p1) k) ?_
  show Go FrameEnd p e below s 0 0 (Q0 Z p1 en0 en1 en2 en3 en4 en5 en6 en7 en8 en9 en10 en11 en12 en13 en14 en15 en16 en17 en18 en19 en20 en21 h0 n0) (s₁.setTop (mkF m 0 #[.val (.int p1), .unset, .unset, .unset] []))
  refine Go.step (fun _ k => XS.iloadN X0.here hx rfl (hb hby at_0) rfl k) ?_
  show Go FrameEnd p e below s 0 0 (Q0 Z p1 en0 en1 en2 en3 en4 en5 en6 en7 en8 en9 en10 en11 en12 en13 en14 en15 en16 en17 en18 en19 en20 en21 h0 n0) (s₁.setTop (mkF m 1 #[.val (.int p1), .unset, .unset, .unset] [(.int p1)]))
  refine Go.step (X0.ldcInt hx hown (mvT hZ (hw _ (List.mem_of_getElem? (i := 0) rfl))) (g := (mkF m 1 #[.val (.int p1), .unset, .unset, .unset] [(.int p1)])) rfl (hb hby at_1)) ?_
  show Go FrameEnd p e below s 0 0 (Q0 Z p1 en0 en1 en2 en3 en4 en5 en6 en7 en8 en9 en10 en11 en12 en13 en14 en15 en16 en17 en18 en19 en20 en21 h0 n0) (s₁.setTop (mkF m 3 #[.val (.int p1), .unset, .unset, .unset] [(.int (2147483647 : Int32)), (.int p1)]))
  refine Go.step (fun _ k => XS.iand X0.here hx rfl (hb hby at_3) rfl k) ?_
  show Go FrameEnd p e below s 0 0 (Q0 Z p1 en0 en1 en2 en3 en4 en5 en6 en7 en8 en9 en10 en11 en12 en13 en14 en15 en16 en17 en18 en19 en20 en21 h0 n0) (s₁.setTop (mkF m 4 #[.val (.int p1), .unset, .unset, .unset] [(.int (p1 &&& (2147483647 : Int32)))]))
  refine Go.step (fun _ k => XS.bipush X0.here hx rfl (hb hby at_4) k) ?_
  show Go FrameEnd p e below s 0 0 (Q0 Z p1 en0 en1 en2 en3 en4 en5 en6 en7 en8 en9 en10 en11 en12 en13 en14 en15 en16 en17 en18 en19 en20 en21 h0 n0) (s₁.setTop (mkF m 6 #[.val (.int p1), .unset, .unset, .unset] [(.int (22 : Int32)), (.int (p1 &&& (2147483647 : Int32)))]))
  refine Go.step (fun _ k => iremM X0 hx rfl (hb hby at_6) rfl (by decide) k) ?_
  show Go FrameEnd p e below s 0 0 (Q0 Z p1 en0 en1 en2 en3 en4 en5 en6 en7 en8 en9 en10 en11 en12 en13 en14 en15 en16 en17 en18 en19 en20 en21 h0 n0) (s₁.setTop (mkF m 7 #[.val (.int p1), .unset, .unset, .unset] [(.int ((p1 &&& (2147483647 : Int32)) % (22 : Int32)))]))
  refine Go.step (fun _ k => XS.istoreN X0.here hx rfl (hb hby at_7) rfl (l' := #[.val (.int p1), .val (.int ((p1 &&& (2147483647 : Int32)) % (22 : Int32))), .unset, .unset]) rfl k) ?_
  show Go FrameEnd p e below s 0 0 (Q0 Z p1 en0 en1 en2 en3 en4 en5 en6 en7 en8 en9 en10 en11 en12 en13 en14 en15 en16 en17 en18 en19 en20 en21 h0 n0) (s₁.setTop (mkF m 8 #[.val (.int p1), .val (.int ((p1 &&& (2147483647 : Int32)) % (22 : Int32))), .unset, .unset] []))
  refine Go.step (fun _ k => XS.iloadN X0.here hx rfl (hb hby at_8) rfl k) ?_
  show Go FrameEnd p e below s 0 0 (Q0 Z p1 en0 en1 en2 en3 en4 en5 en6 en7 en8 en9 en10 en11 en12 en13 en14 en15 en16 en17 en18 en19 en20 en21 h0 n0) (s₁.setTop (mkF m 9 #[.val (.int p1), .val (.int ((p1 &&& (2147483647 : Int32)) % (22 : Int32))), .unset, .unset] [(.int ((p1 &&& (2147483647 : Int32)) % (22 : Int32)))]))
  obtain ⟨_, _, ⟨T1, L1, k1, n1⟩, -, X1, ⟨Lc1, hQ1, l1, y1, z1⟩, st1⟩ := Jvm.LawKit.callS X0 hx (y := (⟨"deckmill/CardAsksChoicePinLaw", "pick", "(I)Ldeckmill/Card;"⟩ : MethodName)) hown (mvT hZ (hw _ (List.mem_of_getElem? (i := 1) rfl))) (mvT hZ (hw _ (List.mem_of_getElem? (i := 2) rfl))) (mvT hZ (hw _ (List.mem_of_getElem? (i := 3) rfl))) (mvT hZ (hw _ (List.mem_of_getElem? (i := 4) rfl))) (by decide) (backOf (W := 0) (rm1 l Z a0 hw [] ((p1 &&& (2147483647 : Int32)) % (22 : Int32)) en0 en1 en2 en3 en4 en5 en6 en7 en8 en9 en10 en11 en12 en13 en14 en15 en16 en17 en18 en19 en20 en21 h0 hC) hZ (hw _ (List.mem_of_getElem? (i := 4) rfl)) (hw _ (List.mem_of_getElem? (i := 3) rfl)) (by decide) (by decide)) (g := (mkF m 9 #[.val (.int p1), .val (.int ((p1 &&& (2147483647 : Int32)) % (22 : Int32))), .unset, .unset] [(.int ((p1 &&& (2147483647 : Int32)) % (22 : Int32)))])) rfl (by rw [hml]; rfl) (argsL := [(.int ((p1 &&& (2147483647 : Int32)) % (22 : Int32)))]) (rest := []) (lenOf pd__I_Ldeckmill_Card_ rfl) rfl (by show 2 * 0 + _ ≤ _; exact Nat.le_of_eq rfl) (hb hby at_9) (fun _ _ => ⟨rfl, e0, (by decide : 0 + 0 ≤ _), (by decide : 0 + 0 ≤ _)⟩)
  dsimp only [Pt.U, Pt.locs, Pt.cells, Pt.slots] at X1 l1 y1 z1 st1 hQ1
  subst l1 y1 z1
  obtain ⟨rfl, rfl, e1⟩ := hQ1
  have N1 := Fr.app N0 (Fr.nil n0)
  refine Go.step st1 ?_
  show Go FrameEnd p e below s 0 0 (Q0 Z p1 en0 en1 en2 en3 en4 en5 en6 en7 en8 en9 en10 en11 en12 en13 en14 en15 en16 en17 en18 en19 en20 en21 h0 n0) (T1.setTop (mkF m 12 #[.val (.int p1), .val (.int ((p1 &&& (2147483647 : Int32)) % (22 : Int32))), .unset, .unset] [(.ref (pickA en0 en1 en2 en3 en4 en5 en6 en7 en8 en9 en10 en11 en12 en13 en14 en15 en16 en17 en18 en19 en20 en21 ((p1 &&& (2147483647 : Int32)) % (22 : Int32))))]))
  have hC' := hC
  rcases own_pick en0 en1 en2 en3 en4 en5 en6 en7 en8 en9 en10 en11 en12 en13 en14 en15 en16 en17 en18 en19 en20 en21 ((p1 &&& (2147483647 : Int32)) % (22 : Int32)) with q | q | q | q | q | q | q | q | q | q | q | q | q | q | q | q | q | q | q | q | q | q
  · skip
    rw [q]
    obtain ⟨⟨S0, E0, F0, C0⟩, ⟨S1, E1, F1, C1⟩, ⟨S2, E2, F2, C2⟩, ⟨S3, E3, F3, C3⟩, ⟨S4, E4, F4, C4⟩, ⟨S5, E5, F5, C5⟩, ⟨S6, E6, F6, C6⟩, ⟨S7, E7, F7, C7⟩, ⟨S8, E8, F8, C8⟩, ⟨S9, E9, F9, C9⟩, ⟨S10, E10, F10, C10⟩, ⟨S11, E11, F11, C11⟩, ⟨S12, E12, F12, C12⟩, ⟨S13, E13, F13, C13⟩, ⟨S14, E14, F14, C14⟩, ⟨S15, E15, F15, C15⟩, ⟨S16, E16, F16, C16⟩, ⟨S17, E17, F17, C17⟩, ⟨S18, E18, F18, C18⟩, ⟨S19, E19, F19, C19⟩, ⟨S20, E20, F20, C20⟩, ⟨S21, E21, F21, C21⟩⟩ := hC
    show Go FrameEnd p e below s 0 0 (Q0 Z p1 en0 en1 en2 en3 en4 en5 en6 en7 en8 en9 en10 en11 en12 en13 en14 en15 en16 en17 en18 en19 en20 en21 h0 n0) (T1.setTop (mkF m 12 #[.val (.int p1), .val (.int ((p1 &&& (2147483647 : Int32)) % (22 : Int32))), .unset, .unset] [(.ref en0)]))
    refine Go.step (fun _ k => XS.astoreN X1.here hx rfl (hb hby at_12) rfl rfl (l' := #[.val (.int p1), .val (.int ((p1 &&& (2147483647 : Int32)) % (22 : Int32))), .val (.ref en0), .unset]) rfl k) ?_
    show Go FrameEnd p e below s 0 0 (Q0 Z p1 en0 en1 en2 en3 en4 en5 en6 en7 en8 en9 en10 en11 en12 en13 en14 en15 en16 en17 en18 en19 en20 en21 h0 n0) (T1.setTop (mkF m 13 #[.val (.int p1), .val (.int ((p1 &&& (2147483647 : Int32)) % (22 : Int32))), .val (.ref en0), .unset] []))
    refine Go.step (fun _ k => XS.aloadN X1.here hx rfl (hb hby at_13) rfl rfl k) ?_
    show Go FrameEnd p e below s 0 0 (Q0 Z p1 en0 en1 en2 en3 en4 en5 en6 en7 en8 en9 en10 en11 en12 en13 en14 en15 en16 en17 en18 en19 en20 en21 h0 n0) (T1.setTop (mkF m 14 #[.val (.int p1), .val (.int ((p1 &&& (2147483647 : Int32)) % (22 : Int32))), .val (.ref en0), .unset] [(.ref en0)]))
    obtain ⟨T2, X2, e2, st2⟩ := getS2 X1 hx hZ hown (host := "") (Or.inl (hw _ (List.mem_of_getElem? (i := 8) rfl))) Via.refl e1 S13 (g := (mkF m 14 #[.val (.int p1), .val (.int ((p1 &&& (2147483647 : Int32)) % (22 : Int32))), .val (.ref en0), .unset] [(.ref en0)])) rfl (hb hby at_14)
    refine Go.step st2 ?_
    show Go FrameEnd p e below s 0 0 (Q0 Z p1 en0 en1 en2 en3 en4 en5 en6 en7 en8 en9 en10 en11 en12 en13 en14 en15 en16 en17 en18 en19 en20 en21 h0 n0) (T2.setTop (mkF m 17 #[.val (.int p1), .val (.int ((p1 &&& (2147483647 : Int32)) % (22 : Int32))), .val (.ref en0), .unset] [(.ref en13), (.ref en0)]))
    refine Go.step (fun _ k => Jvm.RoadKit.acmp (g := (mkF m 17 #[.val (.int p1), .val (.int ((p1 &&& (2147483647 : Int32)) % (22 : Int32))), .val (.ref en0), .unset] [(.ref en13), (.ref en0)])) X2 hx rfl rfl rfl (pc0 := 17) (pc' := 20) (same := false) rfl (hb hby at_17) rfl (decide_eq_false fun q => (Fld.ne F0 F13 (by decide)) (Value.ref.inj q)) (by decide) (by decide) k) ?_
    show Go FrameEnd p e below s 0 0 (Q0 Z p1 en0 en1 en2 en3 en4 en5 en6 en7 en8 en9 en10 en11 en12 en13 en14 en15 en16 en17 en18 en19 en20 en21 h0 n0) (T2.setTop (mkF m 20 #[.val (.int p1), .val (.int ((p1 &&& (2147483647 : Int32)) % (22 : Int32))), .val (.ref en0), .unset] []))
    refine Go.step (fun _ k => XS.aloadN X2.here hx rfl (hb hby at_20) rfl rfl k) ?_
    show Go FrameEnd p e below s 0 0 (Q0 Z p1 en0 en1 en2 en3 en4 en5 en6 en7 en8 en9 en10 en11 en12 en13 en14 en15 en16 en17 en18 en19 en20 en21 h0 n0) (T2.setTop (mkF m 21 #[.val (.int p1), .val (.int ((p1 &&& (2147483647 : Int32)) % (22 : Int32))), .val (.ref en0), .unset] [(.ref en0)]))
    obtain ⟨T3, X3, e3, st3⟩ := getS2 X2 hx hZ hown (host := "") (Or.inl (hw _ (List.mem_of_getElem? (i := 10) rfl))) Via.refl e2 S14 (g := (mkF m 21 #[.val (.int p1), .val (.int ((p1 &&& (2147483647 : Int32)) % (22 : Int32))), .val (.ref en0), .unset] [(.ref en0)])) rfl (hb hby at_21)
    refine Go.step st3 ?_
    show Go FrameEnd p e below s 0 0 (Q0 Z p1 en0 en1 en2 en3 en4 en5 en6 en7 en8 en9 en10 en11 en12 en13 en14 en15 en16 en17 en18 en19 en20 en21 h0 n0) (T3.setTop (mkF m 24 #[.val (.int p1), .val (.int ((p1 &&& (2147483647 : Int32)) % (22 : Int32))), .val (.ref en0), .unset] [(.ref en14), (.ref en0)]))
    refine Go.step (fun _ k => Jvm.RoadKit.acmp (g := (mkF m 24 #[.val (.int p1), .val (.int ((p1 &&& (2147483647 : Int32)) % (22 : Int32))), .val (.ref en0), .unset] [(.ref en14), (.ref en0)])) X3 hx rfl rfl rfl (pc0 := 24) (pc' := 27) (same := false) rfl (hb hby at_24) rfl (decide_eq_false fun q => (Fld.ne F0 F14 (by decide)) (Value.ref.inj q)) (by decide) (by decide) k) ?_
    show Go FrameEnd p e below s 0 0 (Q0 Z p1 en0 en1 en2 en3 en4 en5 en6 en7 en8 en9 en10 en11 en12 en13 en14 en15 en16 en17 en18 en19 en20 en21 h0 n0) (T3.setTop (mkF m 27 #[.val (.int p1), .val (.int ((p1 &&& (2147483647 : Int32)) % (22 : Int32))), .val (.ref en0), .unset] []))
    refine Go.step (fun _ k => XS.aloadN X3.here hx rfl (hb hby at_27) rfl rfl k) ?_
    show Go FrameEnd p e below s 0 0 (Q0 Z p1 en0 en1 en2 en3 en4 en5 en6 en7 en8 en9 en10 en11 en12 en13 en14 en15 en16 en17 en18 en19 en20 en21 h0 n0) (T3.setTop (mkF m 28 #[.val (.int p1), .val (.int ((p1 &&& (2147483647 : Int32)) % (22 : Int32))), .val (.ref en0), .unset] [(.ref en0)]))
    obtain ⟨T4, X4, e4, st4⟩ := getS2 X3 hx hZ hown (host := "") (Or.inl (hw _ (List.mem_of_getElem? (i := 12) rfl))) Via.refl e3 S15 (g := (mkF m 28 #[.val (.int p1), .val (.int ((p1 &&& (2147483647 : Int32)) % (22 : Int32))), .val (.ref en0), .unset] [(.ref en0)])) rfl (hb hby at_28)
    refine Go.step st4 ?_
    show Go FrameEnd p e below s 0 0 (Q0 Z p1 en0 en1 en2 en3 en4 en5 en6 en7 en8 en9 en10 en11 en12 en13 en14 en15 en16 en17 en18 en19 en20 en21 h0 n0) (T4.setTop (mkF m 31 #[.val (.int p1), .val (.int ((p1 &&& (2147483647 : Int32)) % (22 : Int32))), .val (.ref en0), .unset] [(.ref en15), (.ref en0)]))
    refine Go.step (fun _ k => Jvm.RoadKit.acmp (g := (mkF m 31 #[.val (.int p1), .val (.int ((p1 &&& (2147483647 : Int32)) % (22 : Int32))), .val (.ref en0), .unset] [(.ref en15), (.ref en0)])) X4 hx rfl rfl rfl (pc0 := 31) (pc' := 34) (same := false) rfl (hb hby at_31) rfl (decide_eq_false fun q => (Fld.ne F0 F15 (by decide)) (Value.ref.inj q)) (by decide) (by decide) k) ?_
    show Go FrameEnd p e below s 0 0 (Q0 Z p1 en0 en1 en2 en3 en4 en5 en6 en7 en8 en9 en10 en11 en12 en13 en14 en15 en16 en17 en18 en19 en20 en21 h0 n0) (T4.setTop (mkF m 34 #[.val (.int p1), .val (.int ((p1 &&& (2147483647 : Int32)) % (22 : Int32))), .val (.ref en0), .unset] []))
    refine Go.step (fun _ k => XS.aloadN X4.here hx rfl (hb hby at_34) rfl rfl k) ?_
    show Go FrameEnd p e below s 0 0 (Q0 Z p1 en0 en1 en2 en3 en4 en5 en6 en7 en8 en9 en10 en11 en12 en13 en14 en15 en16 en17 en18 en19 en20 en21 h0 n0) (T4.setTop (mkF m 35 #[.val (.int p1), .val (.int ((p1 &&& (2147483647 : Int32)) % (22 : Int32))), .val (.ref en0), .unset] [(.ref en0)]))
    obtain ⟨T5, X5, e5, st5⟩ := getS2 X4 hx hZ hown (host := "") (Or.inl (hw _ (List.mem_of_getElem? (i := 14) rfl))) Via.refl e4 S16 (g := (mkF m 35 #[.val (.int p1), .val (.int ((p1 &&& (2147483647 : Int32)) % (22 : Int32))), .val (.ref en0), .unset] [(.ref en0)])) rfl (hb hby at_35)
    refine Go.step st5 ?_
    show Go FrameEnd p e below s 0 0 (Q0 Z p1 en0 en1 en2 en3 en4 en5 en6 en7 en8 en9 en10 en11 en12 en13 en14 en15 en16 en17 en18 en19 en20 en21 h0 n0) (T5.setTop (mkF m 38 #[.val (.int p1), .val (.int ((p1 &&& (2147483647 : Int32)) % (22 : Int32))), .val (.ref en0), .unset] [(.ref en16), (.ref en0)]))
    refine Go.step (fun _ k => Jvm.RoadKit.acmp (g := (mkF m 38 #[.val (.int p1), .val (.int ((p1 &&& (2147483647 : Int32)) % (22 : Int32))), .val (.ref en0), .unset] [(.ref en16), (.ref en0)])) X5 hx rfl rfl rfl (pc0 := 38) (pc' := 41) (same := false) rfl (hb hby at_38) rfl (decide_eq_false fun q => (Fld.ne F0 F16 (by decide)) (Value.ref.inj q)) (by decide) (by decide) k) ?_
    show Go FrameEnd p e below s 0 0 (Q0 Z p1 en0 en1 en2 en3 en4 en5 en6 en7 en8 en9 en10 en11 en12 en13 en14 en15 en16 en17 en18 en19 en20 en21 h0 n0) (T5.setTop (mkF m 41 #[.val (.int p1), .val (.int ((p1 &&& (2147483647 : Int32)) % (22 : Int32))), .val (.ref en0), .unset] []))
    refine Go.step (fun _ k => XS.aloadN X5.here hx rfl (hb hby at_41) rfl rfl k) ?_
    show Go FrameEnd p e below s 0 0 (Q0 Z p1 en0 en1 en2 en3 en4 en5 en6 en7 en8 en9 en10 en11 en12 en13 en14 en15 en16 en17 en18 en19 en20 en21 h0 n0) (T5.setTop (mkF m 42 #[.val (.int p1), .val (.int ((p1 &&& (2147483647 : Int32)) % (22 : Int32))), .val (.ref en0), .unset] [(.ref en0)]))
    obtain ⟨T6, X6, e6, st6⟩ := getS2 X5 hx hZ hown (host := "") (Or.inl (hw _ (List.mem_of_getElem? (i := 16) rfl))) Via.refl e5 S17 (g := (mkF m 42 #[.val (.int p1), .val (.int ((p1 &&& (2147483647 : Int32)) % (22 : Int32))), .val (.ref en0), .unset] [(.ref en0)])) rfl (hb hby at_42)
    refine Go.step st6 ?_
    show Go FrameEnd p e below s 0 0 (Q0 Z p1 en0 en1 en2 en3 en4 en5 en6 en7 en8 en9 en10 en11 en12 en13 en14 en15 en16 en17 en18 en19 en20 en21 h0 n0) (T6.setTop (mkF m 45 #[.val (.int p1), .val (.int ((p1 &&& (2147483647 : Int32)) % (22 : Int32))), .val (.ref en0), .unset] [(.ref en17), (.ref en0)]))
    refine Go.step (fun _ k => Jvm.RoadKit.acmp (g := (mkF m 45 #[.val (.int p1), .val (.int ((p1 &&& (2147483647 : Int32)) % (22 : Int32))), .val (.ref en0), .unset] [(.ref en17), (.ref en0)])) X6 hx rfl rfl rfl (pc0 := 45) (pc' := 48) (same := false) rfl (hb hby at_45) rfl (decide_eq_false fun q => (Fld.ne F0 F17 (by decide)) (Value.ref.inj q)) (by decide) (by decide) k) ?_
    show Go FrameEnd p e below s 0 0 (Q0 Z p1 en0 en1 en2 en3 en4 en5 en6 en7 en8 en9 en10 en11 en12 en13 en14 en15 en16 en17 en18 en19 en20 en21 h0 n0) (T6.setTop (mkF m 48 #[.val (.int p1), .val (.int ((p1 &&& (2147483647 : Int32)) % (22 : Int32))), .val (.ref en0), .unset] []))
    refine Go.step (fun _ k => XS.aloadN X6.here hx rfl (hb hby at_48) rfl rfl k) ?_
    show Go FrameEnd p e below s 0 0 (Q0 Z p1 en0 en1 en2 en3 en4 en5 en6 en7 en8 en9 en10 en11 en12 en13 en14 en15 en16 en17 en18 en19 en20 en21 h0 n0) (T6.setTop (mkF m 49 #[.val (.int p1), .val (.int ((p1 &&& (2147483647 : Int32)) % (22 : Int32))), .val (.ref en0), .unset] [(.ref en0)]))
    obtain ⟨T7, X7, e7, st7⟩ := getS2 X6 hx hZ hown (host := "") (Or.inl (hw _ (List.mem_of_getElem? (i := 18) rfl))) Via.refl e6 S18 (g := (mkF m 49 #[.val (.int p1), .val (.int ((p1 &&& (2147483647 : Int32)) % (22 : Int32))), .val (.ref en0), .unset] [(.ref en0)])) rfl (hb hby at_49)
    refine Go.step st7 ?_
    show Go FrameEnd p e below s 0 0 (Q0 Z p1 en0 en1 en2 en3 en4 en5 en6 en7 en8 en9 en10 en11 en12 en13 en14 en15 en16 en17 en18 en19 en20 en21 h0 n0) (T7.setTop (mkF m 52 #[.val (.int p1), .val (.int ((p1 &&& (2147483647 : Int32)) % (22 : Int32))), .val (.ref en0), .unset] [(.ref en18), (.ref en0)]))
    refine Go.step (fun _ k => Jvm.RoadKit.acmp (g := (mkF m 52 #[.val (.int p1), .val (.int ((p1 &&& (2147483647 : Int32)) % (22 : Int32))), .val (.ref en0), .unset] [(.ref en18), (.ref en0)])) X7 hx rfl rfl rfl (pc0 := 52) (pc' := 59) (same := false) rfl (hb hby at_52) rfl (decide_eq_false fun q => (Fld.ne F0 F18 (by decide)) (Value.ref.inj q)) (by decide) (by decide) k) ?_
    show Go FrameEnd p e below s 0 0 (Q0 Z p1 en0 en1 en2 en3 en4 en5 en6 en7 en8 en9 en10 en11 en12 en13 en14 en15 en16 en17 en18 en19 en20 en21 h0 n0) (T7.setTop (mkF m 59 #[.val (.int p1), .val (.int ((p1 &&& (2147483647 : Int32)) % (22 : Int32))), .val (.ref en0), .unset] []))
    refine Go.step (fun _ k => XS.iconst X7.here hx rfl (hb hby at_59) k) ?_
    show Go FrameEnd p e below s 0 0 (Q0 Z p1 en0 en1 en2 en3 en4 en5 en6 en7 en8 en9 en10 en11 en12 en13 en14 en15 en16 en17 en18 en19 en20 en21 h0 n0) (T7.setTop (mkF m 60 #[.val (.int p1), .val (.int ((p1 &&& (2147483647 : Int32)) % (22 : Int32))), .val (.ref en0), .unset] [(.int (0 : Int32))]))
    refine Go.step (fun _ k => XS.istoreN X7.here hx rfl (hb hby at_60) rfl (l' := #[.val (.int p1), .val (.int ((p1 &&& (2147483647 : Int32)) % (22 : Int32))), .val (.ref en0), .val (.int (0 : Int32))]) rfl k) ?_
    show Go FrameEnd p e below s 0 0 (Q0 Z p1 en0 en1 en2 en3 en4 en5 en6 en7 en8 en9 en10 en11 en12 en13 en14 en15 en16 en17 en18 en19 en20 en21 h0 n0) (T7.setTop (mkF m 61 #[.val (.int p1), .val (.int ((p1 &&& (2147483647 : Int32)) % (22 : Int32))), .val (.ref en0), .val (.int (0 : Int32))] []))
    refine Go.step (fun _ k => XS.aloadN X7.here hx rfl (hb hby at_61) rfl rfl k) ?_
    show Go FrameEnd p e below s 0 0 (Q0 Z p1 en0 en1 en2 en3 en4 en5 en6 en7 en8 en9 en10 en11 en12 en13 en14 en15 en16 en17 en18 en19 en20 en21 h0 n0) (T7.setTop (mkF m 62 #[.val (.int p1), .val (.int ((p1 &&& (2147483647 : Int32)) % (22 : Int32))), .val (.ref en0), .val (.int (0 : Int32))] [(.ref en0)]))
    obtain ⟨cq8, kq8, q8a, q8b, q8c⟩ := isOf hZ e7 E0
    obtain ⟨_, _, ⟨T8, L8, k8, n8⟩, -, X8, ⟨Lc8, hQ8, l8, y8, z8⟩, st8⟩ := X7.virtualBack hx (y := (⟨"deckmill/Card", "asksChoice", "()Z"⟩ : MethodName)) (z := (⟨"deckmill/Card", "asksChoice", "()Z"⟩ : MethodName)) hown (mvT hZ (hw _ (List.mem_of_getElem? (i := 20) rfl))) (mvT hZ (hw _ (List.mem_of_getElem? (i := 21) rfl))) (notFace_of_selects (args := #[]) (mvT hZ (hw _ (List.mem_of_getElem? (i := 23) rfl)))) (mvT hZ (hw _ (List.mem_of_getElem? (i := 23) rfl))) (mvT hZ (hw _ (List.mem_of_getElem? (i := 22) rfl))) (by decide) (backOf (W := 0) (rm2n l Z a0 hw [] en0  h0 C0) hZ (hw _ (List.mem_of_getElem? (i := 24) rfl)) (hw _ (List.mem_of_getElem? (i := 6) rfl)) (by decide) (by decide)) q8a q8c (g := (mkF m 62 #[.val (.int p1), .val (.int ((p1 &&& (2147483647 : Int32)) % (22 : Int32))), .val (.ref en0), .val (.int (0 : Int32))] [(.ref en0)])) rfl (by rw [hml]; rfl) (Steps.refl _) (argsL := []) (rest := []) (lenOf pd___Z rfl) rfl (by show 2 * 0 + _ ≤ _; exact Nat.le_of_eq rfl) (hb hby at_62) (fun _ _ => ⟨rfl, e7, (by decide : 0 + 0 ≤ _), (by decide : 0 + 0 ≤ _)⟩)
    dsimp only [Pt.U, Pt.locs, Pt.cells, Pt.slots] at X8 l8 y8 z8 st8 hQ8
    subst l8 y8 z8
    obtain ⟨rfl, rfl, e8⟩ := hQ8
    have N8 := Fr.app N1 (Fr.nil n0)
    refine Go.hop st8 ?_
    show Go FrameEnd p e below s 0 0 (Q0 Z p1 en0 en1 en2 en3 en4 en5 en6 en7 en8 en9 en10 en11 en12 en13 en14 en15 en16 en17 en18 en19 en20 en21 h0 n0) (T8.setTop (mkF m 65 #[.val (.int p1), .val (.int ((p1 &&& (2147483647 : Int32)) % (22 : Int32))), .val (.ref en0), .val (.int (0 : Int32))] [(.int (0 : Int32))]))
    refine Go.step (fun _ k => XS.iloadN X8.here hx rfl (hb hby at_65) rfl k) ?_
    show Go FrameEnd p e below s 0 0 (Q0 Z p1 en0 en1 en2 en3 en4 en5 en6 en7 en8 en9 en10 en11 en12 en13 en14 en15 en16 en17 en18 en19 en20 en21 h0 n0) (T8.setTop (mkF m 66 #[.val (.int p1), .val (.int ((p1 &&& (2147483647 : Int32)) % (22 : Int32))), .val (.ref en0), .val (.int (0 : Int32))] [(.int (0 : Int32)), (.int (0 : Int32))]))
    refine Go.step (fun _ k => XS.icmpNo X8.here hx rfl (hb hby at_66) rfl (teq rfl).2 k) ?_
    show Go FrameEnd p e below s 0 0 (Q0 Z p1 en0 en1 en2 en3 en4 en5 en6 en7 en8 en9 en10 en11 en12 en13 en14 en15 en16 en17 en18 en19 en20 en21 h0 n0) (T8.setTop (mkF m 69 #[.val (.int p1), .val (.int ((p1 &&& (2147483647 : Int32)) % (22 : Int32))), .val (.ref en0), .val (.int (0 : Int32))] []))
    refine Go.step (fun _ k => XS.iconst X8.here hx rfl (hb hby at_69) k) ?_
    show Go FrameEnd p e below s 0 0 (Q0 Z p1 en0 en1 en2 en3 en4 en5 en6 en7 en8 en9 en10 en11 en12 en13 en14 en15 en16 en17 en18 en19 en20 en21 h0 n0) (T8.setTop (mkF m 70 #[.val (.int p1), .val (.int ((p1 &&& (2147483647 : Int32)) % (22 : Int32))), .val (.ref en0), .val (.int (0 : Int32))] [(.int (1 : Int32))]))
    refine Go.step (fun _ k => XS.goto X8.here hx rfl (pc0 := 70) (pc' := 74) rfl (hb hby at_70) (by decide) (by decide) k) ?_
    show Go FrameEnd p e below s 0 0 (Q0 Z p1 en0 en1 en2 en3 en4 en5 en6 en7 en8 en9 en10 en11 en12 en13 en14 en15 en16 en17 en18 en19 en20 en21 h0 n0) (T8.setTop (mkF m 74 #[.val (.int p1), .val (.int ((p1 &&& (2147483647 : Int32)) % (22 : Int32))), .val (.ref en0), .val (.int (0 : Int32))] [(.int (1 : Int32))]))
    refine Go.retN X8 hx (t := .boolean) Bd.returns (by simp) (by decide) (hb hby at_74) (BodyLoose.notSynchronized Bd) e8 (by decide) (by decide) ?_
    exact ⟨rfl, N8⟩
  · skip
    rw [q]
    obtain ⟨⟨S0, E0, F0, C0⟩, ⟨S1, E1, F1, C1⟩, ⟨S2, E2, F2, C2⟩, ⟨S3, E3, F3, C3⟩, ⟨S4, E4, F4, C4⟩, ⟨S5, E5, F5, C5⟩, ⟨S6, E6, F6, C6⟩, ⟨S7, E7, F7, C7⟩, ⟨S8, E8, F8, C8⟩, ⟨S9, E9, F9, C9⟩, ⟨S10, E10, F10, C10⟩, ⟨S11, E11, F11, C11⟩, ⟨S12, E12, F12, C12⟩, ⟨S13, E13, F13, C13⟩, ⟨S14, E14, F14, C14⟩, ⟨S15, E15, F15, C15⟩, ⟨S16, E16, F16, C16⟩, ⟨S17, E17, F17, C17⟩, ⟨S18, E18, F18, C18⟩, ⟨S19, E19, F19, C19⟩, ⟨S20, E20, F20, C20⟩, ⟨S21, E21, F21, C21⟩⟩ := hC
    show Go FrameEnd p e below s 0 0 (Q0 Z p1 en0 en1 en2 en3 en4 en5 en6 en7 en8 en9 en10 en11 en12 en13 en14 en15 en16 en17 en18 en19 en20 en21 h0 n0) (T1.setTop (mkF m 12 #[.val (.int p1), .val (.int ((p1 &&& (2147483647 : Int32)) % (22 : Int32))), .unset, .unset] [(.ref en1)]))
    refine Go.step (fun _ k => XS.astoreN X1.here hx rfl (hb hby at_12) rfl rfl (l' := #[.val (.int p1), .val (.int ((p1 &&& (2147483647 : Int32)) % (22 : Int32))), .val (.ref en1), .unset]) rfl k) ?_
    show Go FrameEnd p e below s 0 0 (Q0 Z p1 en0 en1 en2 en3 en4 en5 en6 en7 en8 en9 en10 en11 en12 en13 en14 en15 en16 en17 en18 en19 en20 en21 h0 n0) (T1.setTop (mkF m 13 #[.val (.int p1), .val (.int ((p1 &&& (2147483647 : Int32)) % (22 : Int32))), .val (.ref en1), .unset] []))
    refine Go.step (fun _ k => XS.aloadN X1.here hx rfl (hb hby at_13) rfl rfl k) ?_
    show Go FrameEnd p e below s 0 0 (Q0 Z p1 en0 en1 en2 en3 en4 en5 en6 en7 en8 en9 en10 en11 en12 en13 en14 en15 en16 en17 en18 en19 en20 en21 h0 n0) (T1.setTop (mkF m 14 #[.val (.int p1), .val (.int ((p1 &&& (2147483647 : Int32)) % (22 : Int32))), .val (.ref en1), .unset] [(.ref en1)]))
    obtain ⟨T9, X9, e9, st9⟩ := getS2 X1 hx hZ hown (host := "") (Or.inl (hw _ (List.mem_of_getElem? (i := 8) rfl))) Via.refl e1 S13 (g := (mkF m 14 #[.val (.int p1), .val (.int ((p1 &&& (2147483647 : Int32)) % (22 : Int32))), .val (.ref en1), .unset] [(.ref en1)])) rfl (hb hby at_14)
    refine Go.step st9 ?_
    show Go FrameEnd p e below s 0 0 (Q0 Z p1 en0 en1 en2 en3 en4 en5 en6 en7 en8 en9 en10 en11 en12 en13 en14 en15 en16 en17 en18 en19 en20 en21 h0 n0) (T9.setTop (mkF m 17 #[.val (.int p1), .val (.int ((p1 &&& (2147483647 : Int32)) % (22 : Int32))), .val (.ref en1), .unset] [(.ref en13), (.ref en1)]))
    refine Go.step (fun _ k => Jvm.RoadKit.acmp (g := (mkF m 17 #[.val (.int p1), .val (.int ((p1 &&& (2147483647 : Int32)) % (22 : Int32))), .val (.ref en1), .unset] [(.ref en13), (.ref en1)])) X9 hx rfl rfl rfl (pc0 := 17) (pc' := 20) (same := false) rfl (hb hby at_17) rfl (decide_eq_false fun q => (Fld.ne F1 F13 (by decide)) (Value.ref.inj q)) (by decide) (by decide) k) ?_
    show Go FrameEnd p e below s 0 0 (Q0 Z p1 en0 en1 en2 en3 en4 en5 en6 en7 en8 en9 en10 en11 en12 en13 en14 en15 en16 en17 en18 en19 en20 en21 h0 n0) (T9.setTop (mkF m 20 #[.val (.int p1), .val (.int ((p1 &&& (2147483647 : Int32)) % (22 : Int32))), .val (.ref en1), .unset] []))
    refine Go.step (fun _ k => XS.aloadN X9.here hx rfl (hb hby at_20) rfl rfl k) ?_
    show Go FrameEnd p e below s 0 0 (Q0 Z p1 en0 en1 en2 en3 en4 en5 en6 en7 en8 en9 en10 en11 en12 en13 en14 en15 en16 en17 en18 en19 en20 en21 h0 n0) (T9.setTop (mkF m 21 #[.val (.int p1), .val (.int ((p1 &&& (2147483647 : Int32)) % (22 : Int32))), .val (.ref en1), .unset] [(.ref en1)]))
    obtain ⟨T10, X10, e10, st10⟩ := getS2 X9 hx hZ hown (host := "") (Or.inl (hw _ (List.mem_of_getElem? (i := 10) rfl))) Via.refl e9 S14 (g := (mkF m 21 #[.val (.int p1), .val (.int ((p1 &&& (2147483647 : Int32)) % (22 : Int32))), .val (.ref en1), .unset] [(.ref en1)])) rfl (hb hby at_21)
    refine Go.step st10 ?_
    show Go FrameEnd p e below s 0 0 (Q0 Z p1 en0 en1 en2 en3 en4 en5 en6 en7 en8 en9 en10 en11 en12 en13 en14 en15 en16 en17 en18 en19 en20 en21 h0 n0) (T10.setTop (mkF m 24 #[.val (.int p1), .val (.int ((p1 &&& (2147483647 : Int32)) % (22 : Int32))), .val (.ref en1), .unset] [(.ref en14), (.ref en1)]))
    refine Go.step (fun _ k => Jvm.RoadKit.acmp (g := (mkF m 24 #[.val (.int p1), .val (.int ((p1 &&& (2147483647 : Int32)) % (22 : Int32))), .val (.ref en1), .unset] [(.ref en14), (.ref en1)])) X10 hx rfl rfl rfl (pc0 := 24) (pc' := 27) (same := false) rfl (hb hby at_24) rfl (decide_eq_false fun q => (Fld.ne F1 F14 (by decide)) (Value.ref.inj q)) (by decide) (by decide) k) ?_
    show Go FrameEnd p e below s 0 0 (Q0 Z p1 en0 en1 en2 en3 en4 en5 en6 en7 en8 en9 en10 en11 en12 en13 en14 en15 en16 en17 en18 en19 en20 en21 h0 n0) (T10.setTop (mkF m 27 #[.val (.int p1), .val (.int ((p1 &&& (2147483647 : Int32)) % (22 : Int32))), .val (.ref en1), .unset] []))
    refine Go.step (fun _ k => XS.aloadN X10.here hx rfl (hb hby at_27) rfl rfl k) ?_
    show Go FrameEnd p e below s 0 0 (Q0 Z p1 en0 en1 en2 en3 en4 en5 en6 en7 en8 en9 en10 en11 en12 en13 en14 en15 en16 en17 en18 en19 en20 en21 h0 n0) (T10.setTop (mkF m 28 #[.val (.int p1), .val (.int ((p1 &&& (2147483647 : Int32)) % (22 : Int32))), .val (.ref en1), .unset] [(.ref en1)]))
    obtain ⟨T11, X11, e11, st11⟩ := getS2 X10 hx hZ hown (host := "") (Or.inl (hw _ (List.mem_of_getElem? (i := 12) rfl))) Via.refl e10 S15 (g := (mkF m 28 #[.val (.int p1), .val (.int ((p1 &&& (2147483647 : Int32)) % (22 : Int32))), .val (.ref en1), .unset] [(.ref en1)])) rfl (hb hby at_28)
    refine Go.step st11 ?_
    show Go FrameEnd p e below s 0 0 (Q0 Z p1 en0 en1 en2 en3 en4 en5 en6 en7 en8 en9 en10 en11 en12 en13 en14 en15 en16 en17 en18 en19 en20 en21 h0 n0) (T11.setTop (mkF m 31 #[.val (.int p1), .val (.int ((p1 &&& (2147483647 : Int32)) % (22 : Int32))), .val (.ref en1), .unset] [(.ref en15), (.ref en1)]))
    refine Go.step (fun _ k => Jvm.RoadKit.acmp (g := (mkF m 31 #[.val (.int p1), .val (.int ((p1 &&& (2147483647 : Int32)) % (22 : Int32))), .val (.ref en1), .unset] [(.ref en15), (.ref en1)])) X11 hx rfl rfl rfl (pc0 := 31) (pc' := 34) (same := false) rfl (hb hby at_31) rfl (decide_eq_false fun q => (Fld.ne F1 F15 (by decide)) (Value.ref.inj q)) (by decide) (by decide) k) ?_
    show Go FrameEnd p e below s 0 0 (Q0 Z p1 en0 en1 en2 en3 en4 en5 en6 en7 en8 en9 en10 en11 en12 en13 en14 en15 en16 en17 en18 en19 en20 en21 h0 n0) (T11.setTop (mkF m 34 #[.val (.int p1), .val (.int ((p1 &&& (2147483647 : Int32)) % (22 : Int32))), .val (.ref en1), .unset] []))
    refine Go.step (fun _ k => XS.aloadN X11.here hx rfl (hb hby at_34) rfl rfl k) ?_
    show Go FrameEnd p e below s 0 0 (Q0 Z p1 en0 en1 en2 en3 en4 en5 en6 en7 en8 en9 en10 en11 en12 en13 en14 en15 en16 en17 en18 en19 en20 en21 h0 n0) (T11.setTop (mkF m 35 #[.val (.int p1), .val (.int ((p1 &&& (2147483647 : Int32)) % (22 : Int32))), .val (.ref en1), .unset] [(.ref en1)]))
    obtain ⟨T12, X12, e12, st12⟩ := getS2 X11 hx hZ hown (host := "") (Or.inl (hw _ (List.mem_of_getElem? (i := 14) rfl))) Via.refl e11 S16 (g := (mkF m 35 #[.val (.int p1), .val (.int ((p1 &&& (2147483647 : Int32)) % (22 : Int32))), .val (.ref en1), .unset] [(.ref en1)])) rfl (hb hby at_35)
    refine Go.step st12 ?_
    show Go FrameEnd p e below s 0 0 (Q0 Z p1 en0 en1 en2 en3 en4 en5 en6 en7 en8 en9 en10 en11 en12 en13 en14 en15 en16 en17 en18 en19 en20 en21 h0 n0) (T12.setTop (mkF m 38 #[.val (.int p1), .val (.int ((p1 &&& (2147483647 : Int32)) % (22 : Int32))), .val (.ref en1), .unset] [(.ref en16), (.ref en1)]))
    refine Go.step (fun _ k => Jvm.RoadKit.acmp (g := (mkF m 38 #[.val (.int p1), .val (.int ((p1 &&& (2147483647 : Int32)) % (22 : Int32))), .val (.ref en1), .unset] [(.ref en16), (.ref en1)])) X12 hx rfl rfl rfl (pc0 := 38) (pc' := 41) (same := false) rfl (hb hby at_38) rfl (decide_eq_false fun q => (Fld.ne F1 F16 (by decide)) (Value.ref.inj q)) (by decide) (by decide) k) ?_
    show Go FrameEnd p e below s 0 0 (Q0 Z p1 en0 en1 en2 en3 en4 en5 en6 en7 en8 en9 en10 en11 en12 en13 en14 en15 en16 en17 en18 en19 en20 en21 h0 n0) (T12.setTop (mkF m 41 #[.val (.int p1), .val (.int ((p1 &&& (2147483647 : Int32)) % (22 : Int32))), .val (.ref en1), .unset] []))
    refine Go.step (fun _ k => XS.aloadN X12.here hx rfl (hb hby at_41) rfl rfl k) ?_
    show Go FrameEnd p e below s 0 0 (Q0 Z p1 en0 en1 en2 en3 en4 en5 en6 en7 en8 en9 en10 en11 en12 en13 en14 en15 en16 en17 en18 en19 en20 en21 h0 n0) (T12.setTop (mkF m 42 #[.val (.int p1), .val (.int ((p1 &&& (2147483647 : Int32)) % (22 : Int32))), .val (.ref en1), .unset] [(.ref en1)]))
    obtain ⟨T13, X13, e13, st13⟩ := getS2 X12 hx hZ hown (host := "") (Or.inl (hw _ (List.mem_of_getElem? (i := 16) rfl))) Via.refl e12 S17 (g := (mkF m 42 #[.val (.int p1), .val (.int ((p1 &&& (2147483647 : Int32)) % (22 : Int32))), .val (.ref en1), .unset] [(.ref en1)])) rfl (hb hby at_42)
    refine Go.step st13 ?_
    show Go FrameEnd p e below s 0 0 (Q0 Z p1 en0 en1 en2 en3 en4 en5 en6 en7 en8 en9 en10 en11 en12 en13 en14 en15 en16 en17 en18 en19 en20 en21 h0 n0) (T13.setTop (mkF m 45 #[.val (.int p1), .val (.int ((p1 &&& (2147483647 : Int32)) % (22 : Int32))), .val (.ref en1), .unset] [(.ref en17), (.ref en1)]))
    refine Go.step (fun _ k => Jvm.RoadKit.acmp (g := (mkF m 45 #[.val (.int p1), .val (.int ((p1 &&& (2147483647 : Int32)) % (22 : Int32))), .val (.ref en1), .unset] [(.ref en17), (.ref en1)])) X13 hx rfl rfl rfl (pc0 := 45) (pc' := 48) (same := false) rfl (hb hby at_45) rfl (decide_eq_false fun q => (Fld.ne F1 F17 (by decide)) (Value.ref.inj q)) (by decide) (by decide) k) ?_
    show Go FrameEnd p e below s 0 0 (Q0 Z p1 en0 en1 en2 en3 en4 en5 en6 en7 en8 en9 en10 en11 en12 en13 en14 en15 en16 en17 en18 en19 en20 en21 h0 n0) (T13.setTop (mkF m 48 #[.val (.int p1), .val (.int ((p1 &&& (2147483647 : Int32)) % (22 : Int32))), .val (.ref en1), .unset] []))
    refine Go.step (fun _ k => XS.aloadN X13.here hx rfl (hb hby at_48) rfl rfl k) ?_
    show Go FrameEnd p e below s 0 0 (Q0 Z p1 en0 en1 en2 en3 en4 en5 en6 en7 en8 en9 en10 en11 en12 en13 en14 en15 en16 en17 en18 en19 en20 en21 h0 n0) (T13.setTop (mkF m 49 #[.val (.int p1), .val (.int ((p1 &&& (2147483647 : Int32)) % (22 : Int32))), .val (.ref en1), .unset] [(.ref en1)]))
    obtain ⟨T14, X14, e14, st14⟩ := getS2 X13 hx hZ hown (host := "") (Or.inl (hw _ (List.mem_of_getElem? (i := 18) rfl))) Via.refl e13 S18 (g := (mkF m 49 #[.val (.int p1), .val (.int ((p1 &&& (2147483647 : Int32)) % (22 : Int32))), .val (.ref en1), .unset] [(.ref en1)])) rfl (hb hby at_49)
    refine Go.step st14 ?_
    show Go FrameEnd p e below s 0 0 (Q0 Z p1 en0 en1 en2 en3 en4 en5 en6 en7 en8 en9 en10 en11 en12 en13 en14 en15 en16 en17 en18 en19 en20 en21 h0 n0) (T14.setTop (mkF m 52 #[.val (.int p1), .val (.int ((p1 &&& (2147483647 : Int32)) % (22 : Int32))), .val (.ref en1), .unset] [(.ref en18), (.ref en1)]))
    refine Go.step (fun _ k => Jvm.RoadKit.acmp (g := (mkF m 52 #[.val (.int p1), .val (.int ((p1 &&& (2147483647 : Int32)) % (22 : Int32))), .val (.ref en1), .unset] [(.ref en18), (.ref en1)])) X14 hx rfl rfl rfl (pc0 := 52) (pc' := 59) (same := false) rfl (hb hby at_52) rfl (decide_eq_false fun q => (Fld.ne F1 F18 (by decide)) (Value.ref.inj q)) (by decide) (by decide) k) ?_
    show Go FrameEnd p e below s 0 0 (Q0 Z p1 en0 en1 en2 en3 en4 en5 en6 en7 en8 en9 en10 en11 en12 en13 en14 en15 en16 en17 en18 en19 en20 en21 h0 n0) (T14.setTop (mkF m 59 #[.val (.int p1), .val (.int ((p1 &&& (2147483647 : Int32)) % (22 : Int32))), .val (.ref en1), .unset] []))
    refine Go.step (fun _ k => XS.iconst X14.here hx rfl (hb hby at_59) k) ?_
    show Go FrameEnd p e below s 0 0 (Q0 Z p1 en0 en1 en2 en3 en4 en5 en6 en7 en8 en9 en10 en11 en12 en13 en14 en15 en16 en17 en18 en19 en20 en21 h0 n0) (T14.setTop (mkF m 60 #[.val (.int p1), .val (.int ((p1 &&& (2147483647 : Int32)) % (22 : Int32))), .val (.ref en1), .unset] [(.int (0 : Int32))]))
    refine Go.step (fun _ k => XS.istoreN X14.here hx rfl (hb hby at_60) rfl (l' := #[.val (.int p1), .val (.int ((p1 &&& (2147483647 : Int32)) % (22 : Int32))), .val (.ref en1), .val (.int (0 : Int32))]) rfl k) ?_
    show Go FrameEnd p e below s 0 0 (Q0 Z p1 en0 en1 en2 en3 en4 en5 en6 en7 en8 en9 en10 en11 en12 en13 en14 en15 en16 en17 en18 en19 en20 en21 h0 n0) (T14.setTop (mkF m 61 #[.val (.int p1), .val (.int ((p1 &&& (2147483647 : Int32)) % (22 : Int32))), .val (.ref en1), .val (.int (0 : Int32))] []))
    refine Go.step (fun _ k => XS.aloadN X14.here hx rfl (hb hby at_61) rfl rfl k) ?_
    show Go FrameEnd p e below s 0 0 (Q0 Z p1 en0 en1 en2 en3 en4 en5 en6 en7 en8 en9 en10 en11 en12 en13 en14 en15 en16 en17 en18 en19 en20 en21 h0 n0) (T14.setTop (mkF m 62 #[.val (.int p1), .val (.int ((p1 &&& (2147483647 : Int32)) % (22 : Int32))), .val (.ref en1), .val (.int (0 : Int32))] [(.ref en1)]))
    obtain ⟨cq15, kq15, q15a, q15b, q15c⟩ := isOf hZ e14 E1
    obtain ⟨_, _, ⟨T15, L15, k15, n15⟩, -, X15, ⟨Lc15, hQ15, l15, y15, z15⟩, st15⟩ := X14.virtualBack hx (y := (⟨"deckmill/Card", "asksChoice", "()Z"⟩ : MethodName)) (z := (⟨"deckmill/Card", "asksChoice", "()Z"⟩ : MethodName)) hown (mvT hZ (hw _ (List.mem_of_getElem? (i := 20) rfl))) (mvT hZ (hw _ (List.mem_of_getElem? (i := 21) rfl))) (notFace_of_selects (args := #[]) (mvT hZ (hw _ (List.mem_of_getElem? (i := 23) rfl)))) (mvT hZ (hw _ (List.mem_of_getElem? (i := 23) rfl))) (mvT hZ (hw _ (List.mem_of_getElem? (i := 22) rfl))) (by decide) (backOf (W := 0) (rm2n l Z a0 hw [] en1  h0 C1) hZ (hw _ (List.mem_of_getElem? (i := 24) rfl)) (hw _ (List.mem_of_getElem? (i := 6) rfl)) (by decide) (by decide)) q15a q15c (g := (mkF m 62 #[.val (.int p1), .val (.int ((p1 &&& (2147483647 : Int32)) % (22 : Int32))), .val (.ref en1), .val (.int (0 : Int32))] [(.ref en1)])) rfl (by rw [hml]; rfl) (Steps.refl _) (argsL := []) (rest := []) (lenOf pd___Z rfl) rfl (by show 2 * 0 + _ ≤ _; exact Nat.le_of_eq rfl) (hb hby at_62) (fun _ _ => ⟨rfl, e14, (by decide : 0 + 0 ≤ _), (by decide : 0 + 0 ≤ _)⟩)
    dsimp only [Pt.U, Pt.locs, Pt.cells, Pt.slots] at X15 l15 y15 z15 st15 hQ15
    subst l15 y15 z15
    obtain ⟨rfl, rfl, e15⟩ := hQ15
    have N15 := Fr.app N1 (Fr.nil n0)
    refine Go.hop st15 ?_
    show Go FrameEnd p e below s 0 0 (Q0 Z p1 en0 en1 en2 en3 en4 en5 en6 en7 en8 en9 en10 en11 en12 en13 en14 en15 en16 en17 en18 en19 en20 en21 h0 n0) (T15.setTop (mkF m 65 #[.val (.int p1), .val (.int ((p1 &&& (2147483647 : Int32)) % (22 : Int32))), .val (.ref en1), .val (.int (0 : Int32))] [(.int (0 : Int32))]))
    refine Go.step (fun _ k => XS.iloadN X15.here hx rfl (hb hby at_65) rfl k) ?_
    show Go FrameEnd p e below s 0 0 (Q0 Z p1 en0 en1 en2 en3 en4 en5 en6 en7 en8 en9 en10 en11 en12 en13 en14 en15 en16 en17 en18 en19 en20 en21 h0 n0) (T15.setTop (mkF m 66 #[.val (.int p1), .val (.int ((p1 &&& (2147483647 : Int32)) % (22 : Int32))), .val (.ref en1), .val (.int (0 : Int32))] [(.int (0 : Int32)), (.int (0 : Int32))]))
    refine Go.step (fun _ k => XS.icmpNo X15.here hx rfl (hb hby at_66) rfl (teq rfl).2 k) ?_
    show Go FrameEnd p e below s 0 0 (Q0 Z p1 en0 en1 en2 en3 en4 en5 en6 en7 en8 en9 en10 en11 en12 en13 en14 en15 en16 en17 en18 en19 en20 en21 h0 n0) (T15.setTop (mkF m 69 #[.val (.int p1), .val (.int ((p1 &&& (2147483647 : Int32)) % (22 : Int32))), .val (.ref en1), .val (.int (0 : Int32))] []))
    refine Go.step (fun _ k => XS.iconst X15.here hx rfl (hb hby at_69) k) ?_
    show Go FrameEnd p e below s 0 0 (Q0 Z p1 en0 en1 en2 en3 en4 en5 en6 en7 en8 en9 en10 en11 en12 en13 en14 en15 en16 en17 en18 en19 en20 en21 h0 n0) (T15.setTop (mkF m 70 #[.val (.int p1), .val (.int ((p1 &&& (2147483647 : Int32)) % (22 : Int32))), .val (.ref en1), .val (.int (0 : Int32))] [(.int (1 : Int32))]))
    refine Go.step (fun _ k => XS.goto X15.here hx rfl (pc0 := 70) (pc' := 74) rfl (hb hby at_70) (by decide) (by decide) k) ?_
    show Go FrameEnd p e below s 0 0 (Q0 Z p1 en0 en1 en2 en3 en4 en5 en6 en7 en8 en9 en10 en11 en12 en13 en14 en15 en16 en17 en18 en19 en20 en21 h0 n0) (T15.setTop (mkF m 74 #[.val (.int p1), .val (.int ((p1 &&& (2147483647 : Int32)) % (22 : Int32))), .val (.ref en1), .val (.int (0 : Int32))] [(.int (1 : Int32))]))
    refine Go.retN X15 hx (t := .boolean) Bd.returns (by simp) (by decide) (hb hby at_74) (BodyLoose.notSynchronized Bd) e15 (by decide) (by decide) ?_
    exact ⟨rfl, N15⟩
  · skip
    rw [q]
    obtain ⟨⟨S0, E0, F0, C0⟩, ⟨S1, E1, F1, C1⟩, ⟨S2, E2, F2, C2⟩, ⟨S3, E3, F3, C3⟩, ⟨S4, E4, F4, C4⟩, ⟨S5, E5, F5, C5⟩, ⟨S6, E6, F6, C6⟩, ⟨S7, E7, F7, C7⟩, ⟨S8, E8, F8, C8⟩, ⟨S9, E9, F9, C9⟩, ⟨S10, E10, F10, C10⟩, ⟨S11, E11, F11, C11⟩, ⟨S12, E12, F12, C12⟩, ⟨S13, E13, F13, C13⟩, ⟨S14, E14, F14, C14⟩, ⟨S15, E15, F15, C15⟩, ⟨S16, E16, F16, C16⟩, ⟨S17, E17, F17, C17⟩, ⟨S18, E18, F18, C18⟩, ⟨S19, E19, F19, C19⟩, ⟨S20, E20, F20, C20⟩, ⟨S21, E21, F21, C21⟩⟩ := hC
    show Go FrameEnd p e below s 0 0 (Q0 Z p1 en0 en1 en2 en3 en4 en5 en6 en7 en8 en9 en10 en11 en12 en13 en14 en15 en16 en17 en18 en19 en20 en21 h0 n0) (T1.setTop (mkF m 12 #[.val (.int p1), .val (.int ((p1 &&& (2147483647 : Int32)) % (22 : Int32))), .unset, .unset] [(.ref en2)]))
    refine Go.step (fun _ k => XS.astoreN X1.here hx rfl (hb hby at_12) rfl rfl (l' := #[.val (.int p1), .val (.int ((p1 &&& (2147483647 : Int32)) % (22 : Int32))), .val (.ref en2), .unset]) rfl k) ?_
    show Go FrameEnd p e below s 0 0 (Q0 Z p1 en0 en1 en2 en3 en4 en5 en6 en7 en8 en9 en10 en11 en12 en13 en14 en15 en16 en17 en18 en19 en20 en21 h0 n0) (T1.setTop (mkF m 13 #[.val (.int p1), .val (.int ((p1 &&& (2147483647 : Int32)) % (22 : Int32))), .val (.ref en2), .unset] []))
    refine Go.step (fun _ k => XS.aloadN X1.here hx rfl (hb hby at_13) rfl rfl k) ?_
    show Go FrameEnd p e below s 0 0 (Q0 Z p1 en0 en1 en2 en3 en4 en5 en6 en7 en8 en9 en10 en11 en12 en13 en14 en15 en16 en17 en18 en19 en20 en21 h0 n0) (T1.setTop (mkF m 14 #[.val (.int p1), .val (.int ((p1 &&& (2147483647 : Int32)) % (22 : Int32))), .val (.ref en2), .unset] [(.ref en2)]))
    obtain ⟨T16, X16, e16, st16⟩ := getS2 X1 hx hZ hown (host := "") (Or.inl (hw _ (List.mem_of_getElem? (i := 8) rfl))) Via.refl e1 S13 (g := (mkF m 14 #[.val (.int p1), .val (.int ((p1 &&& (2147483647 : Int32)) % (22 : Int32))), .val (.ref en2), .unset] [(.ref en2)])) rfl (hb hby at_14)
    refine Go.step st16 ?_
    show Go FrameEnd p e below s 0 0 (Q0 Z p1 en0 en1 en2 en3 en4 en5 en6 en7 en8 en9 en10 en11 en12 en13 en14 en15 en16 en17 en18 en19 en20 en21 h0 n0) (T16.setTop (mkF m 17 #[.val (.int p1), .val (.int ((p1 &&& (2147483647 : Int32)) % (22 : Int32))), .val (.ref en2), .unset] [(.ref en13), (.ref en2)]))
    refine Go.step (fun _ k => Jvm.RoadKit.acmp (g := (mkF m 17 #[.val (.int p1), .val (.int ((p1 &&& (2147483647 : Int32)) % (22 : Int32))), .val (.ref en2), .unset] [(.ref en13), (.ref en2)])) X16 hx rfl rfl rfl (pc0 := 17) (pc' := 20) (same := false) rfl (hb hby at_17) rfl (decide_eq_false fun q => (Fld.ne F2 F13 (by decide)) (Value.ref.inj q)) (by decide) (by decide) k) ?_
    show Go FrameEnd p e below s 0 0 (Q0 Z p1 en0 en1 en2 en3 en4 en5 en6 en7 en8 en9 en10 en11 en12 en13 en14 en15 en16 en17 en18 en19 en20 en21 h0 n0) (T16.setTop (mkF m 20 #[.val (.int p1), .val (.int ((p1 &&& (2147483647 : Int32)) % (22 : Int32))), .val (.ref en2), .unset] []))
    refine Go.step (fun _ k => XS.aloadN X16.here hx rfl (hb hby at_20) rfl rfl k) ?_
    show Go FrameEnd p e below s 0 0 (Q0 Z p1 en0 en1 en2 en3 en4 en5 en6 en7 en8 en9 en10 en11 en12 en13 en14 en15 en16 en17 en18 en19 en20 en21 h0 n0) (T16.setTop (mkF m 21 #[.val (.int p1), .val (.int ((p1 &&& (2147483647 : Int32)) % (22 : Int32))), .val (.ref en2), .unset] [(.ref en2)]))
    obtain ⟨T17, X17, e17, st17⟩ := getS2 X16 hx hZ hown (host := "") (Or.inl (hw _ (List.mem_of_getElem? (i := 10) rfl))) Via.refl e16 S14 (g := (mkF m 21 #[.val (.int p1), .val (.int ((p1 &&& (2147483647 : Int32)) % (22 : Int32))), .val (.ref en2), .unset] [(.ref en2)])) rfl (hb hby at_21)
    refine Go.step st17 ?_
    show Go FrameEnd p e below s 0 0 (Q0 Z p1 en0 en1 en2 en3 en4 en5 en6 en7 en8 en9 en10 en11 en12 en13 en14 en15 en16 en17 en18 en19 en20 en21 h0 n0) (T17.setTop (mkF m 24 #[.val (.int p1), .val (.int ((p1 &&& (2147483647 : Int32)) % (22 : Int32))), .val (.ref en2), .unset] [(.ref en14), (.ref en2)]))
    refine Go.step (fun _ k => Jvm.RoadKit.acmp (g := (mkF m 24 #[.val (.int p1), .val (.int ((p1 &&& (2147483647 : Int32)) % (22 : Int32))), .val (.ref en2), .unset] [(.ref en14), (.ref en2)])) X17 hx rfl rfl rfl (pc0 := 24) (pc' := 27) (same := false) rfl (hb hby at_24) rfl (decide_eq_false fun q => (Fld.ne F2 F14 (by decide)) (Value.ref.inj q)) (by decide) (by decide) k) ?_
    show Go FrameEnd p e below s 0 0 (Q0 Z p1 en0 en1 en2 en3 en4 en5 en6 en7 en8 en9 en10 en11 en12 en13 en14 en15 en16 en17 en18 en19 en20 en21 h0 n0) (T17.setTop (mkF m 27 #[.val (.int p1), .val (.int ((p1 &&& (2147483647 : Int32)) % (22 : Int32))), .val (.ref en2), .unset] []))
    refine Go.step (fun _ k => XS.aloadN X17.here hx rfl (hb hby at_27) rfl rfl k) ?_
    show Go FrameEnd p e below s 0 0 (Q0 Z p1 en0 en1 en2 en3 en4 en5 en6 en7 en8 en9 en10 en11 en12 en13 en14 en15 en16 en17 en18 en19 en20 en21 h0 n0) (T17.setTop (mkF m 28 #[.val (.int p1), .val (.int ((p1 &&& (2147483647 : Int32)) % (22 : Int32))), .val (.ref en2), .unset] [(.ref en2)]))
    obtain ⟨T18, X18, e18, st18⟩ := getS2 X17 hx hZ hown (host := "") (Or.inl (hw _ (List.mem_of_getElem? (i := 12) rfl))) Via.refl e17 S15 (g := (mkF m 28 #[.val (.int p1), .val (.int ((p1 &&& (2147483647 : Int32)) % (22 : Int32))), .val (.ref en2), .unset] [(.ref en2)])) rfl (hb hby at_28)
    refine Go.step st18 ?_
    show Go FrameEnd p e below s 0 0 (Q0 Z p1 en0 en1 en2 en3 en4 en5 en6 en7 en8 en9 en10 en11 en12 en13 en14 en15 en16 en17 en18 en19 en20 en21 h0 n0) (T18.setTop (mkF m 31 #[.val (.int p1), .val (.int ((p1 &&& (2147483647 : Int32)) % (22 : Int32))), .val (.ref en2), .unset] [(.ref en15), (.ref en2)]))
    refine Go.step (fun _ k => Jvm.RoadKit.acmp (g := (mkF m 31 #[.val (.int p1), .val (.int ((p1 &&& (2147483647 : Int32)) % (22 : Int32))), .val (.ref en2), .unset] [(.ref en15), (.ref en2)])) X18 hx rfl rfl rfl (pc0 := 31) (pc' := 34) (same := false) rfl (hb hby at_31) rfl (decide_eq_false fun q => (Fld.ne F2 F15 (by decide)) (Value.ref.inj q)) (by decide) (by decide) k) ?_
    show Go FrameEnd p e below s 0 0 (Q0 Z p1 en0 en1 en2 en3 en4 en5 en6 en7 en8 en9 en10 en11 en12 en13 en14 en15 en16 en17 en18 en19 en20 en21 h0 n0) (T18.setTop (mkF m 34 #[.val (.int p1), .val (.int ((p1 &&& (2147483647 : Int32)) % (22 : Int32))), .val (.ref en2), .unset] []))
    refine Go.step (fun _ k => XS.aloadN X18.here hx rfl (hb hby at_34) rfl rfl k) ?_
    show Go FrameEnd p e below s 0 0 (Q0 Z p1 en0 en1 en2 en3 en4 en5 en6 en7 en8 en9 en10 en11 en12 en13 en14 en15 en16 en17 en18 en19 en20 en21 h0 n0) (T18.setTop (mkF m 35 #[.val (.int p1), .val (.int ((p1 &&& (2147483647 : Int32)) % (22 : Int32))), .val (.ref en2), .unset] [(.ref en2)]))
    obtain ⟨T19, X19, e19, st19⟩ := getS2 X18 hx hZ hown (host := "") (Or.inl (hw _ (List.mem_of_getElem? (i := 14) rfl))) Via.refl e18 S16 (g := (mkF m 35 #[.val (.int p1), .val (.int ((p1 &&& (2147483647 : Int32)) % (22 : Int32))), .val (.ref en2), .unset] [(.ref en2)])) rfl (hb hby at_35)
    refine Go.step st19 ?_
    show Go FrameEnd p e below s 0 0 (Q0 Z p1 en0 en1 en2 en3 en4 en5 en6 en7 en8 en9 en10 en11 en12 en13 en14 en15 en16 en17 en18 en19 en20 en21 h0 n0) (T19.setTop (mkF m 38 #[.val (.int p1), .val (.int ((p1 &&& (2147483647 : Int32)) % (22 : Int32))), .val (.ref en2), .unset] [(.ref en16), (.ref en2)]))
    refine Go.step (fun _ k => Jvm.RoadKit.acmp (g := (mkF m 38 #[.val (.int p1), .val (.int ((p1 &&& (2147483647 : Int32)) % (22 : Int32))), .val (.ref en2), .unset] [(.ref en16), (.ref en2)])) X19 hx rfl rfl rfl (pc0 := 38) (pc' := 41) (same := false) rfl (hb hby at_38) rfl (decide_eq_false fun q => (Fld.ne F2 F16 (by decide)) (Value.ref.inj q)) (by decide) (by decide) k) ?_
    show Go FrameEnd p e below s 0 0 (Q0 Z p1 en0 en1 en2 en3 en4 en5 en6 en7 en8 en9 en10 en11 en12 en13 en14 en15 en16 en17 en18 en19 en20 en21 h0 n0) (T19.setTop (mkF m 41 #[.val (.int p1), .val (.int ((p1 &&& (2147483647 : Int32)) % (22 : Int32))), .val (.ref en2), .unset] []))
    refine Go.step (fun _ k => XS.aloadN X19.here hx rfl (hb hby at_41) rfl rfl k) ?_
    show Go FrameEnd p e below s 0 0 (Q0 Z p1 en0 en1 en2 en3 en4 en5 en6 en7 en8 en9 en10 en11 en12 en13 en14 en15 en16 en17 en18 en19 en20 en21 h0 n0) (T19.setTop (mkF m 42 #[.val (.int p1), .val (.int ((p1 &&& (2147483647 : Int32)) % (22 : Int32))), .val (.ref en2), .unset] [(.ref en2)]))
    obtain ⟨T20, X20, e20, st20⟩ := getS2 X19 hx hZ hown (host := "") (Or.inl (hw _ (List.mem_of_getElem? (i := 16) rfl))) Via.refl e19 S17 (g := (mkF m 42 #[.val (.int p1), .val (.int ((p1 &&& (2147483647 : Int32)) % (22 : Int32))), .val (.ref en2), .unset] [(.ref en2)])) rfl (hb hby at_42)
    refine Go.step st20 ?_
    show Go FrameEnd p e below s 0 0 (Q0 Z p1 en0 en1 en2 en3 en4 en5 en6 en7 en8 en9 en10 en11 en12 en13 en14 en15 en16 en17 en18 en19 en20 en21 h0 n0) (T20.setTop (mkF m 45 #[.val (.int p1), .val (.int ((p1 &&& (2147483647 : Int32)) % (22 : Int32))), .val (.ref en2), .unset] [(.ref en17), (.ref en2)]))
    refine Go.step (fun _ k => Jvm.RoadKit.acmp (g := (mkF m 45 #[.val (.int p1), .val (.int ((p1 &&& (2147483647 : Int32)) % (22 : Int32))), .val (.ref en2), .unset] [(.ref en17), (.ref en2)])) X20 hx rfl rfl rfl (pc0 := 45) (pc' := 48) (same := false) rfl (hb hby at_45) rfl (decide_eq_false fun q => (Fld.ne F2 F17 (by decide)) (Value.ref.inj q)) (by decide) (by decide) k) ?_
    show Go FrameEnd p e below s 0 0 (Q0 Z p1 en0 en1 en2 en3 en4 en5 en6 en7 en8 en9 en10 en11 en12 en13 en14 en15 en16 en17 en18 en19 en20 en21 h0 n0) (T20.setTop (mkF m 48 #[.val (.int p1), .val (.int ((p1 &&& (2147483647 : Int32)) % (22 : Int32))), .val (.ref en2), .unset] []))
    refine Go.step (fun _ k => XS.aloadN X20.here hx rfl (hb hby at_48) rfl rfl k) ?_
    show Go FrameEnd p e below s 0 0 (Q0 Z p1 en0 en1 en2 en3 en4 en5 en6 en7 en8 en9 en10 en11 en12 en13 en14 en15 en16 en17 en18 en19 en20 en21 h0 n0) (T20.setTop (mkF m 49 #[.val (.int p1), .val (.int ((p1 &&& (2147483647 : Int32)) % (22 : Int32))), .val (.ref en2), .unset] [(.ref en2)]))
    obtain ⟨T21, X21, e21, st21⟩ := getS2 X20 hx hZ hown (host := "") (Or.inl (hw _ (List.mem_of_getElem? (i := 18) rfl))) Via.refl e20 S18 (g := (mkF m 49 #[.val (.int p1), .val (.int ((p1 &&& (2147483647 : Int32)) % (22 : Int32))), .val (.ref en2), .unset] [(.ref en2)])) rfl (hb hby at_49)
    refine Go.step st21 ?_
    show Go FrameEnd p e below s 0 0 (Q0 Z p1 en0 en1 en2 en3 en4 en5 en6 en7 en8 en9 en10 en11 en12 en13 en14 en15 en16 en17 en18 en19 en20 en21 h0 n0) (T21.setTop (mkF m 52 #[.val (.int p1), .val (.int ((p1 &&& (2147483647 : Int32)) % (22 : Int32))), .val (.ref en2), .unset] [(.ref en18), (.ref en2)]))
    refine Go.step (fun _ k => Jvm.RoadKit.acmp (g := (mkF m 52 #[.val (.int p1), .val (.int ((p1 &&& (2147483647 : Int32)) % (22 : Int32))), .val (.ref en2), .unset] [(.ref en18), (.ref en2)])) X21 hx rfl rfl rfl (pc0 := 52) (pc' := 59) (same := false) rfl (hb hby at_52) rfl (decide_eq_false fun q => (Fld.ne F2 F18 (by decide)) (Value.ref.inj q)) (by decide) (by decide) k) ?_
    show Go FrameEnd p e below s 0 0 (Q0 Z p1 en0 en1 en2 en3 en4 en5 en6 en7 en8 en9 en10 en11 en12 en13 en14 en15 en16 en17 en18 en19 en20 en21 h0 n0) (T21.setTop (mkF m 59 #[.val (.int p1), .val (.int ((p1 &&& (2147483647 : Int32)) % (22 : Int32))), .val (.ref en2), .unset] []))
    refine Go.step (fun _ k => XS.iconst X21.here hx rfl (hb hby at_59) k) ?_
    show Go FrameEnd p e below s 0 0 (Q0 Z p1 en0 en1 en2 en3 en4 en5 en6 en7 en8 en9 en10 en11 en12 en13 en14 en15 en16 en17 en18 en19 en20 en21 h0 n0) (T21.setTop (mkF m 60 #[.val (.int p1), .val (.int ((p1 &&& (2147483647 : Int32)) % (22 : Int32))), .val (.ref en2), .unset] [(.int (0 : Int32))]))
    refine Go.step (fun _ k => XS.istoreN X21.here hx rfl (hb hby at_60) rfl (l' := #[.val (.int p1), .val (.int ((p1 &&& (2147483647 : Int32)) % (22 : Int32))), .val (.ref en2), .val (.int (0 : Int32))]) rfl k) ?_
    show Go FrameEnd p e below s 0 0 (Q0 Z p1 en0 en1 en2 en3 en4 en5 en6 en7 en8 en9 en10 en11 en12 en13 en14 en15 en16 en17 en18 en19 en20 en21 h0 n0) (T21.setTop (mkF m 61 #[.val (.int p1), .val (.int ((p1 &&& (2147483647 : Int32)) % (22 : Int32))), .val (.ref en2), .val (.int (0 : Int32))] []))
    refine Go.step (fun _ k => XS.aloadN X21.here hx rfl (hb hby at_61) rfl rfl k) ?_
    show Go FrameEnd p e below s 0 0 (Q0 Z p1 en0 en1 en2 en3 en4 en5 en6 en7 en8 en9 en10 en11 en12 en13 en14 en15 en16 en17 en18 en19 en20 en21 h0 n0) (T21.setTop (mkF m 62 #[.val (.int p1), .val (.int ((p1 &&& (2147483647 : Int32)) % (22 : Int32))), .val (.ref en2), .val (.int (0 : Int32))] [(.ref en2)]))
    obtain ⟨cq22, kq22, q22a, q22b, q22c⟩ := isOf hZ e21 E2
    obtain ⟨_, _, ⟨T22, L22, k22, n22⟩, -, X22, ⟨Lc22, hQ22, l22, y22, z22⟩, st22⟩ := X21.virtualBack hx (y := (⟨"deckmill/Card", "asksChoice", "()Z"⟩ : MethodName)) (z := (⟨"deckmill/Card", "asksChoice", "()Z"⟩ : MethodName)) hown (mvT hZ (hw _ (List.mem_of_getElem? (i := 20) rfl))) (mvT hZ (hw _ (List.mem_of_getElem? (i := 21) rfl))) (notFace_of_selects (args := #[]) (mvT hZ (hw _ (List.mem_of_getElem? (i := 23) rfl)))) (mvT hZ (hw _ (List.mem_of_getElem? (i := 23) rfl))) (mvT hZ (hw _ (List.mem_of_getElem? (i := 22) rfl))) (by decide) (backOf (W := 0) (rm2n l Z a0 hw [] en2  h0 C2) hZ (hw _ (List.mem_of_getElem? (i := 24) rfl)) (hw _ (List.mem_of_getElem? (i := 6) rfl)) (by decide) (by decide)) q22a q22c (g := (mkF m 62 #[.val (.int p1), .val (.int ((p1 &&& (2147483647 : Int32)) % (22 : Int32))), .val (.ref en2), .val (.int (0 : Int32))] [(.ref en2)])) rfl (by rw [hml]; rfl) (Steps.refl _) (argsL := []) (rest := []) (lenOf pd___Z rfl) rfl (by show 2 * 0 + _ ≤ _; exact Nat.le_of_eq rfl) (hb hby at_62) (fun _ _ => ⟨rfl, e21, (by decide : 0 + 0 ≤ _), (by decide : 0 + 0 ≤ _)⟩)
    dsimp only [Pt.U, Pt.locs, Pt.cells, Pt.slots] at X22 l22 y22 z22 st22 hQ22
    subst l22 y22 z22
    obtain ⟨rfl, rfl, e22⟩ := hQ22
    have N22 := Fr.app N1 (Fr.nil n0)
    refine Go.hop st22 ?_
    show Go FrameEnd p e below s 0 0 (Q0 Z p1 en0 en1 en2 en3 en4 en5 en6 en7 en8 en9 en10 en11 en12 en13 en14 en15 en16 en17 en18 en19 en20 en21 h0 n0) (T22.setTop (mkF m 65 #[.val (.int p1), .val (.int ((p1 &&& (2147483647 : Int32)) % (22 : Int32))), .val (.ref en2), .val (.int (0 : Int32))] [(.int (0 : Int32))]))
    refine Go.step (fun _ k => XS.iloadN X22.here hx rfl (hb hby at_65) rfl k) ?_
    show Go FrameEnd p e below s 0 0 (Q0 Z p1 en0 en1 en2 en3 en4 en5 en6 en7 en8 en9 en10 en11 en12 en13 en14 en15 en16 en17 en18 en19 en20 en21 h0 n0) (T22.setTop (mkF m 66 #[.val (.int p1), .val (.int ((p1 &&& (2147483647 : Int32)) % (22 : Int32))), .val (.ref en2), .val (.int (0 : Int32))] [(.int (0 : Int32)), (.int (0 : Int32))]))
    refine Go.step (fun _ k => XS.icmpNo X22.here hx rfl (hb hby at_66) rfl (teq rfl).2 k) ?_
    show Go FrameEnd p e below s 0 0 (Q0 Z p1 en0 en1 en2 en3 en4 en5 en6 en7 en8 en9 en10 en11 en12 en13 en14 en15 en16 en17 en18 en19 en20 en21 h0 n0) (T22.setTop (mkF m 69 #[.val (.int p1), .val (.int ((p1 &&& (2147483647 : Int32)) % (22 : Int32))), .val (.ref en2), .val (.int (0 : Int32))] []))
    refine Go.step (fun _ k => XS.iconst X22.here hx rfl (hb hby at_69) k) ?_
    show Go FrameEnd p e below s 0 0 (Q0 Z p1 en0 en1 en2 en3 en4 en5 en6 en7 en8 en9 en10 en11 en12 en13 en14 en15 en16 en17 en18 en19 en20 en21 h0 n0) (T22.setTop (mkF m 70 #[.val (.int p1), .val (.int ((p1 &&& (2147483647 : Int32)) % (22 : Int32))), .val (.ref en2), .val (.int (0 : Int32))] [(.int (1 : Int32))]))
    refine Go.step (fun _ k => XS.goto X22.here hx rfl (pc0 := 70) (pc' := 74) rfl (hb hby at_70) (by decide) (by decide) k) ?_
    show Go FrameEnd p e below s 0 0 (Q0 Z p1 en0 en1 en2 en3 en4 en5 en6 en7 en8 en9 en10 en11 en12 en13 en14 en15 en16 en17 en18 en19 en20 en21 h0 n0) (T22.setTop (mkF m 74 #[.val (.int p1), .val (.int ((p1 &&& (2147483647 : Int32)) % (22 : Int32))), .val (.ref en2), .val (.int (0 : Int32))] [(.int (1 : Int32))]))
    refine Go.retN X22 hx (t := .boolean) Bd.returns (by simp) (by decide) (hb hby at_74) (BodyLoose.notSynchronized Bd) e22 (by decide) (by decide) ?_
    exact ⟨rfl, N22⟩
  · skip
    rw [q]
    obtain ⟨⟨S0, E0, F0, C0⟩, ⟨S1, E1, F1, C1⟩, ⟨S2, E2, F2, C2⟩, ⟨S3, E3, F3, C3⟩, ⟨S4, E4, F4, C4⟩, ⟨S5, E5, F5, C5⟩, ⟨S6, E6, F6, C6⟩, ⟨S7, E7, F7, C7⟩, ⟨S8, E8, F8, C8⟩, ⟨S9, E9, F9, C9⟩, ⟨S10, E10, F10, C10⟩, ⟨S11, E11, F11, C11⟩, ⟨S12, E12, F12, C12⟩, ⟨S13, E13, F13, C13⟩, ⟨S14, E14, F14, C14⟩, ⟨S15, E15, F15, C15⟩, ⟨S16, E16, F16, C16⟩, ⟨S17, E17, F17, C17⟩, ⟨S18, E18, F18, C18⟩, ⟨S19, E19, F19, C19⟩, ⟨S20, E20, F20, C20⟩, ⟨S21, E21, F21, C21⟩⟩ := hC
    show Go FrameEnd p e below s 0 0 (Q0 Z p1 en0 en1 en2 en3 en4 en5 en6 en7 en8 en9 en10 en11 en12 en13 en14 en15 en16 en17 en18 en19 en20 en21 h0 n0) (T1.setTop (mkF m 12 #[.val (.int p1), .val (.int ((p1 &&& (2147483647 : Int32)) % (22 : Int32))), .unset, .unset] [(.ref en3)]))
    refine Go.step (fun _ k => XS.astoreN X1.here hx rfl (hb hby at_12) rfl rfl (l' := #[.val (.int p1), .val (.int ((p1 &&& (2147483647 : Int32)) % (22 : Int32))), .val (.ref en3), .unset]) rfl k) ?_
    show Go FrameEnd p e below s 0 0 (Q0 Z p1 en0 en1 en2 en3 en4 en5 en6 en7 en8 en9 en10 en11 en12 en13 en14 en15 en16 en17 en18 en19 en20 en21 h0 n0) (T1.setTop (mkF m 13 #[.val (.int p1), .val (.int ((p1 &&& (2147483647 : Int32)) % (22 : Int32))), .val (.ref en3), .unset] []))
    refine Go.step (fun _ k => XS.aloadN X1.here hx rfl (hb hby at_13) rfl rfl k) ?_
    show Go FrameEnd p e below s 0 0 (Q0 Z p1 en0 en1 en2 en3 en4 en5 en6 en7 en8 en9 en10 en11 en12 en13 en14 en15 en16 en17 en18 en19 en20 en21 h0 n0) (T1.setTop (mkF m 14 #[.val (.int p1), .val (.int ((p1 &&& (2147483647 : Int32)) % (22 : Int32))), .val (.ref en3), .unset] [(.ref en3)]))
    obtain ⟨T23, X23, e23, st23⟩ := getS2 X1 hx hZ hown (host := "") (Or.inl (hw _ (List.mem_of_getElem? (i := 8) rfl))) Via.refl e1 S13 (g := (mkF m 14 #[.val (.int p1), .val (.int ((p1 &&& (2147483647 : Int32)) % (22 : Int32))), .val (.ref en3), .unset] [(.ref en3)])) rfl (hb hby at_14)
    refine Go.step st23 ?_
    show Go FrameEnd p e below s 0 0 (Q0 Z p1 en0 en1 en2 en3 en4 en5 en6 en7 en8 en9 en10 en11 en12 en13 en14 en15 en16 en17 en18 en19 en20 en21 h0 n0) (T23.setTop (mkF m 17 #[.val (.int p1), .val (.int ((p1 &&& (2147483647 : Int32)) % (22 : Int32))), .val (.ref en3), .unset] [(.ref en13), (.ref en3)]))
    refine Go.step (fun _ k => Jvm.RoadKit.acmp (g := (mkF m 17 #[.val (.int p1), .val (.int ((p1 &&& (2147483647 : Int32)) % (22 : Int32))), .val (.ref en3), .unset] [(.ref en13), (.ref en3)])) X23 hx rfl rfl rfl (pc0 := 17) (pc' := 20) (same := false) rfl (hb hby at_17) rfl (decide_eq_false fun q => (Fld.ne F3 F13 (by decide)) (Value.ref.inj q)) (by decide) (by decide) k) ?_
    show Go FrameEnd p e below s 0 0 (Q0 Z p1 en0 en1 en2 en3 en4 en5 en6 en7 en8 en9 en10 en11 en12 en13 en14 en15 en16 en17 en18 en19 en20 en21 h0 n0) (T23.setTop (mkF m 20 #[.val (.int p1), .val (.int ((p1 &&& (2147483647 : Int32)) % (22 : Int32))), .val (.ref en3), .unset] []))
    refine Go.step (fun _ k => XS.aloadN X23.here hx rfl (hb hby at_20) rfl rfl k) ?_
    show Go FrameEnd p e below s 0 0 (Q0 Z p1 en0 en1 en2 en3 en4 en5 en6 en7 en8 en9 en10 en11 en12 en13 en14 en15 en16 en17 en18 en19 en20 en21 h0 n0) (T23.setTop (mkF m 21 #[.val (.int p1), .val (.int ((p1 &&& (2147483647 : Int32)) % (22 : Int32))), .val (.ref en3), .unset] [(.ref en3)]))
    obtain ⟨T24, X24, e24, st24⟩ := getS2 X23 hx hZ hown (host := "") (Or.inl (hw _ (List.mem_of_getElem? (i := 10) rfl))) Via.refl e23 S14 (g := (mkF m 21 #[.val (.int p1), .val (.int ((p1 &&& (2147483647 : Int32)) % (22 : Int32))), .val (.ref en3), .unset] [(.ref en3)])) rfl (hb hby at_21)
    refine Go.step st24 ?_
    show Go FrameEnd p e below s 0 0 (Q0 Z p1 en0 en1 en2 en3 en4 en5 en6 en7 en8 en9 en10 en11 en12 en13 en14 en15 en16 en17 en18 en19 en20 en21 h0 n0) (T24.setTop (mkF m 24 #[.val (.int p1), .val (.int ((p1 &&& (2147483647 : Int32)) % (22 : Int32))), .val (.ref en3), .unset] [(.ref en14), (.ref en3)]))
    refine Go.step (fun _ k => Jvm.RoadKit.acmp (g := (mkF m 24 #[.val (.int p1), .val (.int ((p1 &&& (2147483647 : Int32)) % (22 : Int32))), .val (.ref en3), .unset] [(.ref en14), (.ref en3)])) X24 hx rfl rfl rfl (pc0 := 24) (pc' := 27) (same := false) rfl (hb hby at_24) rfl (decide_eq_false fun q => (Fld.ne F3 F14 (by decide)) (Value.ref.inj q)) (by decide) (by decide) k) ?_
    show Go FrameEnd p e below s 0 0 (Q0 Z p1 en0 en1 en2 en3 en4 en5 en6 en7 en8 en9 en10 en11 en12 en13 en14 en15 en16 en17 en18 en19 en20 en21 h0 n0) (T24.setTop (mkF m 27 #[.val (.int p1), .val (.int ((p1 &&& (2147483647 : Int32)) % (22 : Int32))), .val (.ref en3), .unset] []))
    refine Go.step (fun _ k => XS.aloadN X24.here hx rfl (hb hby at_27) rfl rfl k) ?_
    show Go FrameEnd p e below s 0 0 (Q0 Z p1 en0 en1 en2 en3 en4 en5 en6 en7 en8 en9 en10 en11 en12 en13 en14 en15 en16 en17 en18 en19 en20 en21 h0 n0) (T24.setTop (mkF m 28 #[.val (.int p1), .val (.int ((p1 &&& (2147483647 : Int32)) % (22 : Int32))), .val (.ref en3), .unset] [(.ref en3)]))
    obtain ⟨T25, X25, e25, st25⟩ := getS2 X24 hx hZ hown (host := "") (Or.inl (hw _ (List.mem_of_getElem? (i := 12) rfl))) Via.refl e24 S15 (g := (mkF m 28 #[.val (.int p1), .val (.int ((p1 &&& (2147483647 : Int32)) % (22 : Int32))), .val (.ref en3), .unset] [(.ref en3)])) rfl (hb hby at_28)
    refine Go.step st25 ?_
    show Go FrameEnd p e below s 0 0 (Q0 Z p1 en0 en1 en2 en3 en4 en5 en6 en7 en8 en9 en10 en11 en12 en13 en14 en15 en16 en17 en18 en19 en20 en21 h0 n0) (T25.setTop (mkF m 31 #[.val (.int p1), .val (.int ((p1 &&& (2147483647 : Int32)) % (22 : Int32))), .val (.ref en3), .unset] [(.ref en15), (.ref en3)]))
    refine Go.step (fun _ k => Jvm.RoadKit.acmp (g := (mkF m 31 #[.val (.int p1), .val (.int ((p1 &&& (2147483647 : Int32)) % (22 : Int32))), .val (.ref en3), .unset] [(.ref en15), (.ref en3)])) X25 hx rfl rfl rfl (pc0 := 31) (pc' := 34) (same := false) rfl (hb hby at_31) rfl (decide_eq_false fun q => (Fld.ne F3 F15 (by decide)) (Value.ref.inj q)) (by decide) (by decide) k) ?_
    show Go FrameEnd p e below s 0 0 (Q0 Z p1 en0 en1 en2 en3 en4 en5 en6 en7 en8 en9 en10 en11 en12 en13 en14 en15 en16 en17 en18 en19 en20 en21 h0 n0) (T25.setTop (mkF m 34 #[.val (.int p1), .val (.int ((p1 &&& (2147483647 : Int32)) % (22 : Int32))), .val (.ref en3), .unset] []))
    refine Go.step (fun _ k => XS.aloadN X25.here hx rfl (hb hby at_34) rfl rfl k) ?_
    show Go FrameEnd p e below s 0 0 (Q0 Z p1 en0 en1 en2 en3 en4 en5 en6 en7 en8 en9 en10 en11 en12 en13 en14 en15 en16 en17 en18 en19 en20 en21 h0 n0) (T25.setTop (mkF m 35 #[.val (.int p1), .val (.int ((p1 &&& (2147483647 : Int32)) % (22 : Int32))), .val (.ref en3), .unset] [(.ref en3)]))
    obtain ⟨T26, X26, e26, st26⟩ := getS2 X25 hx hZ hown (host := "") (Or.inl (hw _ (List.mem_of_getElem? (i := 14) rfl))) Via.refl e25 S16 (g := (mkF m 35 #[.val (.int p1), .val (.int ((p1 &&& (2147483647 : Int32)) % (22 : Int32))), .val (.ref en3), .unset] [(.ref en3)])) rfl (hb hby at_35)
    refine Go.step st26 ?_
    show Go FrameEnd p e below s 0 0 (Q0 Z p1 en0 en1 en2 en3 en4 en5 en6 en7 en8 en9 en10 en11 en12 en13 en14 en15 en16 en17 en18 en19 en20 en21 h0 n0) (T26.setTop (mkF m 38 #[.val (.int p1), .val (.int ((p1 &&& (2147483647 : Int32)) % (22 : Int32))), .val (.ref en3), .unset] [(.ref en16), (.ref en3)]))
    refine Go.step (fun _ k => Jvm.RoadKit.acmp (g := (mkF m 38 #[.val (.int p1), .val (.int ((p1 &&& (2147483647 : Int32)) % (22 : Int32))), .val (.ref en3), .unset] [(.ref en16), (.ref en3)])) X26 hx rfl rfl rfl (pc0 := 38) (pc' := 41) (same := false) rfl (hb hby at_38) rfl (decide_eq_false fun q => (Fld.ne F3 F16 (by decide)) (Value.ref.inj q)) (by decide) (by decide) k) ?_
    show Go FrameEnd p e below s 0 0 (Q0 Z p1 en0 en1 en2 en3 en4 en5 en6 en7 en8 en9 en10 en11 en12 en13 en14 en15 en16 en17 en18 en19 en20 en21 h0 n0) (T26.setTop (mkF m 41 #[.val (.int p1), .val (.int ((p1 &&& (2147483647 : Int32)) % (22 : Int32))), .val (.ref en3), .unset] []))
    refine Go.step (fun _ k => XS.aloadN X26.here hx rfl (hb hby at_41) rfl rfl k) ?_
    show Go FrameEnd p e below s 0 0 (Q0 Z p1 en0 en1 en2 en3 en4 en5 en6 en7 en8 en9 en10 en11 en12 en13 en14 en15 en16 en17 en18 en19 en20 en21 h0 n0) (T26.setTop (mkF m 42 #[.val (.int p1), .val (.int ((p1 &&& (2147483647 : Int32)) % (22 : Int32))), .val (.ref en3), .unset] [(.ref en3)]))
    obtain ⟨T27, X27, e27, st27⟩ := getS2 X26 hx hZ hown (host := "") (Or.inl (hw _ (List.mem_of_getElem? (i := 16) rfl))) Via.refl e26 S17 (g := (mkF m 42 #[.val (.int p1), .val (.int ((p1 &&& (2147483647 : Int32)) % (22 : Int32))), .val (.ref en3), .unset] [(.ref en3)])) rfl (hb hby at_42)
    refine Go.step st27 ?_
    show Go FrameEnd p e below s 0 0 (Q0 Z p1 en0 en1 en2 en3 en4 en5 en6 en7 en8 en9 en10 en11 en12 en13 en14 en15 en16 en17 en18 en19 en20 en21 h0 n0) (T27.setTop (mkF m 45 #[.val (.int p1), .val (.int ((p1 &&& (2147483647 : Int32)) % (22 : Int32))), .val (.ref en3), .unset] [(.ref en17), (.ref en3)]))
    refine Go.step (fun _ k => Jvm.RoadKit.acmp (g := (mkF m 45 #[.val (.int p1), .val (.int ((p1 &&& (2147483647 : Int32)) % (22 : Int32))), .val (.ref en3), .unset] [(.ref en17), (.ref en3)])) X27 hx rfl rfl rfl (pc0 := 45) (pc' := 48) (same := false) rfl (hb hby at_45) rfl (decide_eq_false fun q => (Fld.ne F3 F17 (by decide)) (Value.ref.inj q)) (by decide) (by decide) k) ?_
    show Go FrameEnd p e below s 0 0 (Q0 Z p1 en0 en1 en2 en3 en4 en5 en6 en7 en8 en9 en10 en11 en12 en13 en14 en15 en16 en17 en18 en19 en20 en21 h0 n0) (T27.setTop (mkF m 48 #[.val (.int p1), .val (.int ((p1 &&& (2147483647 : Int32)) % (22 : Int32))), .val (.ref en3), .unset] []))
    refine Go.step (fun _ k => XS.aloadN X27.here hx rfl (hb hby at_48) rfl rfl k) ?_
    show Go FrameEnd p e below s 0 0 (Q0 Z p1 en0 en1 en2 en3 en4 en5 en6 en7 en8 en9 en10 en11 en12 en13 en14 en15 en16 en17 en18 en19 en20 en21 h0 n0) (T27.setTop (mkF m 49 #[.val (.int p1), .val (.int ((p1 &&& (2147483647 : Int32)) % (22 : Int32))), .val (.ref en3), .unset] [(.ref en3)]))
    obtain ⟨T28, X28, e28, st28⟩ := getS2 X27 hx hZ hown (host := "") (Or.inl (hw _ (List.mem_of_getElem? (i := 18) rfl))) Via.refl e27 S18 (g := (mkF m 49 #[.val (.int p1), .val (.int ((p1 &&& (2147483647 : Int32)) % (22 : Int32))), .val (.ref en3), .unset] [(.ref en3)])) rfl (hb hby at_49)
    refine Go.step st28 ?_
    show Go FrameEnd p e below s 0 0 (Q0 Z p1 en0 en1 en2 en3 en4 en5 en6 en7 en8 en9 en10 en11 en12 en13 en14 en15 en16 en17 en18 en19 en20 en21 h0 n0) (T28.setTop (mkF m 52 #[.val (.int p1), .val (.int ((p1 &&& (2147483647 : Int32)) % (22 : Int32))), .val (.ref en3), .unset] [(.ref en18), (.ref en3)]))
    refine Go.step (fun _ k => Jvm.RoadKit.acmp (g := (mkF m 52 #[.val (.int p1), .val (.int ((p1 &&& (2147483647 : Int32)) % (22 : Int32))), .val (.ref en3), .unset] [(.ref en18), (.ref en3)])) X28 hx rfl rfl rfl (pc0 := 52) (pc' := 59) (same := false) rfl (hb hby at_52) rfl (decide_eq_false fun q => (Fld.ne F3 F18 (by decide)) (Value.ref.inj q)) (by decide) (by decide) k) ?_
    show Go FrameEnd p e below s 0 0 (Q0 Z p1 en0 en1 en2 en3 en4 en5 en6 en7 en8 en9 en10 en11 en12 en13 en14 en15 en16 en17 en18 en19 en20 en21 h0 n0) (T28.setTop (mkF m 59 #[.val (.int p1), .val (.int ((p1 &&& (2147483647 : Int32)) % (22 : Int32))), .val (.ref en3), .unset] []))
    refine Go.step (fun _ k => XS.iconst X28.here hx rfl (hb hby at_59) k) ?_
    show Go FrameEnd p e below s 0 0 (Q0 Z p1 en0 en1 en2 en3 en4 en5 en6 en7 en8 en9 en10 en11 en12 en13 en14 en15 en16 en17 en18 en19 en20 en21 h0 n0) (T28.setTop (mkF m 60 #[.val (.int p1), .val (.int ((p1 &&& (2147483647 : Int32)) % (22 : Int32))), .val (.ref en3), .unset] [(.int (0 : Int32))]))
    refine Go.step (fun _ k => XS.istoreN X28.here hx rfl (hb hby at_60) rfl (l' := #[.val (.int p1), .val (.int ((p1 &&& (2147483647 : Int32)) % (22 : Int32))), .val (.ref en3), .val (.int (0 : Int32))]) rfl k) ?_
    show Go FrameEnd p e below s 0 0 (Q0 Z p1 en0 en1 en2 en3 en4 en5 en6 en7 en8 en9 en10 en11 en12 en13 en14 en15 en16 en17 en18 en19 en20 en21 h0 n0) (T28.setTop (mkF m 61 #[.val (.int p1), .val (.int ((p1 &&& (2147483647 : Int32)) % (22 : Int32))), .val (.ref en3), .val (.int (0 : Int32))] []))
    refine Go.step (fun _ k => XS.aloadN X28.here hx rfl (hb hby at_61) rfl rfl k) ?_
    show Go FrameEnd p e below s 0 0 (Q0 Z p1 en0 en1 en2 en3 en4 en5 en6 en7 en8 en9 en10 en11 en12 en13 en14 en15 en16 en17 en18 en19 en20 en21 h0 n0) (T28.setTop (mkF m 62 #[.val (.int p1), .val (.int ((p1 &&& (2147483647 : Int32)) % (22 : Int32))), .val (.ref en3), .val (.int (0 : Int32))] [(.ref en3)]))
    obtain ⟨cq29, kq29, q29a, q29b, q29c⟩ := isOf hZ e28 E3
    obtain ⟨_, _, ⟨T29, L29, k29, n29⟩, -, X29, ⟨Lc29, hQ29, l29, y29, z29⟩, st29⟩ := X28.virtualBack hx (y := (⟨"deckmill/Card", "asksChoice", "()Z"⟩ : MethodName)) (z := (⟨"deckmill/Card", "asksChoice", "()Z"⟩ : MethodName)) hown (mvT hZ (hw _ (List.mem_of_getElem? (i := 20) rfl))) (mvT hZ (hw _ (List.mem_of_getElem? (i := 21) rfl))) (notFace_of_selects (args := #[]) (mvT hZ (hw _ (List.mem_of_getElem? (i := 23) rfl)))) (mvT hZ (hw _ (List.mem_of_getElem? (i := 23) rfl))) (mvT hZ (hw _ (List.mem_of_getElem? (i := 22) rfl))) (by decide) (backOf (W := 0) (rm2n l Z a0 hw [] en3  h0 C3) hZ (hw _ (List.mem_of_getElem? (i := 24) rfl)) (hw _ (List.mem_of_getElem? (i := 6) rfl)) (by decide) (by decide)) q29a q29c (g := (mkF m 62 #[.val (.int p1), .val (.int ((p1 &&& (2147483647 : Int32)) % (22 : Int32))), .val (.ref en3), .val (.int (0 : Int32))] [(.ref en3)])) rfl (by rw [hml]; rfl) (Steps.refl _) (argsL := []) (rest := []) (lenOf pd___Z rfl) rfl (by show 2 * 0 + _ ≤ _; exact Nat.le_of_eq rfl) (hb hby at_62) (fun _ _ => ⟨rfl, e28, (by decide : 0 + 0 ≤ _), (by decide : 0 + 0 ≤ _)⟩)
    dsimp only [Pt.U, Pt.locs, Pt.cells, Pt.slots] at X29 l29 y29 z29 st29 hQ29
    subst l29 y29 z29
    obtain ⟨rfl, rfl, e29⟩ := hQ29
    have N29 := Fr.app N1 (Fr.nil n0)
    refine Go.hop st29 ?_
    show Go FrameEnd p e below s 0 0 (Q0 Z p1 en0 en1 en2 en3 en4 en5 en6 en7 en8 en9 en10 en11 en12 en13 en14 en15 en16 en17 en18 en19 en20 en21 h0 n0) (T29.setTop (mkF m 65 #[.val (.int p1), .val (.int ((p1 &&& (2147483647 : Int32)) % (22 : Int32))), .val (.ref en3), .val (.int (0 : Int32))] [(.int (0 : Int32))]))
    refine Go.step (fun _ k => XS.iloadN X29.here hx rfl (hb hby at_65) rfl k) ?_
    show Go FrameEnd p e below s 0 0 (Q0 Z p1 en0 en1 en2 en3 en4 en5 en6 en7 en8 en9 en10 en11 en12 en13 en14 en15 en16 en17 en18 en19 en20 en21 h0 n0) (T29.setTop (mkF m 66 #[.val (.int p1), .val (.int ((p1 &&& (2147483647 : Int32)) % (22 : Int32))), .val (.ref en3), .val (.int (0 : Int32))] [(.int (0 : Int32)), (.int (0 : Int32))]))
    refine Go.step (fun _ k => XS.icmpNo X29.here hx rfl (hb hby at_66) rfl (teq rfl).2 k) ?_
    show Go FrameEnd p e below s 0 0 (Q0 Z p1 en0 en1 en2 en3 en4 en5 en6 en7 en8 en9 en10 en11 en12 en13 en14 en15 en16 en17 en18 en19 en20 en21 h0 n0) (T29.setTop (mkF m 69 #[.val (.int p1), .val (.int ((p1 &&& (2147483647 : Int32)) % (22 : Int32))), .val (.ref en3), .val (.int (0 : Int32))] []))
    refine Go.step (fun _ k => XS.iconst X29.here hx rfl (hb hby at_69) k) ?_
    show Go FrameEnd p e below s 0 0 (Q0 Z p1 en0 en1 en2 en3 en4 en5 en6 en7 en8 en9 en10 en11 en12 en13 en14 en15 en16 en17 en18 en19 en20 en21 h0 n0) (T29.setTop (mkF m 70 #[.val (.int p1), .val (.int ((p1 &&& (2147483647 : Int32)) % (22 : Int32))), .val (.ref en3), .val (.int (0 : Int32))] [(.int (1 : Int32))]))
    refine Go.step (fun _ k => XS.goto X29.here hx rfl (pc0 := 70) (pc' := 74) rfl (hb hby at_70) (by decide) (by decide) k) ?_
    show Go FrameEnd p e below s 0 0 (Q0 Z p1 en0 en1 en2 en3 en4 en5 en6 en7 en8 en9 en10 en11 en12 en13 en14 en15 en16 en17 en18 en19 en20 en21 h0 n0) (T29.setTop (mkF m 74 #[.val (.int p1), .val (.int ((p1 &&& (2147483647 : Int32)) % (22 : Int32))), .val (.ref en3), .val (.int (0 : Int32))] [(.int (1 : Int32))]))
    refine Go.retN X29 hx (t := .boolean) Bd.returns (by simp) (by decide) (hb hby at_74) (BodyLoose.notSynchronized Bd) e29 (by decide) (by decide) ?_
    exact ⟨rfl, N29⟩
  · skip
    rw [q]
    obtain ⟨⟨S0, E0, F0, C0⟩, ⟨S1, E1, F1, C1⟩, ⟨S2, E2, F2, C2⟩, ⟨S3, E3, F3, C3⟩, ⟨S4, E4, F4, C4⟩, ⟨S5, E5, F5, C5⟩, ⟨S6, E6, F6, C6⟩, ⟨S7, E7, F7, C7⟩, ⟨S8, E8, F8, C8⟩, ⟨S9, E9, F9, C9⟩, ⟨S10, E10, F10, C10⟩, ⟨S11, E11, F11, C11⟩, ⟨S12, E12, F12, C12⟩, ⟨S13, E13, F13, C13⟩, ⟨S14, E14, F14, C14⟩, ⟨S15, E15, F15, C15⟩, ⟨S16, E16, F16, C16⟩, ⟨S17, E17, F17, C17⟩, ⟨S18, E18, F18, C18⟩, ⟨S19, E19, F19, C19⟩, ⟨S20, E20, F20, C20⟩, ⟨S21, E21, F21, C21⟩⟩ := hC
    show Go FrameEnd p e below s 0 0 (Q0 Z p1 en0 en1 en2 en3 en4 en5 en6 en7 en8 en9 en10 en11 en12 en13 en14 en15 en16 en17 en18 en19 en20 en21 h0 n0) (T1.setTop (mkF m 12 #[.val (.int p1), .val (.int ((p1 &&& (2147483647 : Int32)) % (22 : Int32))), .unset, .unset] [(.ref en4)]))
    refine Go.step (fun _ k => XS.astoreN X1.here hx rfl (hb hby at_12) rfl rfl (l' := #[.val (.int p1), .val (.int ((p1 &&& (2147483647 : Int32)) % (22 : Int32))), .val (.ref en4), .unset]) rfl k) ?_
    show Go FrameEnd p e below s 0 0 (Q0 Z p1 en0 en1 en2 en3 en4 en5 en6 en7 en8 en9 en10 en11 en12 en13 en14 en15 en16 en17 en18 en19 en20 en21 h0 n0) (T1.setTop (mkF m 13 #[.val (.int p1), .val (.int ((p1 &&& (2147483647 : Int32)) % (22 : Int32))), .val (.ref en4), .unset] []))
    refine Go.step (fun _ k => XS.aloadN X1.here hx rfl (hb hby at_13) rfl rfl k) ?_
    show Go FrameEnd p e below s 0 0 (Q0 Z p1 en0 en1 en2 en3 en4 en5 en6 en7 en8 en9 en10 en11 en12 en13 en14 en15 en16 en17 en18 en19 en20 en21 h0 n0) (T1.setTop (mkF m 14 #[.val (.int p1), .val (.int ((p1 &&& (2147483647 : Int32)) % (22 : Int32))), .val (.ref en4), .unset] [(.ref en4)]))
    obtain ⟨T30, X30, e30, st30⟩ := getS2 X1 hx hZ hown (host := "") (Or.inl (hw _ (List.mem_of_getElem? (i := 8) rfl))) Via.refl e1 S13 (g := (mkF m 14 #[.val (.int p1), .val (.int ((p1 &&& (2147483647 : Int32)) % (22 : Int32))), .val (.ref en4), .unset] [(.ref en4)])) rfl (hb hby at_14)
    refine Go.step st30 ?_
    show Go FrameEnd p e below s 0 0 (Q0 Z p1 en0 en1 en2 en3 en4 en5 en6 en7 en8 en9 en10 en11 en12 en13 en14 en15 en16 en17 en18 en19 en20 en21 h0 n0) (T30.setTop (mkF m 17 #[.val (.int p1), .val (.int ((p1 &&& (2147483647 : Int32)) % (22 : Int32))), .val (.ref en4), .unset] [(.ref en13), (.ref en4)]))
    refine Go.step (fun _ k => Jvm.RoadKit.acmp (g := (mkF m 17 #[.val (.int p1), .val (.int ((p1 &&& (2147483647 : Int32)) % (22 : Int32))), .val (.ref en4), .unset] [(.ref en13), (.ref en4)])) X30 hx rfl rfl rfl (pc0 := 17) (pc' := 20) (same := false) rfl (hb hby at_17) rfl (decide_eq_false fun q => (Fld.ne F4 F13 (by decide)) (Value.ref.inj q)) (by decide) (by decide) k) ?_
    show Go FrameEnd p e below s 0 0 (Q0 Z p1 en0 en1 en2 en3 en4 en5 en6 en7 en8 en9 en10 en11 en12 en13 en14 en15 en16 en17 en18 en19 en20 en21 h0 n0) (T30.setTop (mkF m 20 #[.val (.int p1), .val (.int ((p1 &&& (2147483647 : Int32)) % (22 : Int32))), .val (.ref en4), .unset] []))
    refine Go.step (fun _ k => XS.aloadN X30.here hx rfl (hb hby at_20) rfl rfl k) ?_
    show Go FrameEnd p e below s 0 0 (Q0 Z p1 en0 en1 en2 en3 en4 en5 en6 en7 en8 en9 en10 en11 en12 en13 en14 en15 en16 en17 en18 en19 en20 en21 h0 n0) (T30.setTop (mkF m 21 #[.val (.int p1), .val (.int ((p1 &&& (2147483647 : Int32)) % (22 : Int32))), .val (.ref en4), .unset] [(.ref en4)]))
    obtain ⟨T31, X31, e31, st31⟩ := getS2 X30 hx hZ hown (host := "") (Or.inl (hw _ (List.mem_of_getElem? (i := 10) rfl))) Via.refl e30 S14 (g := (mkF m 21 #[.val (.int p1), .val (.int ((p1 &&& (2147483647 : Int32)) % (22 : Int32))), .val (.ref en4), .unset] [(.ref en4)])) rfl (hb hby at_21)
    refine Go.step st31 ?_
    show Go FrameEnd p e below s 0 0 (Q0 Z p1 en0 en1 en2 en3 en4 en5 en6 en7 en8 en9 en10 en11 en12 en13 en14 en15 en16 en17 en18 en19 en20 en21 h0 n0) (T31.setTop (mkF m 24 #[.val (.int p1), .val (.int ((p1 &&& (2147483647 : Int32)) % (22 : Int32))), .val (.ref en4), .unset] [(.ref en14), (.ref en4)]))
    refine Go.step (fun _ k => Jvm.RoadKit.acmp (g := (mkF m 24 #[.val (.int p1), .val (.int ((p1 &&& (2147483647 : Int32)) % (22 : Int32))), .val (.ref en4), .unset] [(.ref en14), (.ref en4)])) X31 hx rfl rfl rfl (pc0 := 24) (pc' := 27) (same := false) rfl (hb hby at_24) rfl (decide_eq_false fun q => (Fld.ne F4 F14 (by decide)) (Value.ref.inj q)) (by decide) (by decide) k) ?_
    show Go FrameEnd p e below s 0 0 (Q0 Z p1 en0 en1 en2 en3 en4 en5 en6 en7 en8 en9 en10 en11 en12 en13 en14 en15 en16 en17 en18 en19 en20 en21 h0 n0) (T31.setTop (mkF m 27 #[.val (.int p1), .val (.int ((p1 &&& (2147483647 : Int32)) % (22 : Int32))), .val (.ref en4), .unset] []))
    refine Go.step (fun _ k => XS.aloadN X31.here hx rfl (hb hby at_27) rfl rfl k) ?_
    show Go FrameEnd p e below s 0 0 (Q0 Z p1 en0 en1 en2 en3 en4 en5 en6 en7 en8 en9 en10 en11 en12 en13 en14 en15 en16 en17 en18 en19 en20 en21 h0 n0) (T31.setTop (mkF m 28 #[.val (.int p1), .val (.int ((p1 &&& (2147483647 : Int32)) % (22 : Int32))), .val (.ref en4), .unset] [(.ref en4)]))
    obtain ⟨T32, X32, e32, st32⟩ := getS2 X31 hx hZ hown (host := "") (Or.inl (hw _ (List.mem_of_getElem? (i := 12) rfl))) Via.refl e31 S15 (g := (mkF m 28 #[.val (.int p1), .val (.int ((p1 &&& (2147483647 : Int32)) % (22 : Int32))), .val (.ref en4), .unset] [(.ref en4)])) rfl (hb hby at_28)
    refine Go.step st32 ?_
    show Go FrameEnd p e below s 0 0 (Q0 Z p1 en0 en1 en2 en3 en4 en5 en6 en7 en8 en9 en10 en11 en12 en13 en14 en15 en16 en17 en18 en19 en20 en21 h0 n0) (T32.setTop (mkF m 31 #[.val (.int p1), .val (.int ((p1 &&& (2147483647 : Int32)) % (22 : Int32))), .val (.ref en4), .unset] [(.ref en15), (.ref en4)]))
    refine Go.step (fun _ k => Jvm.RoadKit.acmp (g := (mkF m 31 #[.val (.int p1), .val (.int ((p1 &&& (2147483647 : Int32)) % (22 : Int32))), .val (.ref en4), .unset] [(.ref en15), (.ref en4)])) X32 hx rfl rfl rfl (pc0 := 31) (pc' := 34) (same := false) rfl (hb hby at_31) rfl (decide_eq_false fun q => (Fld.ne F4 F15 (by decide)) (Value.ref.inj q)) (by decide) (by decide) k) ?_
    show Go FrameEnd p e below s 0 0 (Q0 Z p1 en0 en1 en2 en3 en4 en5 en6 en7 en8 en9 en10 en11 en12 en13 en14 en15 en16 en17 en18 en19 en20 en21 h0 n0) (T32.setTop (mkF m 34 #[.val (.int p1), .val (.int ((p1 &&& (2147483647 : Int32)) % (22 : Int32))), .val (.ref en4), .unset] []))
    refine Go.step (fun _ k => XS.aloadN X32.here hx rfl (hb hby at_34) rfl rfl k) ?_
    show Go FrameEnd p e below s 0 0 (Q0 Z p1 en0 en1 en2 en3 en4 en5 en6 en7 en8 en9 en10 en11 en12 en13 en14 en15 en16 en17 en18 en19 en20 en21 h0 n0) (T32.setTop (mkF m 35 #[.val (.int p1), .val (.int ((p1 &&& (2147483647 : Int32)) % (22 : Int32))), .val (.ref en4), .unset] [(.ref en4)]))
    obtain ⟨T33, X33, e33, st33⟩ := getS2 X32 hx hZ hown (host := "") (Or.inl (hw _ (List.mem_of_getElem? (i := 14) rfl))) Via.refl e32 S16 (g := (mkF m 35 #[.val (.int p1), .val (.int ((p1 &&& (2147483647 : Int32)) % (22 : Int32))), .val (.ref en4), .unset] [(.ref en4)])) rfl (hb hby at_35)
    refine Go.step st33 ?_
    show Go FrameEnd p e below s 0 0 (Q0 Z p1 en0 en1 en2 en3 en4 en5 en6 en7 en8 en9 en10 en11 en12 en13 en14 en15 en16 en17 en18 en19 en20 en21 h0 n0) (T33.setTop (mkF m 38 #[.val (.int p1), .val (.int ((p1 &&& (2147483647 : Int32)) % (22 : Int32))), .val (.ref en4), .unset] [(.ref en16), (.ref en4)]))
    refine Go.step (fun _ k => Jvm.RoadKit.acmp (g := (mkF m 38 #[.val (.int p1), .val (.int ((p1 &&& (2147483647 : Int32)) % (22 : Int32))), .val (.ref en4), .unset] [(.ref en16), (.ref en4)])) X33 hx rfl rfl rfl (pc0 := 38) (pc' := 41) (same := false) rfl (hb hby at_38) rfl (decide_eq_false fun q => (Fld.ne F4 F16 (by decide)) (Value.ref.inj q)) (by decide) (by decide) k) ?_
    show Go FrameEnd p e below s 0 0 (Q0 Z p1 en0 en1 en2 en3 en4 en5 en6 en7 en8 en9 en10 en11 en12 en13 en14 en15 en16 en17 en18 en19 en20 en21 h0 n0) (T33.setTop (mkF m 41 #[.val (.int p1), .val (.int ((p1 &&& (2147483647 : Int32)) % (22 : Int32))), .val (.ref en4), .unset] []))
    refine Go.step (fun _ k => XS.aloadN X33.here hx rfl (hb hby at_41) rfl rfl k) ?_
    show Go FrameEnd p e below s 0 0 (Q0 Z p1 en0 en1 en2 en3 en4 en5 en6 en7 en8 en9 en10 en11 en12 en13 en14 en15 en16 en17 en18 en19 en20 en21 h0 n0) (T33.setTop (mkF m 42 #[.val (.int p1), .val (.int ((p1 &&& (2147483647 : Int32)) % (22 : Int32))), .val (.ref en4), .unset] [(.ref en4)]))
    obtain ⟨T34, X34, e34, st34⟩ := getS2 X33 hx hZ hown (host := "") (Or.inl (hw _ (List.mem_of_getElem? (i := 16) rfl))) Via.refl e33 S17 (g := (mkF m 42 #[.val (.int p1), .val (.int ((p1 &&& (2147483647 : Int32)) % (22 : Int32))), .val (.ref en4), .unset] [(.ref en4)])) rfl (hb hby at_42)
    refine Go.step st34 ?_
    show Go FrameEnd p e below s 0 0 (Q0 Z p1 en0 en1 en2 en3 en4 en5 en6 en7 en8 en9 en10 en11 en12 en13 en14 en15 en16 en17 en18 en19 en20 en21 h0 n0) (T34.setTop (mkF m 45 #[.val (.int p1), .val (.int ((p1 &&& (2147483647 : Int32)) % (22 : Int32))), .val (.ref en4), .unset] [(.ref en17), (.ref en4)]))
    refine Go.step (fun _ k => Jvm.RoadKit.acmp (g := (mkF m 45 #[.val (.int p1), .val (.int ((p1 &&& (2147483647 : Int32)) % (22 : Int32))), .val (.ref en4), .unset] [(.ref en17), (.ref en4)])) X34 hx rfl rfl rfl (pc0 := 45) (pc' := 48) (same := false) rfl (hb hby at_45) rfl (decide_eq_false fun q => (Fld.ne F4 F17 (by decide)) (Value.ref.inj q)) (by decide) (by decide) k) ?_
    show Go FrameEnd p e below s 0 0 (Q0 Z p1 en0 en1 en2 en3 en4 en5 en6 en7 en8 en9 en10 en11 en12 en13 en14 en15 en16 en17 en18 en19 en20 en21 h0 n0) (T34.setTop (mkF m 48 #[.val (.int p1), .val (.int ((p1 &&& (2147483647 : Int32)) % (22 : Int32))), .val (.ref en4), .unset] []))
    refine Go.step (fun _ k => XS.aloadN X34.here hx rfl (hb hby at_48) rfl rfl k) ?_
    show Go FrameEnd p e below s 0 0 (Q0 Z p1 en0 en1 en2 en3 en4 en5 en6 en7 en8 en9 en10 en11 en12 en13 en14 en15 en16 en17 en18 en19 en20 en21 h0 n0) (T34.setTop (mkF m 49 #[.val (.int p1), .val (.int ((p1 &&& (2147483647 : Int32)) % (22 : Int32))), .val (.ref en4), .unset] [(.ref en4)]))
    obtain ⟨T35, X35, e35, st35⟩ := getS2 X34 hx hZ hown (host := "") (Or.inl (hw _ (List.mem_of_getElem? (i := 18) rfl))) Via.refl e34 S18 (g := (mkF m 49 #[.val (.int p1), .val (.int ((p1 &&& (2147483647 : Int32)) % (22 : Int32))), .val (.ref en4), .unset] [(.ref en4)])) rfl (hb hby at_49)
    refine Go.step st35 ?_
    show Go FrameEnd p e below s 0 0 (Q0 Z p1 en0 en1 en2 en3 en4 en5 en6 en7 en8 en9 en10 en11 en12 en13 en14 en15 en16 en17 en18 en19 en20 en21 h0 n0) (T35.setTop (mkF m 52 #[.val (.int p1), .val (.int ((p1 &&& (2147483647 : Int32)) % (22 : Int32))), .val (.ref en4), .unset] [(.ref en18), (.ref en4)]))
    refine Go.step (fun _ k => Jvm.RoadKit.acmp (g := (mkF m 52 #[.val (.int p1), .val (.int ((p1 &&& (2147483647 : Int32)) % (22 : Int32))), .val (.ref en4), .unset] [(.ref en18), (.ref en4)])) X35 hx rfl rfl rfl (pc0 := 52) (pc' := 59) (same := false) rfl (hb hby at_52) rfl (decide_eq_false fun q => (Fld.ne F4 F18 (by decide)) (Value.ref.inj q)) (by decide) (by decide) k) ?_
    show Go FrameEnd p e below s 0 0 (Q0 Z p1 en0 en1 en2 en3 en4 en5 en6 en7 en8 en9 en10 en11 en12 en13 en14 en15 en16 en17 en18 en19 en20 en21 h0 n0) (T35.setTop (mkF m 59 #[.val (.int p1), .val (.int ((p1 &&& (2147483647 : Int32)) % (22 : Int32))), .val (.ref en4), .unset] []))
    refine Go.step (fun _ k => XS.iconst X35.here hx rfl (hb hby at_59) k) ?_
    show Go FrameEnd p e below s 0 0 (Q0 Z p1 en0 en1 en2 en3 en4 en5 en6 en7 en8 en9 en10 en11 en12 en13 en14 en15 en16 en17 en18 en19 en20 en21 h0 n0) (T35.setTop (mkF m 60 #[.val (.int p1), .val (.int ((p1 &&& (2147483647 : Int32)) % (22 : Int32))), .val (.ref en4), .unset] [(.int (0 : Int32))]))
    refine Go.step (fun _ k => XS.istoreN X35.here hx rfl (hb hby at_60) rfl (l' := #[.val (.int p1), .val (.int ((p1 &&& (2147483647 : Int32)) % (22 : Int32))), .val (.ref en4), .val (.int (0 : Int32))]) rfl k) ?_
    show Go FrameEnd p e below s 0 0 (Q0 Z p1 en0 en1 en2 en3 en4 en5 en6 en7 en8 en9 en10 en11 en12 en13 en14 en15 en16 en17 en18 en19 en20 en21 h0 n0) (T35.setTop (mkF m 61 #[.val (.int p1), .val (.int ((p1 &&& (2147483647 : Int32)) % (22 : Int32))), .val (.ref en4), .val (.int (0 : Int32))] []))
    refine Go.step (fun _ k => XS.aloadN X35.here hx rfl (hb hby at_61) rfl rfl k) ?_
    show Go FrameEnd p e below s 0 0 (Q0 Z p1 en0 en1 en2 en3 en4 en5 en6 en7 en8 en9 en10 en11 en12 en13 en14 en15 en16 en17 en18 en19 en20 en21 h0 n0) (T35.setTop (mkF m 62 #[.val (.int p1), .val (.int ((p1 &&& (2147483647 : Int32)) % (22 : Int32))), .val (.ref en4), .val (.int (0 : Int32))] [(.ref en4)]))
    obtain ⟨cq36, kq36, q36a, q36b, q36c⟩ := isOf hZ e35 E4
    obtain ⟨_, _, ⟨T36, L36, k36, n36⟩, -, X36, ⟨Lc36, hQ36, l36, y36, z36⟩, st36⟩ := X35.virtualBack hx (y := (⟨"deckmill/Card", "asksChoice", "()Z"⟩ : MethodName)) (z := (⟨"deckmill/Card", "asksChoice", "()Z"⟩ : MethodName)) hown (mvT hZ (hw _ (List.mem_of_getElem? (i := 20) rfl))) (mvT hZ (hw _ (List.mem_of_getElem? (i := 21) rfl))) (notFace_of_selects (args := #[]) (mvT hZ (hw _ (List.mem_of_getElem? (i := 23) rfl)))) (mvT hZ (hw _ (List.mem_of_getElem? (i := 23) rfl))) (mvT hZ (hw _ (List.mem_of_getElem? (i := 22) rfl))) (by decide) (backOf (W := 0) (rm2n l Z a0 hw [] en4  h0 C4) hZ (hw _ (List.mem_of_getElem? (i := 24) rfl)) (hw _ (List.mem_of_getElem? (i := 6) rfl)) (by decide) (by decide)) q36a q36c (g := (mkF m 62 #[.val (.int p1), .val (.int ((p1 &&& (2147483647 : Int32)) % (22 : Int32))), .val (.ref en4), .val (.int (0 : Int32))] [(.ref en4)])) rfl (by rw [hml]; rfl) (Steps.refl _) (argsL := []) (rest := []) (lenOf pd___Z rfl) rfl (by show 2 * 0 + _ ≤ _; exact Nat.le_of_eq rfl) (hb hby at_62) (fun _ _ => ⟨rfl, e35, (by decide : 0 + 0 ≤ _), (by decide : 0 + 0 ≤ _)⟩)
    dsimp only [Pt.U, Pt.locs, Pt.cells, Pt.slots] at X36 l36 y36 z36 st36 hQ36
    subst l36 y36 z36
    obtain ⟨rfl, rfl, e36⟩ := hQ36
    have N36 := Fr.app N1 (Fr.nil n0)
    refine Go.hop st36 ?_
    show Go FrameEnd p e below s 0 0 (Q0 Z p1 en0 en1 en2 en3 en4 en5 en6 en7 en8 en9 en10 en11 en12 en13 en14 en15 en16 en17 en18 en19 en20 en21 h0 n0) (T36.setTop (mkF m 65 #[.val (.int p1), .val (.int ((p1 &&& (2147483647 : Int32)) % (22 : Int32))), .val (.ref en4), .val (.int (0 : Int32))] [(.int (0 : Int32))]))
    refine Go.step (fun _ k => XS.iloadN X36.here hx rfl (hb hby at_65) rfl k) ?_
    show Go FrameEnd p e below s 0 0 (Q0 Z p1 en0 en1 en2 en3 en4 en5 en6 en7 en8 en9 en10 en11 en12 en13 en14 en15 en16 en17 en18 en19 en20 en21 h0 n0) (T36.setTop (mkF m 66 #[.val (.int p1), .val (.int ((p1 &&& (2147483647 : Int32)) % (22 : Int32))), .val (.ref en4), .val (.int (0 : Int32))] [(.int (0 : Int32)), (.int (0 : Int32))]))
    refine Go.step (fun _ k => XS.icmpNo X36.here hx rfl (hb hby at_66) rfl (teq rfl).2 k) ?_
    show Go FrameEnd p e below s 0 0 (Q0 Z p1 en0 en1 en2 en3 en4 en5 en6 en7 en8 en9 en10 en11 en12 en13 en14 en15 en16 en17 en18 en19 en20 en21 h0 n0) (T36.setTop (mkF m 69 #[.val (.int p1), .val (.int ((p1 &&& (2147483647 : Int32)) % (22 : Int32))), .val (.ref en4), .val (.int (0 : Int32))] []))
    refine Go.step (fun _ k => XS.iconst X36.here hx rfl (hb hby at_69) k) ?_
    show Go FrameEnd p e below s 0 0 (Q0 Z p1 en0 en1 en2 en3 en4 en5 en6 en7 en8 en9 en10 en11 en12 en13 en14 en15 en16 en17 en18 en19 en20 en21 h0 n0) (T36.setTop (mkF m 70 #[.val (.int p1), .val (.int ((p1 &&& (2147483647 : Int32)) % (22 : Int32))), .val (.ref en4), .val (.int (0 : Int32))] [(.int (1 : Int32))]))
    refine Go.step (fun _ k => XS.goto X36.here hx rfl (pc0 := 70) (pc' := 74) rfl (hb hby at_70) (by decide) (by decide) k) ?_
    show Go FrameEnd p e below s 0 0 (Q0 Z p1 en0 en1 en2 en3 en4 en5 en6 en7 en8 en9 en10 en11 en12 en13 en14 en15 en16 en17 en18 en19 en20 en21 h0 n0) (T36.setTop (mkF m 74 #[.val (.int p1), .val (.int ((p1 &&& (2147483647 : Int32)) % (22 : Int32))), .val (.ref en4), .val (.int (0 : Int32))] [(.int (1 : Int32))]))
    refine Go.retN X36 hx (t := .boolean) Bd.returns (by simp) (by decide) (hb hby at_74) (BodyLoose.notSynchronized Bd) e36 (by decide) (by decide) ?_
    exact ⟨rfl, N36⟩
  · skip
    rw [q]
    obtain ⟨⟨S0, E0, F0, C0⟩, ⟨S1, E1, F1, C1⟩, ⟨S2, E2, F2, C2⟩, ⟨S3, E3, F3, C3⟩, ⟨S4, E4, F4, C4⟩, ⟨S5, E5, F5, C5⟩, ⟨S6, E6, F6, C6⟩, ⟨S7, E7, F7, C7⟩, ⟨S8, E8, F8, C8⟩, ⟨S9, E9, F9, C9⟩, ⟨S10, E10, F10, C10⟩, ⟨S11, E11, F11, C11⟩, ⟨S12, E12, F12, C12⟩, ⟨S13, E13, F13, C13⟩, ⟨S14, E14, F14, C14⟩, ⟨S15, E15, F15, C15⟩, ⟨S16, E16, F16, C16⟩, ⟨S17, E17, F17, C17⟩, ⟨S18, E18, F18, C18⟩, ⟨S19, E19, F19, C19⟩, ⟨S20, E20, F20, C20⟩, ⟨S21, E21, F21, C21⟩⟩ := hC
    show Go FrameEnd p e below s 0 0 (Q0 Z p1 en0 en1 en2 en3 en4 en5 en6 en7 en8 en9 en10 en11 en12 en13 en14 en15 en16 en17 en18 en19 en20 en21 h0 n0) (T1.setTop (mkF m 12 #[.val (.int p1), .val (.int ((p1 &&& (2147483647 : Int32)) % (22 : Int32))), .unset, .unset] [(.ref en5)]))
    refine Go.step (fun _ k => XS.astoreN X1.here hx rfl (hb hby at_12) rfl rfl (l' := #[.val (.int p1), .val (.int ((p1 &&& (2147483647 : Int32)) % (22 : Int32))), .val (.ref en5), .unset]) rfl k) ?_
    show Go FrameEnd p e below s 0 0 (Q0 Z p1 en0 en1 en2 en3 en4 en5 en6 en7 en8 en9 en10 en11 en12 en13 en14 en15 en16 en17 en18 en19 en20 en21 h0 n0) (T1.setTop (mkF m 13 #[.val (.int p1), .val (.int ((p1 &&& (2147483647 : Int32)) % (22 : Int32))), .val (.ref en5), .unset] []))
    refine Go.step (fun _ k => XS.aloadN X1.here hx rfl (hb hby at_13) rfl rfl k) ?_
    show Go FrameEnd p e below s 0 0 (Q0 Z p1 en0 en1 en2 en3 en4 en5 en6 en7 en8 en9 en10 en11 en12 en13 en14 en15 en16 en17 en18 en19 en20 en21 h0 n0) (T1.setTop (mkF m 14 #[.val (.int p1), .val (.int ((p1 &&& (2147483647 : Int32)) % (22 : Int32))), .val (.ref en5), .unset] [(.ref en5)]))
    obtain ⟨T37, X37, e37, st37⟩ := getS2 X1 hx hZ hown (host := "") (Or.inl (hw _ (List.mem_of_getElem? (i := 8) rfl))) Via.refl e1 S13 (g := (mkF m 14 #[.val (.int p1), .val (.int ((p1 &&& (2147483647 : Int32)) % (22 : Int32))), .val (.ref en5), .unset] [(.ref en5)])) rfl (hb hby at_14)
    refine Go.step st37 ?_
    show Go FrameEnd p e below s 0 0 (Q0 Z p1 en0 en1 en2 en3 en4 en5 en6 en7 en8 en9 en10 en11 en12 en13 en14 en15 en16 en17 en18 en19 en20 en21 h0 n0) (T37.setTop (mkF m 17 #[.val (.int p1), .val (.int ((p1 &&& (2147483647 : Int32)) % (22 : Int32))), .val (.ref en5), .unset] [(.ref en13), (.ref en5)]))
    refine Go.step (fun _ k => Jvm.RoadKit.acmp (g := (mkF m 17 #[.val (.int p1), .val (.int ((p1 &&& (2147483647 : Int32)) % (22 : Int32))), .val (.ref en5), .unset] [(.ref en13), (.ref en5)])) X37 hx rfl rfl rfl (pc0 := 17) (pc' := 20) (same := false) rfl (hb hby at_17) rfl (decide_eq_false fun q => (Fld.ne F5 F13 (by decide)) (Value.ref.inj q)) (by decide) (by decide) k) ?_
    show Go FrameEnd p e below s 0 0 (Q0 Z p1 en0 en1 en2 en3 en4 en5 en6 en7 en8 en9 en10 en11 en12 en13 en14 en15 en16 en17 en18 en19 en20 en21 h0 n0) (T37.setTop (mkF m 20 #[.val (.int p1), .val (.int ((p1 &&& (2147483647 : Int32)) % (22 : Int32))), .val (.ref en5), .unset] []))
    refine Go.step (fun _ k => XS.aloadN X37.here hx rfl (hb hby at_20) rfl rfl k) ?_
    show Go FrameEnd p e below s 0 0 (Q0 Z p1 en0 en1 en2 en3 en4 en5 en6 en7 en8 en9 en10 en11 en12 en13 en14 en15 en16 en17 en18 en19 en20 en21 h0 n0) (T37.setTop (mkF m 21 #[.val (.int p1), .val (.int ((p1 &&& (2147483647 : Int32)) % (22 : Int32))), .val (.ref en5), .unset] [(.ref en5)]))
    obtain ⟨T38, X38, e38, st38⟩ := getS2 X37 hx hZ hown (host := "") (Or.inl (hw _ (List.mem_of_getElem? (i := 10) rfl))) Via.refl e37 S14 (g := (mkF m 21 #[.val (.int p1), .val (.int ((p1 &&& (2147483647 : Int32)) % (22 : Int32))), .val (.ref en5), .unset] [(.ref en5)])) rfl (hb hby at_21)
    refine Go.step st38 ?_
    show Go FrameEnd p e below s 0 0 (Q0 Z p1 en0 en1 en2 en3 en4 en5 en6 en7 en8 en9 en10 en11 en12 en13 en14 en15 en16 en17 en18 en19 en20 en21 h0 n0) (T38.setTop (mkF m 24 #[.val (.int p1), .val (.int ((p1 &&& (2147483647 : Int32)) % (22 : Int32))), .val (.ref en5), .unset] [(.ref en14), (.ref en5)]))
    refine Go.step (fun _ k => Jvm.RoadKit.acmp (g := (mkF m 24 #[.val (.int p1), .val (.int ((p1 &&& (2147483647 : Int32)) % (22 : Int32))), .val (.ref en5), .unset] [(.ref en14), (.ref en5)])) X38 hx rfl rfl rfl (pc0 := 24) (pc' := 27) (same := false) rfl (hb hby at_24) rfl (decide_eq_false fun q => (Fld.ne F5 F14 (by decide)) (Value.ref.inj q)) (by decide) (by decide) k) ?_
    show Go FrameEnd p e below s 0 0 (Q0 Z p1 en0 en1 en2 en3 en4 en5 en6 en7 en8 en9 en10 en11 en12 en13 en14 en15 en16 en17 en18 en19 en20 en21 h0 n0) (T38.setTop (mkF m 27 #[.val (.int p1), .val (.int ((p1 &&& (2147483647 : Int32)) % (22 : Int32))), .val (.ref en5), .unset] []))
    refine Go.step (fun _ k => XS.aloadN X38.here hx rfl (hb hby at_27) rfl rfl k) ?_
    show Go FrameEnd p e below s 0 0 (Q0 Z p1 en0 en1 en2 en3 en4 en5 en6 en7 en8 en9 en10 en11 en12 en13 en14 en15 en16 en17 en18 en19 en20 en21 h0 n0) (T38.setTop (mkF m 28 #[.val (.int p1), .val (.int ((p1 &&& (2147483647 : Int32)) % (22 : Int32))), .val (.ref en5), .unset] [(.ref en5)]))
    obtain ⟨T39, X39, e39, st39⟩ := getS2 X38 hx hZ hown (host := "") (Or.inl (hw _ (List.mem_of_getElem? (i := 12) rfl))) Via.refl e38 S15 (g := (mkF m 28 #[.val (.int p1), .val (.int ((p1 &&& (2147483647 : Int32)) % (22 : Int32))), .val (.ref en5), .unset] [(.ref en5)])) rfl (hb hby at_28)
    refine Go.step st39 ?_
    show Go FrameEnd p e below s 0 0 (Q0 Z p1 en0 en1 en2 en3 en4 en5 en6 en7 en8 en9 en10 en11 en12 en13 en14 en15 en16 en17 en18 en19 en20 en21 h0 n0) (T39.setTop (mkF m 31 #[.val (.int p1), .val (.int ((p1 &&& (2147483647 : Int32)) % (22 : Int32))), .val (.ref en5), .unset] [(.ref en15), (.ref en5)]))
    refine Go.step (fun _ k => Jvm.RoadKit.acmp (g := (mkF m 31 #[.val (.int p1), .val (.int ((p1 &&& (2147483647 : Int32)) % (22 : Int32))), .val (.ref en5), .unset] [(.ref en15), (.ref en5)])) X39 hx rfl rfl rfl (pc0 := 31) (pc' := 34) (same := false) rfl (hb hby at_31) rfl (decide_eq_false fun q => (Fld.ne F5 F15 (by decide)) (Value.ref.inj q)) (by decide) (by decide) k) ?_
    show Go FrameEnd p e below s 0 0 (Q0 Z p1 en0 en1 en2 en3 en4 en5 en6 en7 en8 en9 en10 en11 en12 en13 en14 en15 en16 en17 en18 en19 en20 en21 h0 n0) (T39.setTop (mkF m 34 #[.val (.int p1), .val (.int ((p1 &&& (2147483647 : Int32)) % (22 : Int32))), .val (.ref en5), .unset] []))
    refine Go.step (fun _ k => XS.aloadN X39.here hx rfl (hb hby at_34) rfl rfl k) ?_
    show Go FrameEnd p e below s 0 0 (Q0 Z p1 en0 en1 en2 en3 en4 en5 en6 en7 en8 en9 en10 en11 en12 en13 en14 en15 en16 en17 en18 en19 en20 en21 h0 n0) (T39.setTop (mkF m 35 #[.val (.int p1), .val (.int ((p1 &&& (2147483647 : Int32)) % (22 : Int32))), .val (.ref en5), .unset] [(.ref en5)]))
    obtain ⟨T40, X40, e40, st40⟩ := getS2 X39 hx hZ hown (host := "") (Or.inl (hw _ (List.mem_of_getElem? (i := 14) rfl))) Via.refl e39 S16 (g := (mkF m 35 #[.val (.int p1), .val (.int ((p1 &&& (2147483647 : Int32)) % (22 : Int32))), .val (.ref en5), .unset] [(.ref en5)])) rfl (hb hby at_35)
    refine Go.step st40 ?_
    show Go FrameEnd p e below s 0 0 (Q0 Z p1 en0 en1 en2 en3 en4 en5 en6 en7 en8 en9 en10 en11 en12 en13 en14 en15 en16 en17 en18 en19 en20 en21 h0 n0) (T40.setTop (mkF m 38 #[.val (.int p1), .val (.int ((p1 &&& (2147483647 : Int32)) % (22 : Int32))), .val (.ref en5), .unset] [(.ref en16), (.ref en5)]))
    refine Go.step (fun _ k => Jvm.RoadKit.acmp (g := (mkF m 38 #[.val (.int p1), .val (.int ((p1 &&& (2147483647 : Int32)) % (22 : Int32))), .val (.ref en5), .unset] [(.ref en16), (.ref en5)])) X40 hx rfl rfl rfl (pc0 := 38) (pc' := 41) (same := false) rfl (hb hby at_38) rfl (decide_eq_false fun q => (Fld.ne F5 F16 (by decide)) (Value.ref.inj q)) (by decide) (by decide) k) ?_
    show Go FrameEnd p e below s 0 0 (Q0 Z p1 en0 en1 en2 en3 en4 en5 en6 en7 en8 en9 en10 en11 en12 en13 en14 en15 en16 en17 en18 en19 en20 en21 h0 n0) (T40.setTop (mkF m 41 #[.val (.int p1), .val (.int ((p1 &&& (2147483647 : Int32)) % (22 : Int32))), .val (.ref en5), .unset] []))
    refine Go.step (fun _ k => XS.aloadN X40.here hx rfl (hb hby at_41) rfl rfl k) ?_
    show Go FrameEnd p e below s 0 0 (Q0 Z p1 en0 en1 en2 en3 en4 en5 en6 en7 en8 en9 en10 en11 en12 en13 en14 en15 en16 en17 en18 en19 en20 en21 h0 n0) (T40.setTop (mkF m 42 #[.val (.int p1), .val (.int ((p1 &&& (2147483647 : Int32)) % (22 : Int32))), .val (.ref en5), .unset] [(.ref en5)]))
    obtain ⟨T41, X41, e41, st41⟩ := getS2 X40 hx hZ hown (host := "") (Or.inl (hw _ (List.mem_of_getElem? (i := 16) rfl))) Via.refl e40 S17 (g := (mkF m 42 #[.val (.int p1), .val (.int ((p1 &&& (2147483647 : Int32)) % (22 : Int32))), .val (.ref en5), .unset] [(.ref en5)])) rfl (hb hby at_42)
    refine Go.step st41 ?_
    show Go FrameEnd p e below s 0 0 (Q0 Z p1 en0 en1 en2 en3 en4 en5 en6 en7 en8 en9 en10 en11 en12 en13 en14 en15 en16 en17 en18 en19 en20 en21 h0 n0) (T41.setTop (mkF m 45 #[.val (.int p1), .val (.int ((p1 &&& (2147483647 : Int32)) % (22 : Int32))), .val (.ref en5), .unset] [(.ref en17), (.ref en5)]))
    refine Go.step (fun _ k => Jvm.RoadKit.acmp (g := (mkF m 45 #[.val (.int p1), .val (.int ((p1 &&& (2147483647 : Int32)) % (22 : Int32))), .val (.ref en5), .unset] [(.ref en17), (.ref en5)])) X41 hx rfl rfl rfl (pc0 := 45) (pc' := 48) (same := false) rfl (hb hby at_45) rfl (decide_eq_false fun q => (Fld.ne F5 F17 (by decide)) (Value.ref.inj q)) (by decide) (by decide) k) ?_
    show Go FrameEnd p e below s 0 0 (Q0 Z p1 en0 en1 en2 en3 en4 en5 en6 en7 en8 en9 en10 en11 en12 en13 en14 en15 en16 en17 en18 en19 en20 en21 h0 n0) (T41.setTop (mkF m 48 #[.val (.int p1), .val (.int ((p1 &&& (2147483647 : Int32)) % (22 : Int32))), .val (.ref en5), .unset] []))
    refine Go.step (fun _ k => XS.aloadN X41.here hx rfl (hb hby at_48) rfl rfl k) ?_
    show Go FrameEnd p e below s 0 0 (Q0 Z p1 en0 en1 en2 en3 en4 en5 en6 en7 en8 en9 en10 en11 en12 en13 en14 en15 en16 en17 en18 en19 en20 en21 h0 n0) (T41.setTop (mkF m 49 #[.val (.int p1), .val (.int ((p1 &&& (2147483647 : Int32)) % (22 : Int32))), .val (.ref en5), .unset] [(.ref en5)]))
    obtain ⟨T42, X42, e42, st42⟩ := getS2 X41 hx hZ hown (host := "") (Or.inl (hw _ (List.mem_of_getElem? (i := 18) rfl))) Via.refl e41 S18 (g := (mkF m 49 #[.val (.int p1), .val (.int ((p1 &&& (2147483647 : Int32)) % (22 : Int32))), .val (.ref en5), .unset] [(.ref en5)])) rfl (hb hby at_49)
    refine Go.step st42 ?_
    show Go FrameEnd p e below s 0 0 (Q0 Z p1 en0 en1 en2 en3 en4 en5 en6 en7 en8 en9 en10 en11 en12 en13 en14 en15 en16 en17 en18 en19 en20 en21 h0 n0) (T42.setTop (mkF m 52 #[.val (.int p1), .val (.int ((p1 &&& (2147483647 : Int32)) % (22 : Int32))), .val (.ref en5), .unset] [(.ref en18), (.ref en5)]))
    refine Go.step (fun _ k => Jvm.RoadKit.acmp (g := (mkF m 52 #[.val (.int p1), .val (.int ((p1 &&& (2147483647 : Int32)) % (22 : Int32))), .val (.ref en5), .unset] [(.ref en18), (.ref en5)])) X42 hx rfl rfl rfl (pc0 := 52) (pc' := 59) (same := false) rfl (hb hby at_52) rfl (decide_eq_false fun q => (Fld.ne F5 F18 (by decide)) (Value.ref.inj q)) (by decide) (by decide) k) ?_
    show Go FrameEnd p e below s 0 0 (Q0 Z p1 en0 en1 en2 en3 en4 en5 en6 en7 en8 en9 en10 en11 en12 en13 en14 en15 en16 en17 en18 en19 en20 en21 h0 n0) (T42.setTop (mkF m 59 #[.val (.int p1), .val (.int ((p1 &&& (2147483647 : Int32)) % (22 : Int32))), .val (.ref en5), .unset] []))
    refine Go.step (fun _ k => XS.iconst X42.here hx rfl (hb hby at_59) k) ?_
    show Go FrameEnd p e below s 0 0 (Q0 Z p1 en0 en1 en2 en3 en4 en5 en6 en7 en8 en9 en10 en11 en12 en13 en14 en15 en16 en17 en18 en19 en20 en21 h0 n0) (T42.setTop (mkF m 60 #[.val (.int p1), .val (.int ((p1 &&& (2147483647 : Int32)) % (22 : Int32))), .val (.ref en5), .unset] [(.int (0 : Int32))]))
    refine Go.step (fun _ k => XS.istoreN X42.here hx rfl (hb hby at_60) rfl (l' := #[.val (.int p1), .val (.int ((p1 &&& (2147483647 : Int32)) % (22 : Int32))), .val (.ref en5), .val (.int (0 : Int32))]) rfl k) ?_
    show Go FrameEnd p e below s 0 0 (Q0 Z p1 en0 en1 en2 en3 en4 en5 en6 en7 en8 en9 en10 en11 en12 en13 en14 en15 en16 en17 en18 en19 en20 en21 h0 n0) (T42.setTop (mkF m 61 #[.val (.int p1), .val (.int ((p1 &&& (2147483647 : Int32)) % (22 : Int32))), .val (.ref en5), .val (.int (0 : Int32))] []))
    refine Go.step (fun _ k => XS.aloadN X42.here hx rfl (hb hby at_61) rfl rfl k) ?_
    show Go FrameEnd p e below s 0 0 (Q0 Z p1 en0 en1 en2 en3 en4 en5 en6 en7 en8 en9 en10 en11 en12 en13 en14 en15 en16 en17 en18 en19 en20 en21 h0 n0) (T42.setTop (mkF m 62 #[.val (.int p1), .val (.int ((p1 &&& (2147483647 : Int32)) % (22 : Int32))), .val (.ref en5), .val (.int (0 : Int32))] [(.ref en5)]))
    obtain ⟨cq43, kq43, q43a, q43b, q43c⟩ := isOf hZ e42 E5
    obtain ⟨_, _, ⟨T43, L43, k43, n43⟩, -, X43, ⟨Lc43, hQ43, l43, y43, z43⟩, st43⟩ := X42.virtualBack hx (y := (⟨"deckmill/Card", "asksChoice", "()Z"⟩ : MethodName)) (z := (⟨"deckmill/Card", "asksChoice", "()Z"⟩ : MethodName)) hown (mvT hZ (hw _ (List.mem_of_getElem? (i := 20) rfl))) (mvT hZ (hw _ (List.mem_of_getElem? (i := 21) rfl))) (notFace_of_selects (args := #[]) (mvT hZ (hw _ (List.mem_of_getElem? (i := 23) rfl)))) (mvT hZ (hw _ (List.mem_of_getElem? (i := 23) rfl))) (mvT hZ (hw _ (List.mem_of_getElem? (i := 22) rfl))) (by decide) (backOf (W := 0) (rm2n l Z a0 hw [] en5  h0 C5) hZ (hw _ (List.mem_of_getElem? (i := 24) rfl)) (hw _ (List.mem_of_getElem? (i := 6) rfl)) (by decide) (by decide)) q43a q43c (g := (mkF m 62 #[.val (.int p1), .val (.int ((p1 &&& (2147483647 : Int32)) % (22 : Int32))), .val (.ref en5), .val (.int (0 : Int32))] [(.ref en5)])) rfl (by rw [hml]; rfl) (Steps.refl _) (argsL := []) (rest := []) (lenOf pd___Z rfl) rfl (by show 2 * 0 + _ ≤ _; exact Nat.le_of_eq rfl) (hb hby at_62) (fun _ _ => ⟨rfl, e42, (by decide : 0 + 0 ≤ _), (by decide : 0 + 0 ≤ _)⟩)
    dsimp only [Pt.U, Pt.locs, Pt.cells, Pt.slots] at X43 l43 y43 z43 st43 hQ43
    subst l43 y43 z43
    obtain ⟨rfl, rfl, e43⟩ := hQ43
    have N43 := Fr.app N1 (Fr.nil n0)
    refine Go.hop st43 ?_
    show Go FrameEnd p e below s 0 0 (Q0 Z p1 en0 en1 en2 en3 en4 en5 en6 en7 en8 en9 en10 en11 en12 en13 en14 en15 en16 en17 en18 en19 en20 en21 h0 n0) (T43.setTop (mkF m 65 #[.val (.int p1), .val (.int ((p1 &&& (2147483647 : Int32)) % (22 : Int32))), .val (.ref en5), .val (.int (0 : Int32))] [(.int (0 : Int32))]))
    refine Go.step (fun _ k => XS.iloadN X43.here hx rfl (hb hby at_65) rfl k) ?_
    show Go FrameEnd p e below s 0 0 (Q0 Z p1 en0 en1 en2 en3 en4 en5 en6 en7 en8 en9 en10 en11 en12 en13 en14 en15 en16 en17 en18 en19 en20 en21 h0 n0) (T43.setTop (mkF m 66 #[.val (.int p1), .val (.int ((p1 &&& (2147483647 : Int32)) % (22 : Int32))), .val (.ref en5), .val (.int (0 : Int32))] [(.int (0 : Int32)), (.int (0 : Int32))]))
    refine Go.step (fun _ k => XS.icmpNo X43.here hx rfl (hb hby at_66) rfl (teq rfl).2 k) ?_
    show Go FrameEnd p e below s 0 0 (Q0 Z p1 en0 en1 en2 en3 en4 en5 en6 en7 en8 en9 en10 en11 en12 en13 en14 en15 en16 en17 en18 en19 en20 en21 h0 n0) (T43.setTop (mkF m 69 #[.val (.int p1), .val (.int ((p1 &&& (2147483647 : Int32)) % (22 : Int32))), .val (.ref en5), .val (.int (0 : Int32))] []))
    refine Go.step (fun _ k => XS.iconst X43.here hx rfl (hb hby at_69) k) ?_
    show Go FrameEnd p e below s 0 0 (Q0 Z p1 en0 en1 en2 en3 en4 en5 en6 en7 en8 en9 en10 en11 en12 en13 en14 en15 en16 en17 en18 en19 en20 en21 h0 n0) (T43.setTop (mkF m 70 #[.val (.int p1), .val (.int ((p1 &&& (2147483647 : Int32)) % (22 : Int32))), .val (.ref en5), .val (.int (0 : Int32))] [(.int (1 : Int32))]))
    refine Go.step (fun _ k => XS.goto X43.here hx rfl (pc0 := 70) (pc' := 74) rfl (hb hby at_70) (by decide) (by decide) k) ?_
    show Go FrameEnd p e below s 0 0 (Q0 Z p1 en0 en1 en2 en3 en4 en5 en6 en7 en8 en9 en10 en11 en12 en13 en14 en15 en16 en17 en18 en19 en20 en21 h0 n0) (T43.setTop (mkF m 74 #[.val (.int p1), .val (.int ((p1 &&& (2147483647 : Int32)) % (22 : Int32))), .val (.ref en5), .val (.int (0 : Int32))] [(.int (1 : Int32))]))
    refine Go.retN X43 hx (t := .boolean) Bd.returns (by simp) (by decide) (hb hby at_74) (BodyLoose.notSynchronized Bd) e43 (by decide) (by decide) ?_
    exact ⟨rfl, N43⟩
  · skip
    rw [q]
    obtain ⟨⟨S0, E0, F0, C0⟩, ⟨S1, E1, F1, C1⟩, ⟨S2, E2, F2, C2⟩, ⟨S3, E3, F3, C3⟩, ⟨S4, E4, F4, C4⟩, ⟨S5, E5, F5, C5⟩, ⟨S6, E6, F6, C6⟩, ⟨S7, E7, F7, C7⟩, ⟨S8, E8, F8, C8⟩, ⟨S9, E9, F9, C9⟩, ⟨S10, E10, F10, C10⟩, ⟨S11, E11, F11, C11⟩, ⟨S12, E12, F12, C12⟩, ⟨S13, E13, F13, C13⟩, ⟨S14, E14, F14, C14⟩, ⟨S15, E15, F15, C15⟩, ⟨S16, E16, F16, C16⟩, ⟨S17, E17, F17, C17⟩, ⟨S18, E18, F18, C18⟩, ⟨S19, E19, F19, C19⟩, ⟨S20, E20, F20, C20⟩, ⟨S21, E21, F21, C21⟩⟩ := hC
    show Go FrameEnd p e below s 0 0 (Q0 Z p1 en0 en1 en2 en3 en4 en5 en6 en7 en8 en9 en10 en11 en12 en13 en14 en15 en16 en17 en18 en19 en20 en21 h0 n0) (T1.setTop (mkF m 12 #[.val (.int p1), .val (.int ((p1 &&& (2147483647 : Int32)) % (22 : Int32))), .unset, .unset] [(.ref en6)]))
    refine Go.step (fun _ k => XS.astoreN X1.here hx rfl (hb hby at_12) rfl rfl (l' := #[.val (.int p1), .val (.int ((p1 &&& (2147483647 : Int32)) % (22 : Int32))), .val (.ref en6), .unset]) rfl k) ?_
    show Go FrameEnd p e below s 0 0 (Q0 Z p1 en0 en1 en2 en3 en4 en5 en6 en7 en8 en9 en10 en11 en12 en13 en14 en15 en16 en17 en18 en19 en20 en21 h0 n0) (T1.setTop (mkF m 13 #[.val (.int p1), .val (.int ((p1 &&& (2147483647 : Int32)) % (22 : Int32))), .val (.ref en6), .unset] []))
    refine Go.step (fun _ k => XS.aloadN X1.here hx rfl (hb hby at_13) rfl rfl k) ?_
    show Go FrameEnd p e below s 0 0 (Q0 Z p1 en0 en1 en2 en3 en4 en5 en6 en7 en8 en9 en10 en11 en12 en13 en14 en15 en16 en17 en18 en19 en20 en21 h0 n0) (T1.setTop (mkF m 14 #[.val (.int p1), .val (.int ((p1 &&& (2147483647 : Int32)) % (22 : Int32))), .val (.ref en6), .unset] [(.ref en6)]))
    obtain ⟨T44, X44, e44, st44⟩ := getS2 X1 hx hZ hown (host := "") (Or.inl (hw _ (List.mem_of_getElem? (i := 8) rfl))) Via.refl e1 S13 (g := (mkF m 14 #[.val (.int p1), .val (.int ((p1 &&& (2147483647 : Int32)) % (22 : Int32))), .val (.ref en6), .unset] [(.ref en6)])) rfl (hb hby at_14)
    refine Go.step st44 ?_
    show Go FrameEnd p e below s 0 0 (Q0 Z p1 en0 en1 en2 en3 en4 en5 en6 en7 en8 en9 en10 en11 en12 en13 en14 en15 en16 en17 en18 en19 en20 en21 h0 n0) (T44.setTop (mkF m 17 #[.val (.int p1), .val (.int ((p1 &&& (2147483647 : Int32)) % (22 : Int32))), .val (.ref en6), .unset] [(.ref en13), (.ref en6)]))
    refine Go.step (fun _ k => Jvm.RoadKit.acmp (g := (mkF m 17 #[.val (.int p1), .val (.int ((p1 &&& (2147483647 : Int32)) % (22 : Int32))), .val (.ref en6), .unset] [(.ref en13), (.ref en6)])) X44 hx rfl rfl rfl (pc0 := 17) (pc' := 20) (same := false) rfl (hb hby at_17) rfl (decide_eq_false fun q => (Fld.ne F6 F13 (by decide)) (Value.ref.inj q)) (by decide) (by decide) k) ?_
    show Go FrameEnd p e below s 0 0 (Q0 Z p1 en0 en1 en2 en3 en4 en5 en6 en7 en8 en9 en10 en11 en12 en13 en14 en15 en16 en17 en18 en19 en20 en21 h0 n0) (T44.setTop (mkF m 20 #[.val (.int p1), .val (.int ((p1 &&& (2147483647 : Int32)) % (22 : Int32))), .val (.ref en6), .unset] []))
    refine Go.step (fun _ k => XS.aloadN X44.here hx rfl (hb hby at_20) rfl rfl k) ?_
    show Go FrameEnd p e below s 0 0 (Q0 Z p1 en0 en1 en2 en3 en4 en5 en6 en7 en8 en9 en10 en11 en12 en13 en14 en15 en16 en17 en18 en19 en20 en21 h0 n0) (T44.setTop (mkF m 21 #[.val (.int p1), .val (.int ((p1 &&& (2147483647 : Int32)) % (22 : Int32))), .val (.ref en6), .unset] [(.ref en6)]))
    obtain ⟨T45, X45, e45, st45⟩ := getS2 X44 hx hZ hown (host := "") (Or.inl (hw _ (List.mem_of_getElem? (i := 10) rfl))) Via.refl e44 S14 (g := (mkF m 21 #[.val (.int p1), .val (.int ((p1 &&& (2147483647 : Int32)) % (22 : Int32))), .val (.ref en6), .unset] [(.ref en6)])) rfl (hb hby at_21)
    refine Go.step st45 ?_
    show Go FrameEnd p e below s 0 0 (Q0 Z p1 en0 en1 en2 en3 en4 en5 en6 en7 en8 en9 en10 en11 en12 en13 en14 en15 en16 en17 en18 en19 en20 en21 h0 n0) (T45.setTop (mkF m 24 #[.val (.int p1), .val (.int ((p1 &&& (2147483647 : Int32)) % (22 : Int32))), .val (.ref en6), .unset] [(.ref en14), (.ref en6)]))
    refine Go.step (fun _ k => Jvm.RoadKit.acmp (g := (mkF m 24 #[.val (.int p1), .val (.int ((p1 &&& (2147483647 : Int32)) % (22 : Int32))), .val (.ref en6), .unset] [(.ref en14), (.ref en6)])) X45 hx rfl rfl rfl (pc0 := 24) (pc' := 27) (same := false) rfl (hb hby at_24) rfl (decide_eq_false fun q => (Fld.ne F6 F14 (by decide)) (Value.ref.inj q)) (by decide) (by decide) k) ?_
    show Go FrameEnd p e below s 0 0 (Q0 Z p1 en0 en1 en2 en3 en4 en5 en6 en7 en8 en9 en10 en11 en12 en13 en14 en15 en16 en17 en18 en19 en20 en21 h0 n0) (T45.setTop (mkF m 27 #[.val (.int p1), .val (.int ((p1 &&& (2147483647 : Int32)) % (22 : Int32))), .val (.ref en6), .unset] []))
    refine Go.step (fun _ k => XS.aloadN X45.here hx rfl (hb hby at_27) rfl rfl k) ?_
    show Go FrameEnd p e below s 0 0 (Q0 Z p1 en0 en1 en2 en3 en4 en5 en6 en7 en8 en9 en10 en11 en12 en13 en14 en15 en16 en17 en18 en19 en20 en21 h0 n0) (T45.setTop (mkF m 28 #[.val (.int p1), .val (.int ((p1 &&& (2147483647 : Int32)) % (22 : Int32))), .val (.ref en6), .unset] [(.ref en6)]))
    obtain ⟨T46, X46, e46, st46⟩ := getS2 X45 hx hZ hown (host := "") (Or.inl (hw _ (List.mem_of_getElem? (i := 12) rfl))) Via.refl e45 S15 (g := (mkF m 28 #[.val (.int p1), .val (.int ((p1 &&& (2147483647 : Int32)) % (22 : Int32))), .val (.ref en6), .unset] [(.ref en6)])) rfl (hb hby at_28)
    refine Go.step st46 ?_
    show Go FrameEnd p e below s 0 0 (Q0 Z p1 en0 en1 en2 en3 en4 en5 en6 en7 en8 en9 en10 en11 en12 en13 en14 en15 en16 en17 en18 en19 en20 en21 h0 n0) (T46.setTop (mkF m 31 #[.val (.int p1), .val (.int ((p1 &&& (2147483647 : Int32)) % (22 : Int32))), .val (.ref en6), .unset] [(.ref en15), (.ref en6)]))
    refine Go.step (fun _ k => Jvm.RoadKit.acmp (g := (mkF m 31 #[.val (.int p1), .val (.int ((p1 &&& (2147483647 : Int32)) % (22 : Int32))), .val (.ref en6), .unset] [(.ref en15), (.ref en6)])) X46 hx rfl rfl rfl (pc0 := 31) (pc' := 34) (same := false) rfl (hb hby at_31) rfl (decide_eq_false fun q => (Fld.ne F6 F15 (by decide)) (Value.ref.inj q)) (by decide) (by decide) k) ?_
    show Go FrameEnd p e below s 0 0 (Q0 Z p1 en0 en1 en2 en3 en4 en5 en6 en7 en8 en9 en10 en11 en12 en13 en14 en15 en16 en17 en18 en19 en20 en21 h0 n0) (T46.setTop (mkF m 34 #[.val (.int p1), .val (.int ((p1 &&& (2147483647 : Int32)) % (22 : Int32))), .val (.ref en6), .unset] []))
    refine Go.step (fun _ k => XS.aloadN X46.here hx rfl (hb hby at_34) rfl rfl k) ?_
    show Go FrameEnd p e below s 0 0 (Q0 Z p1 en0 en1 en2 en3 en4 en5 en6 en7 en8 en9 en10 en11 en12 en13 en14 en15 en16 en17 en18 en19 en20 en21 h0 n0) (T46.setTop (mkF m 35 #[.val (.int p1), .val (.int ((p1 &&& (2147483647 : Int32)) % (22 : Int32))), .val (.ref en6), .unset] [(.ref en6)]))
    obtain ⟨T47, X47, e47, st47⟩ := getS2 X46 hx hZ hown (host := "") (Or.inl (hw _ (List.mem_of_getElem? (i := 14) rfl))) Via.refl e46 S16 (g := (mkF m 35 #[.val (.int p1), .val (.int ((p1 &&& (2147483647 : Int32)) % (22 : Int32))), .val (.ref en6), .unset] [(.ref en6)])) rfl (hb hby at_35)
    refine Go.step st47 ?_
    show Go FrameEnd p e below s 0 0 (Q0 Z p1 en0 en1 en2 en3 en4 en5 en6 en7 en8 en9 en10 en11 en12 en13 en14 en15 en16 en17 en18 en19 en20 en21 h0 n0) (T47.setTop (mkF m 38 #[.val (.int p1), .val (.int ((p1 &&& (2147483647 : Int32)) % (22 : Int32))), .val (.ref en6), .unset] [(.ref en16), (.ref en6)]))
    refine Go.step (fun _ k => Jvm.RoadKit.acmp (g := (mkF m 38 #[.val (.int p1), .val (.int ((p1 &&& (2147483647 : Int32)) % (22 : Int32))), .val (.ref en6), .unset] [(.ref en16), (.ref en6)])) X47 hx rfl rfl rfl (pc0 := 38) (pc' := 41) (same := false) rfl (hb hby at_38) rfl (decide_eq_false fun q => (Fld.ne F6 F16 (by decide)) (Value.ref.inj q)) (by decide) (by decide) k) ?_
    show Go FrameEnd p e below s 0 0 (Q0 Z p1 en0 en1 en2 en3 en4 en5 en6 en7 en8 en9 en10 en11 en12 en13 en14 en15 en16 en17 en18 en19 en20 en21 h0 n0) (T47.setTop (mkF m 41 #[.val (.int p1), .val (.int ((p1 &&& (2147483647 : Int32)) % (22 : Int32))), .val (.ref en6), .unset] []))
    refine Go.step (fun _ k => XS.aloadN X47.here hx rfl (hb hby at_41) rfl rfl k) ?_
    show Go FrameEnd p e below s 0 0 (Q0 Z p1 en0 en1 en2 en3 en4 en5 en6 en7 en8 en9 en10 en11 en12 en13 en14 en15 en16 en17 en18 en19 en20 en21 h0 n0) (T47.setTop (mkF m 42 #[.val (.int p1), .val (.int ((p1 &&& (2147483647 : Int32)) % (22 : Int32))), .val (.ref en6), .unset] [(.ref en6)]))
    obtain ⟨T48, X48, e48, st48⟩ := getS2 X47 hx hZ hown (host := "") (Or.inl (hw _ (List.mem_of_getElem? (i := 16) rfl))) Via.refl e47 S17 (g := (mkF m 42 #[.val (.int p1), .val (.int ((p1 &&& (2147483647 : Int32)) % (22 : Int32))), .val (.ref en6), .unset] [(.ref en6)])) rfl (hb hby at_42)
    refine Go.step st48 ?_
    show Go FrameEnd p e below s 0 0 (Q0 Z p1 en0 en1 en2 en3 en4 en5 en6 en7 en8 en9 en10 en11 en12 en13 en14 en15 en16 en17 en18 en19 en20 en21 h0 n0) (T48.setTop (mkF m 45 #[.val (.int p1), .val (.int ((p1 &&& (2147483647 : Int32)) % (22 : Int32))), .val (.ref en6), .unset] [(.ref en17), (.ref en6)]))
    refine Go.step (fun _ k => Jvm.RoadKit.acmp (g := (mkF m 45 #[.val (.int p1), .val (.int ((p1 &&& (2147483647 : Int32)) % (22 : Int32))), .val (.ref en6), .unset] [(.ref en17), (.ref en6)])) X48 hx rfl rfl rfl (pc0 := 45) (pc' := 48) (same := false) rfl (hb hby at_45) rfl (decide_eq_false fun q => (Fld.ne F6 F17 (by decide)) (Value.ref.inj q)) (by decide) (by decide) k) ?_
    show Go FrameEnd p e below s 0 0 (Q0 Z p1 en0 en1 en2 en3 en4 en5 en6 en7 en8 en9 en10 en11 en12 en13 en14 en15 en16 en17 en18 en19 en20 en21 h0 n0) (T48.setTop (mkF m 48 #[.val (.int p1), .val (.int ((p1 &&& (2147483647 : Int32)) % (22 : Int32))), .val (.ref en6), .unset] []))
    refine Go.step (fun _ k => XS.aloadN X48.here hx rfl (hb hby at_48) rfl rfl k) ?_
    show Go FrameEnd p e below s 0 0 (Q0 Z p1 en0 en1 en2 en3 en4 en5 en6 en7 en8 en9 en10 en11 en12 en13 en14 en15 en16 en17 en18 en19 en20 en21 h0 n0) (T48.setTop (mkF m 49 #[.val (.int p1), .val (.int ((p1 &&& (2147483647 : Int32)) % (22 : Int32))), .val (.ref en6), .unset] [(.ref en6)]))
    obtain ⟨T49, X49, e49, st49⟩ := getS2 X48 hx hZ hown (host := "") (Or.inl (hw _ (List.mem_of_getElem? (i := 18) rfl))) Via.refl e48 S18 (g := (mkF m 49 #[.val (.int p1), .val (.int ((p1 &&& (2147483647 : Int32)) % (22 : Int32))), .val (.ref en6), .unset] [(.ref en6)])) rfl (hb hby at_49)
    refine Go.step st49 ?_
    show Go FrameEnd p e below s 0 0 (Q0 Z p1 en0 en1 en2 en3 en4 en5 en6 en7 en8 en9 en10 en11 en12 en13 en14 en15 en16 en17 en18 en19 en20 en21 h0 n0) (T49.setTop (mkF m 52 #[.val (.int p1), .val (.int ((p1 &&& (2147483647 : Int32)) % (22 : Int32))), .val (.ref en6), .unset] [(.ref en18), (.ref en6)]))
    refine Go.step (fun _ k => Jvm.RoadKit.acmp (g := (mkF m 52 #[.val (.int p1), .val (.int ((p1 &&& (2147483647 : Int32)) % (22 : Int32))), .val (.ref en6), .unset] [(.ref en18), (.ref en6)])) X49 hx rfl rfl rfl (pc0 := 52) (pc' := 59) (same := false) rfl (hb hby at_52) rfl (decide_eq_false fun q => (Fld.ne F6 F18 (by decide)) (Value.ref.inj q)) (by decide) (by decide) k) ?_
    show Go FrameEnd p e below s 0 0 (Q0 Z p1 en0 en1 en2 en3 en4 en5 en6 en7 en8 en9 en10 en11 en12 en13 en14 en15 en16 en17 en18 en19 en20 en21 h0 n0) (T49.setTop (mkF m 59 #[.val (.int p1), .val (.int ((p1 &&& (2147483647 : Int32)) % (22 : Int32))), .val (.ref en6), .unset] []))
    refine Go.step (fun _ k => XS.iconst X49.here hx rfl (hb hby at_59) k) ?_
    show Go FrameEnd p e below s 0 0 (Q0 Z p1 en0 en1 en2 en3 en4 en5 en6 en7 en8 en9 en10 en11 en12 en13 en14 en15 en16 en17 en18 en19 en20 en21 h0 n0) (T49.setTop (mkF m 60 #[.val (.int p1), .val (.int ((p1 &&& (2147483647 : Int32)) % (22 : Int32))), .val (.ref en6), .unset] [(.int (0 : Int32))]))
    refine Go.step (fun _ k => XS.istoreN X49.here hx rfl (hb hby at_60) rfl (l' := #[.val (.int p1), .val (.int ((p1 &&& (2147483647 : Int32)) % (22 : Int32))), .val (.ref en6), .val (.int (0 : Int32))]) rfl k) ?_
    show Go FrameEnd p e below s 0 0 (Q0 Z p1 en0 en1 en2 en3 en4 en5 en6 en7 en8 en9 en10 en11 en12 en13 en14 en15 en16 en17 en18 en19 en20 en21 h0 n0) (T49.setTop (mkF m 61 #[.val (.int p1), .val (.int ((p1 &&& (2147483647 : Int32)) % (22 : Int32))), .val (.ref en6), .val (.int (0 : Int32))] []))
    refine Go.step (fun _ k => XS.aloadN X49.here hx rfl (hb hby at_61) rfl rfl k) ?_
    show Go FrameEnd p e below s 0 0 (Q0 Z p1 en0 en1 en2 en3 en4 en5 en6 en7 en8 en9 en10 en11 en12 en13 en14 en15 en16 en17 en18 en19 en20 en21 h0 n0) (T49.setTop (mkF m 62 #[.val (.int p1), .val (.int ((p1 &&& (2147483647 : Int32)) % (22 : Int32))), .val (.ref en6), .val (.int (0 : Int32))] [(.ref en6)]))
    obtain ⟨cq50, kq50, q50a, q50b, q50c⟩ := isOf hZ e49 E6
    obtain ⟨_, _, ⟨T50, L50, k50, n50⟩, -, X50, ⟨Lc50, hQ50, l50, y50, z50⟩, st50⟩ := X49.virtualBack hx (y := (⟨"deckmill/Card", "asksChoice", "()Z"⟩ : MethodName)) (z := (⟨"deckmill/Card", "asksChoice", "()Z"⟩ : MethodName)) hown (mvT hZ (hw _ (List.mem_of_getElem? (i := 20) rfl))) (mvT hZ (hw _ (List.mem_of_getElem? (i := 21) rfl))) (notFace_of_selects (args := #[]) (mvT hZ (hw _ (List.mem_of_getElem? (i := 23) rfl)))) (mvT hZ (hw _ (List.mem_of_getElem? (i := 23) rfl))) (mvT hZ (hw _ (List.mem_of_getElem? (i := 22) rfl))) (by decide) (backOf (W := 0) (rm2n l Z a0 hw [] en6  h0 C6) hZ (hw _ (List.mem_of_getElem? (i := 24) rfl)) (hw _ (List.mem_of_getElem? (i := 6) rfl)) (by decide) (by decide)) q50a q50c (g := (mkF m 62 #[.val (.int p1), .val (.int ((p1 &&& (2147483647 : Int32)) % (22 : Int32))), .val (.ref en6), .val (.int (0 : Int32))] [(.ref en6)])) rfl (by rw [hml]; rfl) (Steps.refl _) (argsL := []) (rest := []) (lenOf pd___Z rfl) rfl (by show 2 * 0 + _ ≤ _; exact Nat.le_of_eq rfl) (hb hby at_62) (fun _ _ => ⟨rfl, e49, (by decide : 0 + 0 ≤ _), (by decide : 0 + 0 ≤ _)⟩)
    dsimp only [Pt.U, Pt.locs, Pt.cells, Pt.slots] at X50 l50 y50 z50 st50 hQ50
    subst l50 y50 z50
    obtain ⟨rfl, rfl, e50⟩ := hQ50
    have N50 := Fr.app N1 (Fr.nil n0)
    refine Go.hop st50 ?_
    show Go FrameEnd p e below s 0 0 (Q0 Z p1 en0 en1 en2 en3 en4 en5 en6 en7 en8 en9 en10 en11 en12 en13 en14 en15 en16 en17 en18 en19 en20 en21 h0 n0) (T50.setTop (mkF m 65 #[.val (.int p1), .val (.int ((p1 &&& (2147483647 : Int32)) % (22 : Int32))), .val (.ref en6), .val (.int (0 : Int32))] [(.int (0 : Int32))]))
    refine Go.step (fun _ k => XS.iloadN X50.here hx rfl (hb hby at_65) rfl k) ?_
    show Go FrameEnd p e below s 0 0 (Q0 Z p1 en0 en1 en2 en3 en4 en5 en6 en7 en8 en9 en10 en11 en12 en13 en14 en15 en16 en17 en18 en19 en20 en21 h0 n0) (T50.setTop (mkF m 66 #[.val (.int p1), .val (.int ((p1 &&& (2147483647 : Int32)) % (22 : Int32))), .val (.ref en6), .val (.int (0 : Int32))] [(.int (0 : Int32)), (.int (0 : Int32))]))
    refine Go.step (fun _ k => XS.icmpNo X50.here hx rfl (hb hby at_66) rfl (teq rfl).2 k) ?_
    show Go FrameEnd p e below s 0 0 (Q0 Z p1 en0 en1 en2 en3 en4 en5 en6 en7 en8 en9 en10 en11 en12 en13 en14 en15 en16 en17 en18 en19 en20 en21 h0 n0) (T50.setTop (mkF m 69 #[.val (.int p1), .val (.int ((p1 &&& (2147483647 : Int32)) % (22 : Int32))), .val (.ref en6), .val (.int (0 : Int32))] []))
    refine Go.step (fun _ k => XS.iconst X50.here hx rfl (hb hby at_69) k) ?_
    show Go FrameEnd p e below s 0 0 (Q0 Z p1 en0 en1 en2 en3 en4 en5 en6 en7 en8 en9 en10 en11 en12 en13 en14 en15 en16 en17 en18 en19 en20 en21 h0 n0) (T50.setTop (mkF m 70 #[.val (.int p1), .val (.int ((p1 &&& (2147483647 : Int32)) % (22 : Int32))), .val (.ref en6), .val (.int (0 : Int32))] [(.int (1 : Int32))]))
    refine Go.step (fun _ k => XS.goto X50.here hx rfl (pc0 := 70) (pc' := 74) rfl (hb hby at_70) (by decide) (by decide) k) ?_
    show Go FrameEnd p e below s 0 0 (Q0 Z p1 en0 en1 en2 en3 en4 en5 en6 en7 en8 en9 en10 en11 en12 en13 en14 en15 en16 en17 en18 en19 en20 en21 h0 n0) (T50.setTop (mkF m 74 #[.val (.int p1), .val (.int ((p1 &&& (2147483647 : Int32)) % (22 : Int32))), .val (.ref en6), .val (.int (0 : Int32))] [(.int (1 : Int32))]))
    refine Go.retN X50 hx (t := .boolean) Bd.returns (by simp) (by decide) (hb hby at_74) (BodyLoose.notSynchronized Bd) e50 (by decide) (by decide) ?_
    exact ⟨rfl, N50⟩
  · skip
    rw [q]
    obtain ⟨⟨S0, E0, F0, C0⟩, ⟨S1, E1, F1, C1⟩, ⟨S2, E2, F2, C2⟩, ⟨S3, E3, F3, C3⟩, ⟨S4, E4, F4, C4⟩, ⟨S5, E5, F5, C5⟩, ⟨S6, E6, F6, C6⟩, ⟨S7, E7, F7, C7⟩, ⟨S8, E8, F8, C8⟩, ⟨S9, E9, F9, C9⟩, ⟨S10, E10, F10, C10⟩, ⟨S11, E11, F11, C11⟩, ⟨S12, E12, F12, C12⟩, ⟨S13, E13, F13, C13⟩, ⟨S14, E14, F14, C14⟩, ⟨S15, E15, F15, C15⟩, ⟨S16, E16, F16, C16⟩, ⟨S17, E17, F17, C17⟩, ⟨S18, E18, F18, C18⟩, ⟨S19, E19, F19, C19⟩, ⟨S20, E20, F20, C20⟩, ⟨S21, E21, F21, C21⟩⟩ := hC
    show Go FrameEnd p e below s 0 0 (Q0 Z p1 en0 en1 en2 en3 en4 en5 en6 en7 en8 en9 en10 en11 en12 en13 en14 en15 en16 en17 en18 en19 en20 en21 h0 n0) (T1.setTop (mkF m 12 #[.val (.int p1), .val (.int ((p1 &&& (2147483647 : Int32)) % (22 : Int32))), .unset, .unset] [(.ref en7)]))
    refine Go.step (fun _ k => XS.astoreN X1.here hx rfl (hb hby at_12) rfl rfl (l' := #[.val (.int p1), .val (.int ((p1 &&& (2147483647 : Int32)) % (22 : Int32))), .val (.ref en7), .unset]) rfl k) ?_
    show Go FrameEnd p e below s 0 0 (Q0 Z p1 en0 en1 en2 en3 en4 en5 en6 en7 en8 en9 en10 en11 en12 en13 en14 en15 en16 en17 en18 en19 en20 en21 h0 n0) (T1.setTop (mkF m 13 #[.val (.int p1), .val (.int ((p1 &&& (2147483647 : Int32)) % (22 : Int32))), .val (.ref en7), .unset] []))
    refine Go.step (fun _ k => XS.aloadN X1.here hx rfl (hb hby at_13) rfl rfl k) ?_
    show Go FrameEnd p e below s 0 0 (Q0 Z p1 en0 en1 en2 en3 en4 en5 en6 en7 en8 en9 en10 en11 en12 en13 en14 en15 en16 en17 en18 en19 en20 en21 h0 n0) (T1.setTop (mkF m 14 #[.val (.int p1), .val (.int ((p1 &&& (2147483647 : Int32)) % (22 : Int32))), .val (.ref en7), .unset] [(.ref en7)]))
    obtain ⟨T51, X51, e51, st51⟩ := getS2 X1 hx hZ hown (host := "") (Or.inl (hw _ (List.mem_of_getElem? (i := 8) rfl))) Via.refl e1 S13 (g := (mkF m 14 #[.val (.int p1), .val (.int ((p1 &&& (2147483647 : Int32)) % (22 : Int32))), .val (.ref en7), .unset] [(.ref en7)])) rfl (hb hby at_14)
    refine Go.step st51 ?_
    show Go FrameEnd p e below s 0 0 (Q0 Z p1 en0 en1 en2 en3 en4 en5 en6 en7 en8 en9 en10 en11 en12 en13 en14 en15 en16 en17 en18 en19 en20 en21 h0 n0) (T51.setTop (mkF m 17 #[.val (.int p1), .val (.int ((p1 &&& (2147483647 : Int32)) % (22 : Int32))), .val (.ref en7), .unset] [(.ref en13), (.ref en7)]))
    refine Go.step (fun _ k => Jvm.RoadKit.acmp (g := (mkF m 17 #[.val (.int p1), .val (.int ((p1 &&& (2147483647 : Int32)) % (22 : Int32))), .val (.ref en7), .unset] [(.ref en13), (.ref en7)])) X51 hx rfl rfl rfl (pc0 := 17) (pc' := 20) (same := false) rfl (hb hby at_17) rfl (decide_eq_false fun q => (Fld.ne F7 F13 (by decide)) (Value.ref.inj q)) (by decide) (by decide) k) ?_
    show Go FrameEnd p e below s 0 0 (Q0 Z p1 en0 en1 en2 en3 en4 en5 en6 en7 en8 en9 en10 en11 en12 en13 en14 en15 en16 en17 en18 en19 en20 en21 h0 n0) (T51.setTop (mkF m 20 #[.val (.int p1), .val (.int ((p1 &&& (2147483647 : Int32)) % (22 : Int32))), .val (.ref en7), .unset] []))
    refine Go.step (fun _ k => XS.aloadN X51.here hx rfl (hb hby at_20) rfl rfl k) ?_
    show Go FrameEnd p e below s 0 0 (Q0 Z p1 en0 en1 en2 en3 en4 en5 en6 en7 en8 en9 en10 en11 en12 en13 en14 en15 en16 en17 en18 en19 en20 en21 h0 n0) (T51.setTop (mkF m 21 #[.val (.int p1), .val (.int ((p1 &&& (2147483647 : Int32)) % (22 : Int32))), .val (.ref en7), .unset] [(.ref en7)]))
    obtain ⟨T52, X52, e52, st52⟩ := getS2 X51 hx hZ hown (host := "") (Or.inl (hw _ (List.mem_of_getElem? (i := 10) rfl))) Via.refl e51 S14 (g := (mkF m 21 #[.val (.int p1), .val (.int ((p1 &&& (2147483647 : Int32)) % (22 : Int32))), .val (.ref en7), .unset] [(.ref en7)])) rfl (hb hby at_21)
    refine Go.step st52 ?_
    show Go FrameEnd p e below s 0 0 (Q0 Z p1 en0 en1 en2 en3 en4 en5 en6 en7 en8 en9 en10 en11 en12 en13 en14 en15 en16 en17 en18 en19 en20 en21 h0 n0) (T52.setTop (mkF m 24 #[.val (.int p1), .val (.int ((p1 &&& (2147483647 : Int32)) % (22 : Int32))), .val (.ref en7), .unset] [(.ref en14), (.ref en7)]))
    refine Go.step (fun _ k => Jvm.RoadKit.acmp (g := (mkF m 24 #[.val (.int p1), .val (.int ((p1 &&& (2147483647 : Int32)) % (22 : Int32))), .val (.ref en7), .unset] [(.ref en14), (.ref en7)])) X52 hx rfl rfl rfl (pc0 := 24) (pc' := 27) (same := false) rfl (hb hby at_24) rfl (decide_eq_false fun q => (Fld.ne F7 F14 (by decide)) (Value.ref.inj q)) (by decide) (by decide) k) ?_
    show Go FrameEnd p e below s 0 0 (Q0 Z p1 en0 en1 en2 en3 en4 en5 en6 en7 en8 en9 en10 en11 en12 en13 en14 en15 en16 en17 en18 en19 en20 en21 h0 n0) (T52.setTop (mkF m 27 #[.val (.int p1), .val (.int ((p1 &&& (2147483647 : Int32)) % (22 : Int32))), .val (.ref en7), .unset] []))
    refine Go.step (fun _ k => XS.aloadN X52.here hx rfl (hb hby at_27) rfl rfl k) ?_
    show Go FrameEnd p e below s 0 0 (Q0 Z p1 en0 en1 en2 en3 en4 en5 en6 en7 en8 en9 en10 en11 en12 en13 en14 en15 en16 en17 en18 en19 en20 en21 h0 n0) (T52.setTop (mkF m 28 #[.val (.int p1), .val (.int ((p1 &&& (2147483647 : Int32)) % (22 : Int32))), .val (.ref en7), .unset] [(.ref en7)]))
    obtain ⟨T53, X53, e53, st53⟩ := getS2 X52 hx hZ hown (host := "") (Or.inl (hw _ (List.mem_of_getElem? (i := 12) rfl))) Via.refl e52 S15 (g := (mkF m 28 #[.val (.int p1), .val (.int ((p1 &&& (2147483647 : Int32)) % (22 : Int32))), .val (.ref en7), .unset] [(.ref en7)])) rfl (hb hby at_28)
    refine Go.step st53 ?_
    show Go FrameEnd p e below s 0 0 (Q0 Z p1 en0 en1 en2 en3 en4 en5 en6 en7 en8 en9 en10 en11 en12 en13 en14 en15 en16 en17 en18 en19 en20 en21 h0 n0) (T53.setTop (mkF m 31 #[.val (.int p1), .val (.int ((p1 &&& (2147483647 : Int32)) % (22 : Int32))), .val (.ref en7), .unset] [(.ref en15), (.ref en7)]))
    refine Go.step (fun _ k => Jvm.RoadKit.acmp (g := (mkF m 31 #[.val (.int p1), .val (.int ((p1 &&& (2147483647 : Int32)) % (22 : Int32))), .val (.ref en7), .unset] [(.ref en15), (.ref en7)])) X53 hx rfl rfl rfl (pc0 := 31) (pc' := 34) (same := false) rfl (hb hby at_31) rfl (decide_eq_false fun q => (Fld.ne F7 F15 (by decide)) (Value.ref.inj q)) (by decide) (by decide) k) ?_
    show Go FrameEnd p e below s 0 0 (Q0 Z p1 en0 en1 en2 en3 en4 en5 en6 en7 en8 en9 en10 en11 en12 en13 en14 en15 en16 en17 en18 en19 en20 en21 h0 n0) (T53.setTop (mkF m 34 #[.val (.int p1), .val (.int ((p1 &&& (2147483647 : Int32)) % (22 : Int32))), .val (.ref en7), .unset] []))
    refine Go.step (fun _ k => XS.aloadN X53.here hx rfl (hb hby at_34) rfl rfl k) ?_
    show Go FrameEnd p e below s 0 0 (Q0 Z p1 en0 en1 en2 en3 en4 en5 en6 en7 en8 en9 en10 en11 en12 en13 en14 en15 en16 en17 en18 en19 en20 en21 h0 n0) (T53.setTop (mkF m 35 #[.val (.int p1), .val (.int ((p1 &&& (2147483647 : Int32)) % (22 : Int32))), .val (.ref en7), .unset] [(.ref en7)]))
    obtain ⟨T54, X54, e54, st54⟩ := getS2 X53 hx hZ hown (host := "") (Or.inl (hw _ (List.mem_of_getElem? (i := 14) rfl))) Via.refl e53 S16 (g := (mkF m 35 #[.val (.int p1), .val (.int ((p1 &&& (2147483647 : Int32)) % (22 : Int32))), .val (.ref en7), .unset] [(.ref en7)])) rfl (hb hby at_35)
    refine Go.step st54 ?_
    show Go FrameEnd p e below s 0 0 (Q0 Z p1 en0 en1 en2 en3 en4 en5 en6 en7 en8 en9 en10 en11 en12 en13 en14 en15 en16 en17 en18 en19 en20 en21 h0 n0) (T54.setTop (mkF m 38 #[.val (.int p1), .val (.int ((p1 &&& (2147483647 : Int32)) % (22 : Int32))), .val (.ref en7), .unset] [(.ref en16), (.ref en7)]))
    refine Go.step (fun _ k => Jvm.RoadKit.acmp (g := (mkF m 38 #[.val (.int p1), .val (.int ((p1 &&& (2147483647 : Int32)) % (22 : Int32))), .val (.ref en7), .unset] [(.ref en16), (.ref en7)])) X54 hx rfl rfl rfl (pc0 := 38) (pc' := 41) (same := false) rfl (hb hby at_38) rfl (decide_eq_false fun q => (Fld.ne F7 F16 (by decide)) (Value.ref.inj q)) (by decide) (by decide) k) ?_
    show Go FrameEnd p e below s 0 0 (Q0 Z p1 en0 en1 en2 en3 en4 en5 en6 en7 en8 en9 en10 en11 en12 en13 en14 en15 en16 en17 en18 en19 en20 en21 h0 n0) (T54.setTop (mkF m 41 #[.val (.int p1), .val (.int ((p1 &&& (2147483647 : Int32)) % (22 : Int32))), .val (.ref en7), .unset] []))
    refine Go.step (fun _ k => XS.aloadN X54.here hx rfl (hb hby at_41) rfl rfl k) ?_
    show Go FrameEnd p e below s 0 0 (Q0 Z p1 en0 en1 en2 en3 en4 en5 en6 en7 en8 en9 en10 en11 en12 en13 en14 en15 en16 en17 en18 en19 en20 en21 h0 n0) (T54.setTop (mkF m 42 #[.val (.int p1), .val (.int ((p1 &&& (2147483647 : Int32)) % (22 : Int32))), .val (.ref en7), .unset] [(.ref en7)]))
    obtain ⟨T55, X55, e55, st55⟩ := getS2 X54 hx hZ hown (host := "") (Or.inl (hw _ (List.mem_of_getElem? (i := 16) rfl))) Via.refl e54 S17 (g := (mkF m 42 #[.val (.int p1), .val (.int ((p1 &&& (2147483647 : Int32)) % (22 : Int32))), .val (.ref en7), .unset] [(.ref en7)])) rfl (hb hby at_42)
    refine Go.step st55 ?_
    show Go FrameEnd p e below s 0 0 (Q0 Z p1 en0 en1 en2 en3 en4 en5 en6 en7 en8 en9 en10 en11 en12 en13 en14 en15 en16 en17 en18 en19 en20 en21 h0 n0) (T55.setTop (mkF m 45 #[.val (.int p1), .val (.int ((p1 &&& (2147483647 : Int32)) % (22 : Int32))), .val (.ref en7), .unset] [(.ref en17), (.ref en7)]))
    refine Go.step (fun _ k => Jvm.RoadKit.acmp (g := (mkF m 45 #[.val (.int p1), .val (.int ((p1 &&& (2147483647 : Int32)) % (22 : Int32))), .val (.ref en7), .unset] [(.ref en17), (.ref en7)])) X55 hx rfl rfl rfl (pc0 := 45) (pc' := 48) (same := false) rfl (hb hby at_45) rfl (decide_eq_false fun q => (Fld.ne F7 F17 (by decide)) (Value.ref.inj q)) (by decide) (by decide) k) ?_
    show Go FrameEnd p e below s 0 0 (Q0 Z p1 en0 en1 en2 en3 en4 en5 en6 en7 en8 en9 en10 en11 en12 en13 en14 en15 en16 en17 en18 en19 en20 en21 h0 n0) (T55.setTop (mkF m 48 #[.val (.int p1), .val (.int ((p1 &&& (2147483647 : Int32)) % (22 : Int32))), .val (.ref en7), .unset] []))
    refine Go.step (fun _ k => XS.aloadN X55.here hx rfl (hb hby at_48) rfl rfl k) ?_
    show Go FrameEnd p e below s 0 0 (Q0 Z p1 en0 en1 en2 en3 en4 en5 en6 en7 en8 en9 en10 en11 en12 en13 en14 en15 en16 en17 en18 en19 en20 en21 h0 n0) (T55.setTop (mkF m 49 #[.val (.int p1), .val (.int ((p1 &&& (2147483647 : Int32)) % (22 : Int32))), .val (.ref en7), .unset] [(.ref en7)]))
    obtain ⟨T56, X56, e56, st56⟩ := getS2 X55 hx hZ hown (host := "") (Or.inl (hw _ (List.mem_of_getElem? (i := 18) rfl))) Via.refl e55 S18 (g := (mkF m 49 #[.val (.int p1), .val (.int ((p1 &&& (2147483647 : Int32)) % (22 : Int32))), .val (.ref en7), .unset] [(.ref en7)])) rfl (hb hby at_49)
    refine Go.step st56 ?_
    show Go FrameEnd p e below s 0 0 (Q0 Z p1 en0 en1 en2 en3 en4 en5 en6 en7 en8 en9 en10 en11 en12 en13 en14 en15 en16 en17 en18 en19 en20 en21 h0 n0) (T56.setTop (mkF m 52 #[.val (.int p1), .val (.int ((p1 &&& (2147483647 : Int32)) % (22 : Int32))), .val (.ref en7), .unset] [(.ref en18), (.ref en7)]))
    refine Go.step (fun _ k => Jvm.RoadKit.acmp (g := (mkF m 52 #[.val (.int p1), .val (.int ((p1 &&& (2147483647 : Int32)) % (22 : Int32))), .val (.ref en7), .unset] [(.ref en18), (.ref en7)])) X56 hx rfl rfl rfl (pc0 := 52) (pc' := 59) (same := false) rfl (hb hby at_52) rfl (decide_eq_false fun q => (Fld.ne F7 F18 (by decide)) (Value.ref.inj q)) (by decide) (by decide) k) ?_
    show Go FrameEnd p e below s 0 0 (Q0 Z p1 en0 en1 en2 en3 en4 en5 en6 en7 en8 en9 en10 en11 en12 en13 en14 en15 en16 en17 en18 en19 en20 en21 h0 n0) (T56.setTop (mkF m 59 #[.val (.int p1), .val (.int ((p1 &&& (2147483647 : Int32)) % (22 : Int32))), .val (.ref en7), .unset] []))
    refine Go.step (fun _ k => XS.iconst X56.here hx rfl (hb hby at_59) k) ?_
    show Go FrameEnd p e below s 0 0 (Q0 Z p1 en0 en1 en2 en3 en4 en5 en6 en7 en8 en9 en10 en11 en12 en13 en14 en15 en16 en17 en18 en19 en20 en21 h0 n0) (T56.setTop (mkF m 60 #[.val (.int p1), .val (.int ((p1 &&& (2147483647 : Int32)) % (22 : Int32))), .val (.ref en7), .unset] [(.int (0 : Int32))]))
    refine Go.step (fun _ k => XS.istoreN X56.here hx rfl (hb hby at_60) rfl (l' := #[.val (.int p1), .val (.int ((p1 &&& (2147483647 : Int32)) % (22 : Int32))), .val (.ref en7), .val (.int (0 : Int32))]) rfl k) ?_
    show Go FrameEnd p e below s 0 0 (Q0 Z p1 en0 en1 en2 en3 en4 en5 en6 en7 en8 en9 en10 en11 en12 en13 en14 en15 en16 en17 en18 en19 en20 en21 h0 n0) (T56.setTop (mkF m 61 #[.val (.int p1), .val (.int ((p1 &&& (2147483647 : Int32)) % (22 : Int32))), .val (.ref en7), .val (.int (0 : Int32))] []))
    refine Go.step (fun _ k => XS.aloadN X56.here hx rfl (hb hby at_61) rfl rfl k) ?_
    show Go FrameEnd p e below s 0 0 (Q0 Z p1 en0 en1 en2 en3 en4 en5 en6 en7 en8 en9 en10 en11 en12 en13 en14 en15 en16 en17 en18 en19 en20 en21 h0 n0) (T56.setTop (mkF m 62 #[.val (.int p1), .val (.int ((p1 &&& (2147483647 : Int32)) % (22 : Int32))), .val (.ref en7), .val (.int (0 : Int32))] [(.ref en7)]))
    obtain ⟨cq57, kq57, q57a, q57b, q57c⟩ := isOf hZ e56 E7
    obtain ⟨_, _, ⟨T57, L57, k57, n57⟩, -, X57, ⟨Lc57, hQ57, l57, y57, z57⟩, st57⟩ := X56.virtualBack hx (y := (⟨"deckmill/Card", "asksChoice", "()Z"⟩ : MethodName)) (z := (⟨"deckmill/Card", "asksChoice", "()Z"⟩ : MethodName)) hown (mvT hZ (hw _ (List.mem_of_getElem? (i := 20) rfl))) (mvT hZ (hw _ (List.mem_of_getElem? (i := 21) rfl))) (notFace_of_selects (args := #[]) (mvT hZ (hw _ (List.mem_of_getElem? (i := 23) rfl)))) (mvT hZ (hw _ (List.mem_of_getElem? (i := 23) rfl))) (mvT hZ (hw _ (List.mem_of_getElem? (i := 22) rfl))) (by decide) (backOf (W := 0) (rm2n l Z a0 hw [] en7  h0 C7) hZ (hw _ (List.mem_of_getElem? (i := 24) rfl)) (hw _ (List.mem_of_getElem? (i := 6) rfl)) (by decide) (by decide)) q57a q57c (g := (mkF m 62 #[.val (.int p1), .val (.int ((p1 &&& (2147483647 : Int32)) % (22 : Int32))), .val (.ref en7), .val (.int (0 : Int32))] [(.ref en7)])) rfl (by rw [hml]; rfl) (Steps.refl _) (argsL := []) (rest := []) (lenOf pd___Z rfl) rfl (by show 2 * 0 + _ ≤ _; exact Nat.le_of_eq rfl) (hb hby at_62) (fun _ _ => ⟨rfl, e56, (by decide : 0 + 0 ≤ _), (by decide : 0 + 0 ≤ _)⟩)
    dsimp only [Pt.U, Pt.locs, Pt.cells, Pt.slots] at X57 l57 y57 z57 st57 hQ57
    subst l57 y57 z57
    obtain ⟨rfl, rfl, e57⟩ := hQ57
    have N57 := Fr.app N1 (Fr.nil n0)
    refine Go.hop st57 ?_
    show Go FrameEnd p e below s 0 0 (Q0 Z p1 en0 en1 en2 en3 en4 en5 en6 en7 en8 en9 en10 en11 en12 en13 en14 en15 en16 en17 en18 en19 en20 en21 h0 n0) (T57.setTop (mkF m 65 #[.val (.int p1), .val (.int ((p1 &&& (2147483647 : Int32)) % (22 : Int32))), .val (.ref en7), .val (.int (0 : Int32))] [(.int (0 : Int32))]))
    refine Go.step (fun _ k => XS.iloadN X57.here hx rfl (hb hby at_65) rfl k) ?_
    show Go FrameEnd p e below s 0 0 (Q0 Z p1 en0 en1 en2 en3 en4 en5 en6 en7 en8 en9 en10 en11 en12 en13 en14 en15 en16 en17 en18 en19 en20 en21 h0 n0) (T57.setTop (mkF m 66 #[.val (.int p1), .val (.int ((p1 &&& (2147483647 : Int32)) % (22 : Int32))), .val (.ref en7), .val (.int (0 : Int32))] [(.int (0 : Int32)), (.int (0 : Int32))]))
    refine Go.step (fun _ k => XS.icmpNo X57.here hx rfl (hb hby at_66) rfl (teq rfl).2 k) ?_
    show Go FrameEnd p e below s 0 0 (Q0 Z p1 en0 en1 en2 en3 en4 en5 en6 en7 en8 en9 en10 en11 en12 en13 en14 en15 en16 en17 en18 en19 en20 en21 h0 n0) (T57.setTop (mkF m 69 #[.val (.int p1), .val (.int ((p1 &&& (2147483647 : Int32)) % (22 : Int32))), .val (.ref en7), .val (.int (0 : Int32))] []))
    refine Go.step (fun _ k => XS.iconst X57.here hx rfl (hb hby at_69) k) ?_
    show Go FrameEnd p e below s 0 0 (Q0 Z p1 en0 en1 en2 en3 en4 en5 en6 en7 en8 en9 en10 en11 en12 en13 en14 en15 en16 en17 en18 en19 en20 en21 h0 n0) (T57.setTop (mkF m 70 #[.val (.int p1), .val (.int ((p1 &&& (2147483647 : Int32)) % (22 : Int32))), .val (.ref en7), .val (.int (0 : Int32))] [(.int (1 : Int32))]))
    refine Go.step (fun _ k => XS.goto X57.here hx rfl (pc0 := 70) (pc' := 74) rfl (hb hby at_70) (by decide) (by decide) k) ?_
    show Go FrameEnd p e below s 0 0 (Q0 Z p1 en0 en1 en2 en3 en4 en5 en6 en7 en8 en9 en10 en11 en12 en13 en14 en15 en16 en17 en18 en19 en20 en21 h0 n0) (T57.setTop (mkF m 74 #[.val (.int p1), .val (.int ((p1 &&& (2147483647 : Int32)) % (22 : Int32))), .val (.ref en7), .val (.int (0 : Int32))] [(.int (1 : Int32))]))
    refine Go.retN X57 hx (t := .boolean) Bd.returns (by simp) (by decide) (hb hby at_74) (BodyLoose.notSynchronized Bd) e57 (by decide) (by decide) ?_
    exact ⟨rfl, N57⟩
  · skip
    rw [q]
    obtain ⟨⟨S0, E0, F0, C0⟩, ⟨S1, E1, F1, C1⟩, ⟨S2, E2, F2, C2⟩, ⟨S3, E3, F3, C3⟩, ⟨S4, E4, F4, C4⟩, ⟨S5, E5, F5, C5⟩, ⟨S6, E6, F6, C6⟩, ⟨S7, E7, F7, C7⟩, ⟨S8, E8, F8, C8⟩, ⟨S9, E9, F9, C9⟩, ⟨S10, E10, F10, C10⟩, ⟨S11, E11, F11, C11⟩, ⟨S12, E12, F12, C12⟩, ⟨S13, E13, F13, C13⟩, ⟨S14, E14, F14, C14⟩, ⟨S15, E15, F15, C15⟩, ⟨S16, E16, F16, C16⟩, ⟨S17, E17, F17, C17⟩, ⟨S18, E18, F18, C18⟩, ⟨S19, E19, F19, C19⟩, ⟨S20, E20, F20, C20⟩, ⟨S21, E21, F21, C21⟩⟩ := hC
    show Go FrameEnd p e below s 0 0 (Q0 Z p1 en0 en1 en2 en3 en4 en5 en6 en7 en8 en9 en10 en11 en12 en13 en14 en15 en16 en17 en18 en19 en20 en21 h0 n0) (T1.setTop (mkF m 12 #[.val (.int p1), .val (.int ((p1 &&& (2147483647 : Int32)) % (22 : Int32))), .unset, .unset] [(.ref en8)]))
    refine Go.step (fun _ k => XS.astoreN X1.here hx rfl (hb hby at_12) rfl rfl (l' := #[.val (.int p1), .val (.int ((p1 &&& (2147483647 : Int32)) % (22 : Int32))), .val (.ref en8), .unset]) rfl k) ?_
    show Go FrameEnd p e below s 0 0 (Q0 Z p1 en0 en1 en2 en3 en4 en5 en6 en7 en8 en9 en10 en11 en12 en13 en14 en15 en16 en17 en18 en19 en20 en21 h0 n0) (T1.setTop (mkF m 13 #[.val (.int p1), .val (.int ((p1 &&& (2147483647 : Int32)) % (22 : Int32))), .val (.ref en8), .unset] []))
    refine Go.step (fun _ k => XS.aloadN X1.here hx rfl (hb hby at_13) rfl rfl k) ?_
    show Go FrameEnd p e below s 0 0 (Q0 Z p1 en0 en1 en2 en3 en4 en5 en6 en7 en8 en9 en10 en11 en12 en13 en14 en15 en16 en17 en18 en19 en20 en21 h0 n0) (T1.setTop (mkF m 14 #[.val (.int p1), .val (.int ((p1 &&& (2147483647 : Int32)) % (22 : Int32))), .val (.ref en8), .unset] [(.ref en8)]))
    obtain ⟨T58, X58, e58, st58⟩ := getS2 X1 hx hZ hown (host := "") (Or.inl (hw _ (List.mem_of_getElem? (i := 8) rfl))) Via.refl e1 S13 (g := (mkF m 14 #[.val (.int p1), .val (.int ((p1 &&& (2147483647 : Int32)) % (22 : Int32))), .val (.ref en8), .unset] [(.ref en8)])) rfl (hb hby at_14)
    refine Go.step st58 ?_
    show Go FrameEnd p e below s 0 0 (Q0 Z p1 en0 en1 en2 en3 en4 en5 en6 en7 en8 en9 en10 en11 en12 en13 en14 en15 en16 en17 en18 en19 en20 en21 h0 n0) (T58.setTop (mkF m 17 #[.val (.int p1), .val (.int ((p1 &&& (2147483647 : Int32)) % (22 : Int32))), .val (.ref en8), .unset] [(.ref en13), (.ref en8)]))
    refine Go.step (fun _ k => Jvm.RoadKit.acmp (g := (mkF m 17 #[.val (.int p1), .val (.int ((p1 &&& (2147483647 : Int32)) % (22 : Int32))), .val (.ref en8), .unset] [(.ref en13), (.ref en8)])) X58 hx rfl rfl rfl (pc0 := 17) (pc' := 20) (same := false) rfl (hb hby at_17) rfl (decide_eq_false fun q => (Fld.ne F8 F13 (by decide)) (Value.ref.inj q)) (by decide) (by decide) k) ?_
    show Go FrameEnd p e below s 0 0 (Q0 Z p1 en0 en1 en2 en3 en4 en5 en6 en7 en8 en9 en10 en11 en12 en13 en14 en15 en16 en17 en18 en19 en20 en21 h0 n0) (T58.setTop (mkF m 20 #[.val (.int p1), .val (.int ((p1 &&& (2147483647 : Int32)) % (22 : Int32))), .val (.ref en8), .unset] []))
    refine Go.step (fun _ k => XS.aloadN X58.here hx rfl (hb hby at_20) rfl rfl k) ?_
    show Go FrameEnd p e below s 0 0 (Q0 Z p1 en0 en1 en2 en3 en4 en5 en6 en7 en8 en9 en10 en11 en12 en13 en14 en15 en16 en17 en18 en19 en20 en21 h0 n0) (T58.setTop (mkF m 21 #[.val (.int p1), .val (.int ((p1 &&& (2147483647 : Int32)) % (22 : Int32))), .val (.ref en8), .unset] [(.ref en8)]))
    obtain ⟨T59, X59, e59, st59⟩ := getS2 X58 hx hZ hown (host := "") (Or.inl (hw _ (List.mem_of_getElem? (i := 10) rfl))) Via.refl e58 S14 (g := (mkF m 21 #[.val (.int p1), .val (.int ((p1 &&& (2147483647 : Int32)) % (22 : Int32))), .val (.ref en8), .unset] [(.ref en8)])) rfl (hb hby at_21)
    refine Go.step st59 ?_
    show Go FrameEnd p e below s 0 0 (Q0 Z p1 en0 en1 en2 en3 en4 en5 en6 en7 en8 en9 en10 en11 en12 en13 en14 en15 en16 en17 en18 en19 en20 en21 h0 n0) (T59.setTop (mkF m 24 #[.val (.int p1), .val (.int ((p1 &&& (2147483647 : Int32)) % (22 : Int32))), .val (.ref en8), .unset] [(.ref en14), (.ref en8)]))
    refine Go.step (fun _ k => Jvm.RoadKit.acmp (g := (mkF m 24 #[.val (.int p1), .val (.int ((p1 &&& (2147483647 : Int32)) % (22 : Int32))), .val (.ref en8), .unset] [(.ref en14), (.ref en8)])) X59 hx rfl rfl rfl (pc0 := 24) (pc' := 27) (same := false) rfl (hb hby at_24) rfl (decide_eq_false fun q => (Fld.ne F8 F14 (by decide)) (Value.ref.inj q)) (by decide) (by decide) k) ?_
    show Go FrameEnd p e below s 0 0 (Q0 Z p1 en0 en1 en2 en3 en4 en5 en6 en7 en8 en9 en10 en11 en12 en13 en14 en15 en16 en17 en18 en19 en20 en21 h0 n0) (T59.setTop (mkF m 27 #[.val (.int p1), .val (.int ((p1 &&& (2147483647 : Int32)) % (22 : Int32))), .val (.ref en8), .unset] []))
    refine Go.step (fun _ k => XS.aloadN X59.here hx rfl (hb hby at_27) rfl rfl k) ?_
    show Go FrameEnd p e below s 0 0 (Q0 Z p1 en0 en1 en2 en3 en4 en5 en6 en7 en8 en9 en10 en11 en12 en13 en14 en15 en16 en17 en18 en19 en20 en21 h0 n0) (T59.setTop (mkF m 28 #[.val (.int p1), .val (.int ((p1 &&& (2147483647 : Int32)) % (22 : Int32))), .val (.ref en8), .unset] [(.ref en8)]))
    obtain ⟨T60, X60, e60, st60⟩ := getS2 X59 hx hZ hown (host := "") (Or.inl (hw _ (List.mem_of_getElem? (i := 12) rfl))) Via.refl e59 S15 (g := (mkF m 28 #[.val (.int p1), .val (.int ((p1 &&& (2147483647 : Int32)) % (22 : Int32))), .val (.ref en8), .unset] [(.ref en8)])) rfl (hb hby at_28)
    refine Go.step st60 ?_
    show Go FrameEnd p e below s 0 0 (Q0 Z p1 en0 en1 en2 en3 en4 en5 en6 en7 en8 en9 en10 en11 en12 en13 en14 en15 en16 en17 en18 en19 en20 en21 h0 n0) (T60.setTop (mkF m 31 #[.val (.int p1), .val (.int ((p1 &&& (2147483647 : Int32)) % (22 : Int32))), .val (.ref en8), .unset] [(.ref en15), (.ref en8)]))
    refine Go.step (fun _ k => Jvm.RoadKit.acmp (g := (mkF m 31 #[.val (.int p1), .val (.int ((p1 &&& (2147483647 : Int32)) % (22 : Int32))), .val (.ref en8), .unset] [(.ref en15), (.ref en8)])) X60 hx rfl rfl rfl (pc0 := 31) (pc' := 34) (same := false) rfl (hb hby at_31) rfl (decide_eq_false fun q => (Fld.ne F8 F15 (by decide)) (Value.ref.inj q)) (by decide) (by decide) k) ?_
    show Go FrameEnd p e below s 0 0 (Q0 Z p1 en0 en1 en2 en3 en4 en5 en6 en7 en8 en9 en10 en11 en12 en13 en14 en15 en16 en17 en18 en19 en20 en21 h0 n0) (T60.setTop (mkF m 34 #[.val (.int p1), .val (.int ((p1 &&& (2147483647 : Int32)) % (22 : Int32))), .val (.ref en8), .unset] []))
    refine Go.step (fun _ k => XS.aloadN X60.here hx rfl (hb hby at_34) rfl rfl k) ?_
    show Go FrameEnd p e below s 0 0 (Q0 Z p1 en0 en1 en2 en3 en4 en5 en6 en7 en8 en9 en10 en11 en12 en13 en14 en15 en16 en17 en18 en19 en20 en21 h0 n0) (T60.setTop (mkF m 35 #[.val (.int p1), .val (.int ((p1 &&& (2147483647 : Int32)) % (22 : Int32))), .val (.ref en8), .unset] [(.ref en8)]))
    obtain ⟨T61, X61, e61, st61⟩ := getS2 X60 hx hZ hown (host := "") (Or.inl (hw _ (List.mem_of_getElem? (i := 14) rfl))) Via.refl e60 S16 (g := (mkF m 35 #[.val (.int p1), .val (.int ((p1 &&& (2147483647 : Int32)) % (22 : Int32))), .val (.ref en8), .unset] [(.ref en8)])) rfl (hb hby at_35)
    refine Go.step st61 ?_
    show Go FrameEnd p e below s 0 0 (Q0 Z p1 en0 en1 en2 en3 en4 en5 en6 en7 en8 en9 en10 en11 en12 en13 en14 en15 en16 en17 en18 en19 en20 en21 h0 n0) (T61.setTop (mkF m 38 #[.val (.int p1), .val (.int ((p1 &&& (2147483647 : Int32)) % (22 : Int32))), .val (.ref en8), .unset] [(.ref en16), (.ref en8)]))
    refine Go.step (fun _ k => Jvm.RoadKit.acmp (g := (mkF m 38 #[.val (.int p1), .val (.int ((p1 &&& (2147483647 : Int32)) % (22 : Int32))), .val (.ref en8), .unset] [(.ref en16), (.ref en8)])) X61 hx rfl rfl rfl (pc0 := 38) (pc' := 41) (same := false) rfl (hb hby at_38) rfl (decide_eq_false fun q => (Fld.ne F8 F16 (by decide)) (Value.ref.inj q)) (by decide) (by decide) k) ?_
    show Go FrameEnd p e below s 0 0 (Q0 Z p1 en0 en1 en2 en3 en4 en5 en6 en7 en8 en9 en10 en11 en12 en13 en14 en15 en16 en17 en18 en19 en20 en21 h0 n0) (T61.setTop (mkF m 41 #[.val (.int p1), .val (.int ((p1 &&& (2147483647 : Int32)) % (22 : Int32))), .val (.ref en8), .unset] []))
    refine Go.step (fun _ k => XS.aloadN X61.here hx rfl (hb hby at_41) rfl rfl k) ?_
    show Go FrameEnd p e below s 0 0 (Q0 Z p1 en0 en1 en2 en3 en4 en5 en6 en7 en8 en9 en10 en11 en12 en13 en14 en15 en16 en17 en18 en19 en20 en21 h0 n0) (T61.setTop (mkF m 42 #[.val (.int p1), .val (.int ((p1 &&& (2147483647 : Int32)) % (22 : Int32))), .val (.ref en8), .unset] [(.ref en8)]))
    obtain ⟨T62, X62, e62, st62⟩ := getS2 X61 hx hZ hown (host := "") (Or.inl (hw _ (List.mem_of_getElem? (i := 16) rfl))) Via.refl e61 S17 (g := (mkF m 42 #[.val (.int p1), .val (.int ((p1 &&& (2147483647 : Int32)) % (22 : Int32))), .val (.ref en8), .unset] [(.ref en8)])) rfl (hb hby at_42)
    refine Go.step st62 ?_
    show Go FrameEnd p e below s 0 0 (Q0 Z p1 en0 en1 en2 en3 en4 en5 en6 en7 en8 en9 en10 en11 en12 en13 en14 en15 en16 en17 en18 en19 en20 en21 h0 n0) (T62.setTop (mkF m 45 #[.val (.int p1), .val (.int ((p1 &&& (2147483647 : Int32)) % (22 : Int32))), .val (.ref en8), .unset] [(.ref en17), (.ref en8)]))
    refine Go.step (fun _ k => Jvm.RoadKit.acmp (g := (mkF m 45 #[.val (.int p1), .val (.int ((p1 &&& (2147483647 : Int32)) % (22 : Int32))), .val (.ref en8), .unset] [(.ref en17), (.ref en8)])) X62 hx rfl rfl rfl (pc0 := 45) (pc' := 48) (same := false) rfl (hb hby at_45) rfl (decide_eq_false fun q => (Fld.ne F8 F17 (by decide)) (Value.ref.inj q)) (by decide) (by decide) k) ?_
    show Go FrameEnd p e below s 0 0 (Q0 Z p1 en0 en1 en2 en3 en4 en5 en6 en7 en8 en9 en10 en11 en12 en13 en14 en15 en16 en17 en18 en19 en20 en21 h0 n0) (T62.setTop (mkF m 48 #[.val (.int p1), .val (.int ((p1 &&& (2147483647 : Int32)) % (22 : Int32))), .val (.ref en8), .unset] []))
    refine Go.step (fun _ k => XS.aloadN X62.here hx rfl (hb hby at_48) rfl rfl k) ?_
    show Go FrameEnd p e below s 0 0 (Q0 Z p1 en0 en1 en2 en3 en4 en5 en6 en7 en8 en9 en10 en11 en12 en13 en14 en15 en16 en17 en18 en19 en20 en21 h0 n0) (T62.setTop (mkF m 49 #[.val (.int p1), .val (.int ((p1 &&& (2147483647 : Int32)) % (22 : Int32))), .val (.ref en8), .unset] [(.ref en8)]))
    obtain ⟨T63, X63, e63, st63⟩ := getS2 X62 hx hZ hown (host := "") (Or.inl (hw _ (List.mem_of_getElem? (i := 18) rfl))) Via.refl e62 S18 (g := (mkF m 49 #[.val (.int p1), .val (.int ((p1 &&& (2147483647 : Int32)) % (22 : Int32))), .val (.ref en8), .unset] [(.ref en8)])) rfl (hb hby at_49)
    refine Go.step st63 ?_
    show Go FrameEnd p e below s 0 0 (Q0 Z p1 en0 en1 en2 en3 en4 en5 en6 en7 en8 en9 en10 en11 en12 en13 en14 en15 en16 en17 en18 en19 en20 en21 h0 n0) (T63.setTop (mkF m 52 #[.val (.int p1), .val (.int ((p1 &&& (2147483647 : Int32)) % (22 : Int32))), .val (.ref en8), .unset] [(.ref en18), (.ref en8)]))
    refine Go.step (fun _ k => Jvm.RoadKit.acmp (g := (mkF m 52 #[.val (.int p1), .val (.int ((p1 &&& (2147483647 : Int32)) % (22 : Int32))), .val (.ref en8), .unset] [(.ref en18), (.ref en8)])) X63 hx rfl rfl rfl (pc0 := 52) (pc' := 59) (same := false) rfl (hb hby at_52) rfl (decide_eq_false fun q => (Fld.ne F8 F18 (by decide)) (Value.ref.inj q)) (by decide) (by decide) k) ?_
    show Go FrameEnd p e below s 0 0 (Q0 Z p1 en0 en1 en2 en3 en4 en5 en6 en7 en8 en9 en10 en11 en12 en13 en14 en15 en16 en17 en18 en19 en20 en21 h0 n0) (T63.setTop (mkF m 59 #[.val (.int p1), .val (.int ((p1 &&& (2147483647 : Int32)) % (22 : Int32))), .val (.ref en8), .unset] []))
    refine Go.step (fun _ k => XS.iconst X63.here hx rfl (hb hby at_59) k) ?_
    show Go FrameEnd p e below s 0 0 (Q0 Z p1 en0 en1 en2 en3 en4 en5 en6 en7 en8 en9 en10 en11 en12 en13 en14 en15 en16 en17 en18 en19 en20 en21 h0 n0) (T63.setTop (mkF m 60 #[.val (.int p1), .val (.int ((p1 &&& (2147483647 : Int32)) % (22 : Int32))), .val (.ref en8), .unset] [(.int (0 : Int32))]))
    refine Go.step (fun _ k => XS.istoreN X63.here hx rfl (hb hby at_60) rfl (l' := #[.val (.int p1), .val (.int ((p1 &&& (2147483647 : Int32)) % (22 : Int32))), .val (.ref en8), .val (.int (0 : Int32))]) rfl k) ?_
    show Go FrameEnd p e below s 0 0 (Q0 Z p1 en0 en1 en2 en3 en4 en5 en6 en7 en8 en9 en10 en11 en12 en13 en14 en15 en16 en17 en18 en19 en20 en21 h0 n0) (T63.setTop (mkF m 61 #[.val (.int p1), .val (.int ((p1 &&& (2147483647 : Int32)) % (22 : Int32))), .val (.ref en8), .val (.int (0 : Int32))] []))
    refine Go.step (fun _ k => XS.aloadN X63.here hx rfl (hb hby at_61) rfl rfl k) ?_
    show Go FrameEnd p e below s 0 0 (Q0 Z p1 en0 en1 en2 en3 en4 en5 en6 en7 en8 en9 en10 en11 en12 en13 en14 en15 en16 en17 en18 en19 en20 en21 h0 n0) (T63.setTop (mkF m 62 #[.val (.int p1), .val (.int ((p1 &&& (2147483647 : Int32)) % (22 : Int32))), .val (.ref en8), .val (.int (0 : Int32))] [(.ref en8)]))
    obtain ⟨cq64, kq64, q64a, q64b, q64c⟩ := isOf hZ e63 E8
    obtain ⟨_, _, ⟨T64, L64, k64, n64⟩, -, X64, ⟨Lc64, hQ64, l64, y64, z64⟩, st64⟩ := X63.virtualBack hx (y := (⟨"deckmill/Card", "asksChoice", "()Z"⟩ : MethodName)) (z := (⟨"deckmill/Card", "asksChoice", "()Z"⟩ : MethodName)) hown (mvT hZ (hw _ (List.mem_of_getElem? (i := 20) rfl))) (mvT hZ (hw _ (List.mem_of_getElem? (i := 21) rfl))) (notFace_of_selects (args := #[]) (mvT hZ (hw _ (List.mem_of_getElem? (i := 23) rfl)))) (mvT hZ (hw _ (List.mem_of_getElem? (i := 23) rfl))) (mvT hZ (hw _ (List.mem_of_getElem? (i := 22) rfl))) (by decide) (backOf (W := 0) (rm2n l Z a0 hw [] en8  h0 C8) hZ (hw _ (List.mem_of_getElem? (i := 24) rfl)) (hw _ (List.mem_of_getElem? (i := 6) rfl)) (by decide) (by decide)) q64a q64c (g := (mkF m 62 #[.val (.int p1), .val (.int ((p1 &&& (2147483647 : Int32)) % (22 : Int32))), .val (.ref en8), .val (.int (0 : Int32))] [(.ref en8)])) rfl (by rw [hml]; rfl) (Steps.refl _) (argsL := []) (rest := []) (lenOf pd___Z rfl) rfl (by show 2 * 0 + _ ≤ _; exact Nat.le_of_eq rfl) (hb hby at_62) (fun _ _ => ⟨rfl, e63, (by decide : 0 + 0 ≤ _), (by decide : 0 + 0 ≤ _)⟩)
    dsimp only [Pt.U, Pt.locs, Pt.cells, Pt.slots] at X64 l64 y64 z64 st64 hQ64
    subst l64 y64 z64
    obtain ⟨rfl, rfl, e64⟩ := hQ64
    have N64 := Fr.app N1 (Fr.nil n0)
    refine Go.hop st64 ?_
    show Go FrameEnd p e below s 0 0 (Q0 Z p1 en0 en1 en2 en3 en4 en5 en6 en7 en8 en9 en10 en11 en12 en13 en14 en15 en16 en17 en18 en19 en20 en21 h0 n0) (T64.setTop (mkF m 65 #[.val (.int p1), .val (.int ((p1 &&& (2147483647 : Int32)) % (22 : Int32))), .val (.ref en8), .val (.int (0 : Int32))] [(.int (0 : Int32))]))
    refine Go.step (fun _ k => XS.iloadN X64.here hx rfl (hb hby at_65) rfl k) ?_
    show Go FrameEnd p e below s 0 0 (Q0 Z p1 en0 en1 en2 en3 en4 en5 en6 en7 en8 en9 en10 en11 en12 en13 en14 en15 en16 en17 en18 en19 en20 en21 h0 n0) (T64.setTop (mkF m 66 #[.val (.int p1), .val (.int ((p1 &&& (2147483647 : Int32)) % (22 : Int32))), .val (.ref en8), .val (.int (0 : Int32))] [(.int (0 : Int32)), (.int (0 : Int32))]))
    refine Go.step (fun _ k => XS.icmpNo X64.here hx rfl (hb hby at_66) rfl (teq rfl).2 k) ?_
    show Go FrameEnd p e below s 0 0 (Q0 Z p1 en0 en1 en2 en3 en4 en5 en6 en7 en8 en9 en10 en11 en12 en13 en14 en15 en16 en17 en18 en19 en20 en21 h0 n0) (T64.setTop (mkF m 69 #[.val (.int p1), .val (.int ((p1 &&& (2147483647 : Int32)) % (22 : Int32))), .val (.ref en8), .val (.int (0 : Int32))] []))
    refine Go.step (fun _ k => XS.iconst X64.here hx rfl (hb hby at_69) k) ?_
    show Go FrameEnd p e below s 0 0 (Q0 Z p1 en0 en1 en2 en3 en4 en5 en6 en7 en8 en9 en10 en11 en12 en13 en14 en15 en16 en17 en18 en19 en20 en21 h0 n0) (T64.setTop (mkF m 70 #[.val (.int p1), .val (.int ((p1 &&& (2147483647 : Int32)) % (22 : Int32))), .val (.ref en8), .val (.int (0 : Int32))] [(.int (1 : Int32))]))
    refine Go.step (fun _ k => XS.goto X64.here hx rfl (pc0 := 70) (pc' := 74) rfl (hb hby at_70) (by decide) (by decide) k) ?_
    show Go FrameEnd p e below s 0 0 (Q0 Z p1 en0 en1 en2 en3 en4 en5 en6 en7 en8 en9 en10 en11 en12 en13 en14 en15 en16 en17 en18 en19 en20 en21 h0 n0) (T64.setTop (mkF m 74 #[.val (.int p1), .val (.int ((p1 &&& (2147483647 : Int32)) % (22 : Int32))), .val (.ref en8), .val (.int (0 : Int32))] [(.int (1 : Int32))]))
    refine Go.retN X64 hx (t := .boolean) Bd.returns (by simp) (by decide) (hb hby at_74) (BodyLoose.notSynchronized Bd) e64 (by decide) (by decide) ?_
    exact ⟨rfl, N64⟩
  · skip
    rw [q]
    obtain ⟨⟨S0, E0, F0, C0⟩, ⟨S1, E1, F1, C1⟩, ⟨S2, E2, F2, C2⟩, ⟨S3, E3, F3, C3⟩, ⟨S4, E4, F4, C4⟩, ⟨S5, E5, F5, C5⟩, ⟨S6, E6, F6, C6⟩, ⟨S7, E7, F7, C7⟩, ⟨S8, E8, F8, C8⟩, ⟨S9, E9, F9, C9⟩, ⟨S10, E10, F10, C10⟩, ⟨S11, E11, F11, C11⟩, ⟨S12, E12, F12, C12⟩, ⟨S13, E13, F13, C13⟩, ⟨S14, E14, F14, C14⟩, ⟨S15, E15, F15, C15⟩, ⟨S16, E16, F16, C16⟩, ⟨S17, E17, F17, C17⟩, ⟨S18, E18, F18, C18⟩, ⟨S19, E19, F19, C19⟩, ⟨S20, E20, F20, C20⟩, ⟨S21, E21, F21, C21⟩⟩ := hC
    show Go FrameEnd p e below s 0 0 (Q0 Z p1 en0 en1 en2 en3 en4 en5 en6 en7 en8 en9 en10 en11 en12 en13 en14 en15 en16 en17 en18 en19 en20 en21 h0 n0) (T1.setTop (mkF m 12 #[.val (.int p1), .val (.int ((p1 &&& (2147483647 : Int32)) % (22 : Int32))), .unset, .unset] [(.ref en9)]))
    refine Go.step (fun _ k => XS.astoreN X1.here hx rfl (hb hby at_12) rfl rfl (l' := #[.val (.int p1), .val (.int ((p1 &&& (2147483647 : Int32)) % (22 : Int32))), .val (.ref en9), .unset]) rfl k) ?_
    show Go FrameEnd p e below s 0 0 (Q0 Z p1 en0 en1 en2 en3 en4 en5 en6 en7 en8 en9 en10 en11 en12 en13 en14 en15 en16 en17 en18 en19 en20 en21 h0 n0) (T1.setTop (mkF m 13 #[.val (.int p1), .val (.int ((p1 &&& (2147483647 : Int32)) % (22 : Int32))), .val (.ref en9), .unset] []))
    refine Go.step (fun _ k => XS.aloadN X1.here hx rfl (hb hby at_13) rfl rfl k) ?_
    show Go FrameEnd p e below s 0 0 (Q0 Z p1 en0 en1 en2 en3 en4 en5 en6 en7 en8 en9 en10 en11 en12 en13 en14 en15 en16 en17 en18 en19 en20 en21 h0 n0) (T1.setTop (mkF m 14 #[.val (.int p1), .val (.int ((p1 &&& (2147483647 : Int32)) % (22 : Int32))), .val (.ref en9), .unset] [(.ref en9)]))
    obtain ⟨T65, X65, e65, st65⟩ := getS2 X1 hx hZ hown (host := "") (Or.inl (hw _ (List.mem_of_getElem? (i := 8) rfl))) Via.refl e1 S13 (g := (mkF m 14 #[.val (.int p1), .val (.int ((p1 &&& (2147483647 : Int32)) % (22 : Int32))), .val (.ref en9), .unset] [(.ref en9)])) rfl (hb hby at_14)
    refine Go.step st65 ?_
    show Go FrameEnd p e below s 0 0 (Q0 Z p1 en0 en1 en2 en3 en4 en5 en6 en7 en8 en9 en10 en11 en12 en13 en14 en15 en16 en17 en18 en19 en20 en21 h0 n0) (T65.setTop (mkF m 17 #[.val (.int p1), .val (.int ((p1 &&& (2147483647 : Int32)) % (22 : Int32))), .val (.ref en9), .unset] [(.ref en13), (.ref en9)]))
    refine Go.step (fun _ k => Jvm.RoadKit.acmp (g := (mkF m 17 #[.val (.int p1), .val (.int ((p1 &&& (2147483647 : Int32)) % (22 : Int32))), .val (.ref en9), .unset] [(.ref en13), (.ref en9)])) X65 hx rfl rfl rfl (pc0 := 17) (pc' := 20) (same := false) rfl (hb hby at_17) rfl (decide_eq_false fun q => (Fld.ne F9 F13 (by decide)) (Value.ref.inj q)) (by decide) (by decide) k) ?_
    show Go FrameEnd p e below s 0 0 (Q0 Z p1 en0 en1 en2 en3 en4 en5 en6 en7 en8 en9 en10 en11 en12 en13 en14 en15 en16 en17 en18 en19 en20 en21 h0 n0) (T65.setTop (mkF m 20 #[.val (.int p1), .val (.int ((p1 &&& (2147483647 : Int32)) % (22 : Int32))), .val (.ref en9), .unset] []))
    refine Go.step (fun _ k => XS.aloadN X65.here hx rfl (hb hby at_20) rfl rfl k) ?_
    show Go FrameEnd p e below s 0 0 (Q0 Z p1 en0 en1 en2 en3 en4 en5 en6 en7 en8 en9 en10 en11 en12 en13 en14 en15 en16 en17 en18 en19 en20 en21 h0 n0) (T65.setTop (mkF m 21 #[.val (.int p1), .val (.int ((p1 &&& (2147483647 : Int32)) % (22 : Int32))), .val (.ref en9), .unset] [(.ref en9)]))
    obtain ⟨T66, X66, e66, st66⟩ := getS2 X65 hx hZ hown (host := "") (Or.inl (hw _ (List.mem_of_getElem? (i := 10) rfl))) Via.refl e65 S14 (g := (mkF m 21 #[.val (.int p1), .val (.int ((p1 &&& (2147483647 : Int32)) % (22 : Int32))), .val (.ref en9), .unset] [(.ref en9)])) rfl (hb hby at_21)
    refine Go.step st66 ?_
    show Go FrameEnd p e below s 0 0 (Q0 Z p1 en0 en1 en2 en3 en4 en5 en6 en7 en8 en9 en10 en11 en12 en13 en14 en15 en16 en17 en18 en19 en20 en21 h0 n0) (T66.setTop (mkF m 24 #[.val (.int p1), .val (.int ((p1 &&& (2147483647 : Int32)) % (22 : Int32))), .val (.ref en9), .unset] [(.ref en14), (.ref en9)]))
    refine Go.step (fun _ k => Jvm.RoadKit.acmp (g := (mkF m 24 #[.val (.int p1), .val (.int ((p1 &&& (2147483647 : Int32)) % (22 : Int32))), .val (.ref en9), .unset] [(.ref en14), (.ref en9)])) X66 hx rfl rfl rfl (pc0 := 24) (pc' := 27) (same := false) rfl (hb hby at_24) rfl (decide_eq_false fun q => (Fld.ne F9 F14 (by decide)) (Value.ref.inj q)) (by decide) (by decide) k) ?_
    show Go FrameEnd p e below s 0 0 (Q0 Z p1 en0 en1 en2 en3 en4 en5 en6 en7 en8 en9 en10 en11 en12 en13 en14 en15 en16 en17 en18 en19 en20 en21 h0 n0) (T66.setTop (mkF m 27 #[.val (.int p1), .val (.int ((p1 &&& (2147483647 : Int32)) % (22 : Int32))), .val (.ref en9), .unset] []))
    refine Go.step (fun _ k => XS.aloadN X66.here hx rfl (hb hby at_27) rfl rfl k) ?_
    show Go FrameEnd p e below s 0 0 (Q0 Z p1 en0 en1 en2 en3 en4 en5 en6 en7 en8 en9 en10 en11 en12 en13 en14 en15 en16 en17 en18 en19 en20 en21 h0 n0) (T66.setTop (mkF m 28 #[.val (.int p1), .val (.int ((p1 &&& (2147483647 : Int32)) % (22 : Int32))), .val (.ref en9), .unset] [(.ref en9)]))
    obtain ⟨T67, X67, e67, st67⟩ := getS2 X66 hx hZ hown (host := "") (Or.inl (hw _ (List.mem_of_getElem? (i := 12) rfl))) Via.refl e66 S15 (g := (mkF m 28 #[.val (.int p1), .val (.int ((p1 &&& (2147483647 : Int32)) % (22 : Int32))), .val (.ref en9), .unset] [(.ref en9)])) rfl (hb hby at_28)
    refine Go.step st67 ?_
    show Go FrameEnd p e below s 0 0 (Q0 Z p1 en0 en1 en2 en3 en4 en5 en6 en7 en8 en9 en10 en11 en12 en13 en14 en15 en16 en17 en18 en19 en20 en21 h0 n0) (T67.setTop (mkF m 31 #[.val (.int p1), .val (.int ((p1 &&& (2147483647 : Int32)) % (22 : Int32))), .val (.ref en9), .unset] [(.ref en15), (.ref en9)]))
    refine Go.step (fun _ k => Jvm.RoadKit.acmp (g := (mkF m 31 #[.val (.int p1), .val (.int ((p1 &&& (2147483647 : Int32)) % (22 : Int32))), .val (.ref en9), .unset] [(.ref en15), (.ref en9)])) X67 hx rfl rfl rfl (pc0 := 31) (pc' := 34) (same := false) rfl (hb hby at_31) rfl (decide_eq_false fun q => (Fld.ne F9 F15 (by decide)) (Value.ref.inj q)) (by decide) (by decide) k) ?_
    show Go FrameEnd p e below s 0 0 (Q0 Z p1 en0 en1 en2 en3 en4 en5 en6 en7 en8 en9 en10 en11 en12 en13 en14 en15 en16 en17 en18 en19 en20 en21 h0 n0) (T67.setTop (mkF m 34 #[.val (.int p1), .val (.int ((p1 &&& (2147483647 : Int32)) % (22 : Int32))), .val (.ref en9), .unset] []))
    refine Go.step (fun _ k => XS.aloadN X67.here hx rfl (hb hby at_34) rfl rfl k) ?_
    show Go FrameEnd p e below s 0 0 (Q0 Z p1 en0 en1 en2 en3 en4 en5 en6 en7 en8 en9 en10 en11 en12 en13 en14 en15 en16 en17 en18 en19 en20 en21 h0 n0) (T67.setTop (mkF m 35 #[.val (.int p1), .val (.int ((p1 &&& (2147483647 : Int32)) % (22 : Int32))), .val (.ref en9), .unset] [(.ref en9)]))
    obtain ⟨T68, X68, e68, st68⟩ := getS2 X67 hx hZ hown (host := "") (Or.inl (hw _ (List.mem_of_getElem? (i := 14) rfl))) Via.refl e67 S16 (g := (mkF m 35 #[.val (.int p1), .val (.int ((p1 &&& (2147483647 : Int32)) % (22 : Int32))), .val (.ref en9), .unset] [(.ref en9)])) rfl (hb hby at_35)
    refine Go.step st68 ?_
    show Go FrameEnd p e below s 0 0 (Q0 Z p1 en0 en1 en2 en3 en4 en5 en6 en7 en8 en9 en10 en11 en12 en13 en14 en15 en16 en17 en18 en19 en20 en21 h0 n0) (T68.setTop (mkF m 38 #[.val (.int p1), .val (.int ((p1 &&& (2147483647 : Int32)) % (22 : Int32))), .val (.ref en9), .unset] [(.ref en16), (.ref en9)]))
    refine Go.step (fun _ k => Jvm.RoadKit.acmp (g := (mkF m 38 #[.val (.int p1), .val (.int ((p1 &&& (2147483647 : Int32)) % (22 : Int32))), .val (.ref en9), .unset] [(.ref en16), (.ref en9)])) X68 hx rfl rfl rfl (pc0 := 38) (pc' := 41) (same := false) rfl (hb hby at_38) rfl (decide_eq_false fun q => (Fld.ne F9 F16 (by decide)) (Value.ref.inj q)) (by decide) (by decide) k) ?_
    show Go FrameEnd p e below s 0 0 (Q0 Z p1 en0 en1 en2 en3 en4 en5 en6 en7 en8 en9 en10 en11 en12 en13 en14 en15 en16 en17 en18 en19 en20 en21 h0 n0) (T68.setTop (mkF m 41 #[.val (.int p1), .val (.int ((p1 &&& (2147483647 : Int32)) % (22 : Int32))), .val (.ref en9), .unset] []))
    refine Go.step (fun _ k => XS.aloadN X68.here hx rfl (hb hby at_41) rfl rfl k) ?_
    show Go FrameEnd p e below s 0 0 (Q0 Z p1 en0 en1 en2 en3 en4 en5 en6 en7 en8 en9 en10 en11 en12 en13 en14 en15 en16 en17 en18 en19 en20 en21 h0 n0) (T68.setTop (mkF m 42 #[.val (.int p1), .val (.int ((p1 &&& (2147483647 : Int32)) % (22 : Int32))), .val (.ref en9), .unset] [(.ref en9)]))
    obtain ⟨T69, X69, e69, st69⟩ := getS2 X68 hx hZ hown (host := "") (Or.inl (hw _ (List.mem_of_getElem? (i := 16) rfl))) Via.refl e68 S17 (g := (mkF m 42 #[.val (.int p1), .val (.int ((p1 &&& (2147483647 : Int32)) % (22 : Int32))), .val (.ref en9), .unset] [(.ref en9)])) rfl (hb hby at_42)
    refine Go.step st69 ?_
    show Go FrameEnd p e below s 0 0 (Q0 Z p1 en0 en1 en2 en3 en4 en5 en6 en7 en8 en9 en10 en11 en12 en13 en14 en15 en16 en17 en18 en19 en20 en21 h0 n0) (T69.setTop (mkF m 45 #[.val (.int p1), .val (.int ((p1 &&& (2147483647 : Int32)) % (22 : Int32))), .val (.ref en9), .unset] [(.ref en17), (.ref en9)]))
    refine Go.step (fun _ k => Jvm.RoadKit.acmp (g := (mkF m 45 #[.val (.int p1), .val (.int ((p1 &&& (2147483647 : Int32)) % (22 : Int32))), .val (.ref en9), .unset] [(.ref en17), (.ref en9)])) X69 hx rfl rfl rfl (pc0 := 45) (pc' := 48) (same := false) rfl (hb hby at_45) rfl (decide_eq_false fun q => (Fld.ne F9 F17 (by decide)) (Value.ref.inj q)) (by decide) (by decide) k) ?_
    show Go FrameEnd p e below s 0 0 (Q0 Z p1 en0 en1 en2 en3 en4 en5 en6 en7 en8 en9 en10 en11 en12 en13 en14 en15 en16 en17 en18 en19 en20 en21 h0 n0) (T69.setTop (mkF m 48 #[.val (.int p1), .val (.int ((p1 &&& (2147483647 : Int32)) % (22 : Int32))), .val (.ref en9), .unset] []))
    refine Go.step (fun _ k => XS.aloadN X69.here hx rfl (hb hby at_48) rfl rfl k) ?_
    show Go FrameEnd p e below s 0 0 (Q0 Z p1 en0 en1 en2 en3 en4 en5 en6 en7 en8 en9 en10 en11 en12 en13 en14 en15 en16 en17 en18 en19 en20 en21 h0 n0) (T69.setTop (mkF m 49 #[.val (.int p1), .val (.int ((p1 &&& (2147483647 : Int32)) % (22 : Int32))), .val (.ref en9), .unset] [(.ref en9)]))
    obtain ⟨T70, X70, e70, st70⟩ := getS2 X69 hx hZ hown (host := "") (Or.inl (hw _ (List.mem_of_getElem? (i := 18) rfl))) Via.refl e69 S18 (g := (mkF m 49 #[.val (.int p1), .val (.int ((p1 &&& (2147483647 : Int32)) % (22 : Int32))), .val (.ref en9), .unset] [(.ref en9)])) rfl (hb hby at_49)
    refine Go.step st70 ?_
    show Go FrameEnd p e below s 0 0 (Q0 Z p1 en0 en1 en2 en3 en4 en5 en6 en7 en8 en9 en10 en11 en12 en13 en14 en15 en16 en17 en18 en19 en20 en21 h0 n0) (T70.setTop (mkF m 52 #[.val (.int p1), .val (.int ((p1 &&& (2147483647 : Int32)) % (22 : Int32))), .val (.ref en9), .unset] [(.ref en18), (.ref en9)]))
    refine Go.step (fun _ k => Jvm.RoadKit.acmp (g := (mkF m 52 #[.val (.int p1), .val (.int ((p1 &&& (2147483647 : Int32)) % (22 : Int32))), .val (.ref en9), .unset] [(.ref en18), (.ref en9)])) X70 hx rfl rfl rfl (pc0 := 52) (pc' := 59) (same := false) rfl (hb hby at_52) rfl (decide_eq_false fun q => (Fld.ne F9 F18 (by decide)) (Value.ref.inj q)) (by decide) (by decide) k) ?_
    show Go FrameEnd p e below s 0 0 (Q0 Z p1 en0 en1 en2 en3 en4 en5 en6 en7 en8 en9 en10 en11 en12 en13 en14 en15 en16 en17 en18 en19 en20 en21 h0 n0) (T70.setTop (mkF m 59 #[.val (.int p1), .val (.int ((p1 &&& (2147483647 : Int32)) % (22 : Int32))), .val (.ref en9), .unset] []))
    refine Go.step (fun _ k => XS.iconst X70.here hx rfl (hb hby at_59) k) ?_
    show Go FrameEnd p e below s 0 0 (Q0 Z p1 en0 en1 en2 en3 en4 en5 en6 en7 en8 en9 en10 en11 en12 en13 en14 en15 en16 en17 en18 en19 en20 en21 h0 n0) (T70.setTop (mkF m 60 #[.val (.int p1), .val (.int ((p1 &&& (2147483647 : Int32)) % (22 : Int32))), .val (.ref en9), .unset] [(.int (0 : Int32))]))
    refine Go.step (fun _ k => XS.istoreN X70.here hx rfl (hb hby at_60) rfl (l' := #[.val (.int p1), .val (.int ((p1 &&& (2147483647 : Int32)) % (22 : Int32))), .val (.ref en9), .val (.int (0 : Int32))]) rfl k) ?_
    show Go FrameEnd p e below s 0 0 (Q0 Z p1 en0 en1 en2 en3 en4 en5 en6 en7 en8 en9 en10 en11 en12 en13 en14 en15 en16 en17 en18 en19 en20 en21 h0 n0) (T70.setTop (mkF m 61 #[.val (.int p1), .val (.int ((p1 &&& (2147483647 : Int32)) % (22 : Int32))), .val (.ref en9), .val (.int (0 : Int32))] []))
    refine Go.step (fun _ k => XS.aloadN X70.here hx rfl (hb hby at_61) rfl rfl k) ?_
    show Go FrameEnd p e below s 0 0 (Q0 Z p1 en0 en1 en2 en3 en4 en5 en6 en7 en8 en9 en10 en11 en12 en13 en14 en15 en16 en17 en18 en19 en20 en21 h0 n0) (T70.setTop (mkF m 62 #[.val (.int p1), .val (.int ((p1 &&& (2147483647 : Int32)) % (22 : Int32))), .val (.ref en9), .val (.int (0 : Int32))] [(.ref en9)]))
    obtain ⟨cq71, kq71, q71a, q71b, q71c⟩ := isOf hZ e70 E9
    obtain ⟨_, _, ⟨T71, L71, k71, n71⟩, -, X71, ⟨Lc71, hQ71, l71, y71, z71⟩, st71⟩ := X70.virtualBack hx (y := (⟨"deckmill/Card", "asksChoice", "()Z"⟩ : MethodName)) (z := (⟨"deckmill/Card", "asksChoice", "()Z"⟩ : MethodName)) hown (mvT hZ (hw _ (List.mem_of_getElem? (i := 20) rfl))) (mvT hZ (hw _ (List.mem_of_getElem? (i := 21) rfl))) (notFace_of_selects (args := #[]) (mvT hZ (hw _ (List.mem_of_getElem? (i := 23) rfl)))) (mvT hZ (hw _ (List.mem_of_getElem? (i := 23) rfl))) (mvT hZ (hw _ (List.mem_of_getElem? (i := 22) rfl))) (by decide) (backOf (W := 0) (rm2n l Z a0 hw [] en9  h0 C9) hZ (hw _ (List.mem_of_getElem? (i := 24) rfl)) (hw _ (List.mem_of_getElem? (i := 6) rfl)) (by decide) (by decide)) q71a q71c (g := (mkF m 62 #[.val (.int p1), .val (.int ((p1 &&& (2147483647 : Int32)) % (22 : Int32))), .val (.ref en9), .val (.int (0 : Int32))] [(.ref en9)])) rfl (by rw [hml]; rfl) (Steps.refl _) (argsL := []) (rest := []) (lenOf pd___Z rfl) rfl (by show 2 * 0 + _ ≤ _; exact Nat.le_of_eq rfl) (hb hby at_62) (fun _ _ => ⟨rfl, e70, (by decide : 0 + 0 ≤ _), (by decide : 0 + 0 ≤ _)⟩)
    dsimp only [Pt.U, Pt.locs, Pt.cells, Pt.slots] at X71 l71 y71 z71 st71 hQ71
    subst l71 y71 z71
    obtain ⟨rfl, rfl, e71⟩ := hQ71
    have N71 := Fr.app N1 (Fr.nil n0)
    refine Go.hop st71 ?_
    show Go FrameEnd p e below s 0 0 (Q0 Z p1 en0 en1 en2 en3 en4 en5 en6 en7 en8 en9 en10 en11 en12 en13 en14 en15 en16 en17 en18 en19 en20 en21 h0 n0) (T71.setTop (mkF m 65 #[.val (.int p1), .val (.int ((p1 &&& (2147483647 : Int32)) % (22 : Int32))), .val (.ref en9), .val (.int (0 : Int32))] [(.int (0 : Int32))]))
    refine Go.step (fun _ k => XS.iloadN X71.here hx rfl (hb hby at_65) rfl k) ?_
    show Go FrameEnd p e below s 0 0 (Q0 Z p1 en0 en1 en2 en3 en4 en5 en6 en7 en8 en9 en10 en11 en12 en13 en14 en15 en16 en17 en18 en19 en20 en21 h0 n0) (T71.setTop (mkF m 66 #[.val (.int p1), .val (.int ((p1 &&& (2147483647 : Int32)) % (22 : Int32))), .val (.ref en9), .val (.int (0 : Int32))] [(.int (0 : Int32)), (.int (0 : Int32))]))
    refine Go.step (fun _ k => XS.icmpNo X71.here hx rfl (hb hby at_66) rfl (teq rfl).2 k) ?_
    show Go FrameEnd p e below s 0 0 (Q0 Z p1 en0 en1 en2 en3 en4 en5 en6 en7 en8 en9 en10 en11 en12 en13 en14 en15 en16 en17 en18 en19 en20 en21 h0 n0) (T71.setTop (mkF m 69 #[.val (.int p1), .val (.int ((p1 &&& (2147483647 : Int32)) % (22 : Int32))), .val (.ref en9), .val (.int (0 : Int32))] []))
    refine Go.step (fun _ k => XS.iconst X71.here hx rfl (hb hby at_69) k) ?_
    show Go FrameEnd p e below s 0 0 (Q0 Z p1 en0 en1 en2 en3 en4 en5 en6 en7 en8 en9 en10 en11 en12 en13 en14 en15 en16 en17 en18 en19 en20 en21 h0 n0) (T71.setTop (mkF m 70 #[.val (.int p1), .val (.int ((p1 &&& (2147483647 : Int32)) % (22 : Int32))), .val (.ref en9), .val (.int (0 : Int32))] [(.int (1 : Int32))]))
    refine Go.step (fun _ k => XS.goto X71.here hx rfl (pc0 := 70) (pc' := 74) rfl (hb hby at_70) (by decide) (by decide) k) ?_
    show Go FrameEnd p e below s 0 0 (Q0 Z p1 en0 en1 en2 en3 en4 en5 en6 en7 en8 en9 en10 en11 en12 en13 en14 en15 en16 en17 en18 en19 en20 en21 h0 n0) (T71.setTop (mkF m 74 #[.val (.int p1), .val (.int ((p1 &&& (2147483647 : Int32)) % (22 : Int32))), .val (.ref en9), .val (.int (0 : Int32))] [(.int (1 : Int32))]))
    refine Go.retN X71 hx (t := .boolean) Bd.returns (by simp) (by decide) (hb hby at_74) (BodyLoose.notSynchronized Bd) e71 (by decide) (by decide) ?_
    exact ⟨rfl, N71⟩
  · skip
    rw [q]
    obtain ⟨⟨S0, E0, F0, C0⟩, ⟨S1, E1, F1, C1⟩, ⟨S2, E2, F2, C2⟩, ⟨S3, E3, F3, C3⟩, ⟨S4, E4, F4, C4⟩, ⟨S5, E5, F5, C5⟩, ⟨S6, E6, F6, C6⟩, ⟨S7, E7, F7, C7⟩, ⟨S8, E8, F8, C8⟩, ⟨S9, E9, F9, C9⟩, ⟨S10, E10, F10, C10⟩, ⟨S11, E11, F11, C11⟩, ⟨S12, E12, F12, C12⟩, ⟨S13, E13, F13, C13⟩, ⟨S14, E14, F14, C14⟩, ⟨S15, E15, F15, C15⟩, ⟨S16, E16, F16, C16⟩, ⟨S17, E17, F17, C17⟩, ⟨S18, E18, F18, C18⟩, ⟨S19, E19, F19, C19⟩, ⟨S20, E20, F20, C20⟩, ⟨S21, E21, F21, C21⟩⟩ := hC
    show Go FrameEnd p e below s 0 0 (Q0 Z p1 en0 en1 en2 en3 en4 en5 en6 en7 en8 en9 en10 en11 en12 en13 en14 en15 en16 en17 en18 en19 en20 en21 h0 n0) (T1.setTop (mkF m 12 #[.val (.int p1), .val (.int ((p1 &&& (2147483647 : Int32)) % (22 : Int32))), .unset, .unset] [(.ref en10)]))
    refine Go.step (fun _ k => XS.astoreN X1.here hx rfl (hb hby at_12) rfl rfl (l' := #[.val (.int p1), .val (.int ((p1 &&& (2147483647 : Int32)) % (22 : Int32))), .val (.ref en10), .unset]) rfl k) ?_
    show Go FrameEnd p e below s 0 0 (Q0 Z p1 en0 en1 en2 en3 en4 en5 en6 en7 en8 en9 en10 en11 en12 en13 en14 en15 en16 en17 en18 en19 en20 en21 h0 n0) (T1.setTop (mkF m 13 #[.val (.int p1), .val (.int ((p1 &&& (2147483647 : Int32)) % (22 : Int32))), .val (.ref en10), .unset] []))
    refine Go.step (fun _ k => XS.aloadN X1.here hx rfl (hb hby at_13) rfl rfl k) ?_
    show Go FrameEnd p e below s 0 0 (Q0 Z p1 en0 en1 en2 en3 en4 en5 en6 en7 en8 en9 en10 en11 en12 en13 en14 en15 en16 en17 en18 en19 en20 en21 h0 n0) (T1.setTop (mkF m 14 #[.val (.int p1), .val (.int ((p1 &&& (2147483647 : Int32)) % (22 : Int32))), .val (.ref en10), .unset] [(.ref en10)]))
    obtain ⟨T72, X72, e72, st72⟩ := getS2 X1 hx hZ hown (host := "") (Or.inl (hw _ (List.mem_of_getElem? (i := 8) rfl))) Via.refl e1 S13 (g := (mkF m 14 #[.val (.int p1), .val (.int ((p1 &&& (2147483647 : Int32)) % (22 : Int32))), .val (.ref en10), .unset] [(.ref en10)])) rfl (hb hby at_14)
    refine Go.step st72 ?_
    show Go FrameEnd p e below s 0 0 (Q0 Z p1 en0 en1 en2 en3 en4 en5 en6 en7 en8 en9 en10 en11 en12 en13 en14 en15 en16 en17 en18 en19 en20 en21 h0 n0) (T72.setTop (mkF m 17 #[.val (.int p1), .val (.int ((p1 &&& (2147483647 : Int32)) % (22 : Int32))), .val (.ref en10), .unset] [(.ref en13), (.ref en10)]))
    refine Go.step (fun _ k => Jvm.RoadKit.acmp (g := (mkF m 17 #[.val (.int p1), .val (.int ((p1 &&& (2147483647 : Int32)) % (22 : Int32))), .val (.ref en10), .unset] [(.ref en13), (.ref en10)])) X72 hx rfl rfl rfl (pc0 := 17) (pc' := 20) (same := false) rfl (hb hby at_17) rfl (decide_eq_false fun q => (Fld.ne F10 F13 (by decide)) (Value.ref.inj q)) (by decide) (by decide) k) ?_
    show Go FrameEnd p e below s 0 0 (Q0 Z p1 en0 en1 en2 en3 en4 en5 en6 en7 en8 en9 en10 en11 en12 en13 en14 en15 en16 en17 en18 en19 en20 en21 h0 n0) (T72.setTop (mkF m 20 #[.val (.int p1), .val (.int ((p1 &&& (2147483647 : Int32)) % (22 : Int32))), .val (.ref en10), .unset] []))
    refine Go.step (fun _ k => XS.aloadN X72.here hx rfl (hb hby at_20) rfl rfl k) ?_
    show Go FrameEnd p e below s 0 0 (Q0 Z p1 en0 en1 en2 en3 en4 en5 en6 en7 en8 en9 en10 en11 en12 en13 en14 en15 en16 en17 en18 en19 en20 en21 h0 n0) (T72.setTop (mkF m 21 #[.val (.int p1), .val (.int ((p1 &&& (2147483647 : Int32)) % (22 : Int32))), .val (.ref en10), .unset] [(.ref en10)]))
    obtain ⟨T73, X73, e73, st73⟩ := getS2 X72 hx hZ hown (host := "") (Or.inl (hw _ (List.mem_of_getElem? (i := 10) rfl))) Via.refl e72 S14 (g := (mkF m 21 #[.val (.int p1), .val (.int ((p1 &&& (2147483647 : Int32)) % (22 : Int32))), .val (.ref en10), .unset] [(.ref en10)])) rfl (hb hby at_21)
    refine Go.step st73 ?_
    show Go FrameEnd p e below s 0 0 (Q0 Z p1 en0 en1 en2 en3 en4 en5 en6 en7 en8 en9 en10 en11 en12 en13 en14 en15 en16 en17 en18 en19 en20 en21 h0 n0) (T73.setTop (mkF m 24 #[.val (.int p1), .val (.int ((p1 &&& (2147483647 : Int32)) % (22 : Int32))), .val (.ref en10), .unset] [(.ref en14), (.ref en10)]))
    refine Go.step (fun _ k => Jvm.RoadKit.acmp (g := (mkF m 24 #[.val (.int p1), .val (.int ((p1 &&& (2147483647 : Int32)) % (22 : Int32))), .val (.ref en10), .unset] [(.ref en14), (.ref en10)])) X73 hx rfl rfl rfl (pc0 := 24) (pc' := 27) (same := false) rfl (hb hby at_24) rfl (decide_eq_false fun q => (Fld.ne F10 F14 (by decide)) (Value.ref.inj q)) (by decide) (by decide) k) ?_
    show Go FrameEnd p e below s 0 0 (Q0 Z p1 en0 en1 en2 en3 en4 en5 en6 en7 en8 en9 en10 en11 en12 en13 en14 en15 en16 en17 en18 en19 en20 en21 h0 n0) (T73.setTop (mkF m 27 #[.val (.int p1), .val (.int ((p1 &&& (2147483647 : Int32)) % (22 : Int32))), .val (.ref en10), .unset] []))
    refine Go.step (fun _ k => XS.aloadN X73.here hx rfl (hb hby at_27) rfl rfl k) ?_
    show Go FrameEnd p e below s 0 0 (Q0 Z p1 en0 en1 en2 en3 en4 en5 en6 en7 en8 en9 en10 en11 en12 en13 en14 en15 en16 en17 en18 en19 en20 en21 h0 n0) (T73.setTop (mkF m 28 #[.val (.int p1), .val (.int ((p1 &&& (2147483647 : Int32)) % (22 : Int32))), .val (.ref en10), .unset] [(.ref en10)]))
    obtain ⟨T74, X74, e74, st74⟩ := getS2 X73 hx hZ hown (host := "") (Or.inl (hw _ (List.mem_of_getElem? (i := 12) rfl))) Via.refl e73 S15 (g := (mkF m 28 #[.val (.int p1), .val (.int ((p1 &&& (2147483647 : Int32)) % (22 : Int32))), .val (.ref en10), .unset] [(.ref en10)])) rfl (hb hby at_28)
    refine Go.step st74 ?_
    show Go FrameEnd p e below s 0 0 (Q0 Z p1 en0 en1 en2 en3 en4 en5 en6 en7 en8 en9 en10 en11 en12 en13 en14 en15 en16 en17 en18 en19 en20 en21 h0 n0) (T74.setTop (mkF m 31 #[.val (.int p1), .val (.int ((p1 &&& (2147483647 : Int32)) % (22 : Int32))), .val (.ref en10), .unset] [(.ref en15), (.ref en10)]))
    refine Go.step (fun _ k => Jvm.RoadKit.acmp (g := (mkF m 31 #[.val (.int p1), .val (.int ((p1 &&& (2147483647 : Int32)) % (22 : Int32))), .val (.ref en10), .unset] [(.ref en15), (.ref en10)])) X74 hx rfl rfl rfl (pc0 := 31) (pc' := 34) (same := false) rfl (hb hby at_31) rfl (decide_eq_false fun q => (Fld.ne F10 F15 (by decide)) (Value.ref.inj q)) (by decide) (by decide) k) ?_
    show Go FrameEnd p e below s 0 0 (Q0 Z p1 en0 en1 en2 en3 en4 en5 en6 en7 en8 en9 en10 en11 en12 en13 en14 en15 en16 en17 en18 en19 en20 en21 h0 n0) (T74.setTop (mkF m 34 #[.val (.int p1), .val (.int ((p1 &&& (2147483647 : Int32)) % (22 : Int32))), .val (.ref en10), .unset] []))
    refine Go.step (fun _ k => XS.aloadN X74.here hx rfl (hb hby at_34) rfl rfl k) ?_
    show Go FrameEnd p e below s 0 0 (Q0 Z p1 en0 en1 en2 en3 en4 en5 en6 en7 en8 en9 en10 en11 en12 en13 en14 en15 en16 en17 en18 en19 en20 en21 h0 n0) (T74.setTop (mkF m 35 #[.val (.int p1), .val (.int ((p1 &&& (2147483647 : Int32)) % (22 : Int32))), .val (.ref en10), .unset] [(.ref en10)]))
    obtain ⟨T75, X75, e75, st75⟩ := getS2 X74 hx hZ hown (host := "") (Or.inl (hw _ (List.mem_of_getElem? (i := 14) rfl))) Via.refl e74 S16 (g := (mkF m 35 #[.val (.int p1), .val (.int ((p1 &&& (2147483647 : Int32)) % (22 : Int32))), .val (.ref en10), .unset] [(.ref en10)])) rfl (hb hby at_35)
    refine Go.step st75 ?_
    show Go FrameEnd p e below s 0 0 (Q0 Z p1 en0 en1 en2 en3 en4 en5 en6 en7 en8 en9 en10 en11 en12 en13 en14 en15 en16 en17 en18 en19 en20 en21 h0 n0) (T75.setTop (mkF m 38 #[.val (.int p1), .val (.int ((p1 &&& (2147483647 : Int32)) % (22 : Int32))), .val (.ref en10), .unset] [(.ref en16), (.ref en10)]))
    refine Go.step (fun _ k => Jvm.RoadKit.acmp (g := (mkF m 38 #[.val (.int p1), .val (.int ((p1 &&& (2147483647 : Int32)) % (22 : Int32))), .val (.ref en10), .unset] [(.ref en16), (.ref en10)])) X75 hx rfl rfl rfl (pc0 := 38) (pc' := 41) (same := false) rfl (hb hby at_38) rfl (decide_eq_false fun q => (Fld.ne F10 F16 (by decide)) (Value.ref.inj q)) (by decide) (by decide) k) ?_
    show Go FrameEnd p e below s 0 0 (Q0 Z p1 en0 en1 en2 en3 en4 en5 en6 en7 en8 en9 en10 en11 en12 en13 en14 en15 en16 en17 en18 en19 en20 en21 h0 n0) (T75.setTop (mkF m 41 #[.val (.int p1), .val (.int ((p1 &&& (2147483647 : Int32)) % (22 : Int32))), .val (.ref en10), .unset] []))
    refine Go.step (fun _ k => XS.aloadN X75.here hx rfl (hb hby at_41) rfl rfl k) ?_
    show Go FrameEnd p e below s 0 0 (Q0 Z p1 en0 en1 en2 en3 en4 en5 en6 en7 en8 en9 en10 en11 en12 en13 en14 en15 en16 en17 en18 en19 en20 en21 h0 n0) (T75.setTop (mkF m 42 #[.val (.int p1), .val (.int ((p1 &&& (2147483647 : Int32)) % (22 : Int32))), .val (.ref en10), .unset] [(.ref en10)]))
    obtain ⟨T76, X76, e76, st76⟩ := getS2 X75 hx hZ hown (host := "") (Or.inl (hw _ (List.mem_of_getElem? (i := 16) rfl))) Via.refl e75 S17 (g := (mkF m 42 #[.val (.int p1), .val (.int ((p1 &&& (2147483647 : Int32)) % (22 : Int32))), .val (.ref en10), .unset] [(.ref en10)])) rfl (hb hby at_42)
    refine Go.step st76 ?_
    show Go FrameEnd p e below s 0 0 (Q0 Z p1 en0 en1 en2 en3 en4 en5 en6 en7 en8 en9 en10 en11 en12 en13 en14 en15 en16 en17 en18 en19 en20 en21 h0 n0) (T76.setTop (mkF m 45 #[.val (.int p1), .val (.int ((p1 &&& (2147483647 : Int32)) % (22 : Int32))), .val (.ref en10), .unset] [(.ref en17), (.ref en10)]))
    refine Go.step (fun _ k => Jvm.RoadKit.acmp (g := (mkF m 45 #[.val (.int p1), .val (.int ((p1 &&& (2147483647 : Int32)) % (22 : Int32))), .val (.ref en10), .unset] [(.ref en17), (.ref en10)])) X76 hx rfl rfl rfl (pc0 := 45) (pc' := 48) (same := false) rfl (hb hby at_45) rfl (decide_eq_false fun q => (Fld.ne F10 F17 (by decide)) (Value.ref.inj q)) (by decide) (by decide) k) ?_
    show Go FrameEnd p e below s 0 0 (Q0 Z p1 en0 en1 en2 en3 en4 en5 en6 en7 en8 en9 en10 en11 en12 en13 en14 en15 en16 en17 en18 en19 en20 en21 h0 n0) (T76.setTop (mkF m 48 #[.val (.int p1), .val (.int ((p1 &&& (2147483647 : Int32)) % (22 : Int32))), .val (.ref en10), .unset] []))
    refine Go.step (fun _ k => XS.aloadN X76.here hx rfl (hb hby at_48) rfl rfl k) ?_
    show Go FrameEnd p e below s 0 0 (Q0 Z p1 en0 en1 en2 en3 en4 en5 en6 en7 en8 en9 en10 en11 en12 en13 en14 en15 en16 en17 en18 en19 en20 en21 h0 n0) (T76.setTop (mkF m 49 #[.val (.int p1), .val (.int ((p1 &&& (2147483647 : Int32)) % (22 : Int32))), .val (.ref en10), .unset] [(.ref en10)]))
    obtain ⟨T77, X77, e77, st77⟩ := getS2 X76 hx hZ hown (host := "") (Or.inl (hw _ (List.mem_of_getElem? (i := 18) rfl))) Via.refl e76 S18 (g := (mkF m 49 #[.val (.int p1), .val (.int ((p1 &&& (2147483647 : Int32)) % (22 : Int32))), .val (.ref en10), .unset] [(.ref en10)])) rfl (hb hby at_49)
    refine Go.step st77 ?_
    show Go FrameEnd p e below s 0 0 (Q0 Z p1 en0 en1 en2 en3 en4 en5 en6 en7 en8 en9 en10 en11 en12 en13 en14 en15 en16 en17 en18 en19 en20 en21 h0 n0) (T77.setTop (mkF m 52 #[.val (.int p1), .val (.int ((p1 &&& (2147483647 : Int32)) % (22 : Int32))), .val (.ref en10), .unset] [(.ref en18), (.ref en10)]))
    refine Go.step (fun _ k => Jvm.RoadKit.acmp (g := (mkF m 52 #[.val (.int p1), .val (.int ((p1 &&& (2147483647 : Int32)) % (22 : Int32))), .val (.ref en10), .unset] [(.ref en18), (.ref en10)])) X77 hx rfl rfl rfl (pc0 := 52) (pc' := 59) (same := false) rfl (hb hby at_52) rfl (decide_eq_false fun q => (Fld.ne F10 F18 (by decide)) (Value.ref.inj q)) (by decide) (by decide) k) ?_
    show Go FrameEnd p e below s 0 0 (Q0 Z p1 en0 en1 en2 en3 en4 en5 en6 en7 en8 en9 en10 en11 en12 en13 en14 en15 en16 en17 en18 en19 en20 en21 h0 n0) (T77.setTop (mkF m 59 #[.val (.int p1), .val (.int ((p1 &&& (2147483647 : Int32)) % (22 : Int32))), .val (.ref en10), .unset] []))
    refine Go.step (fun _ k => XS.iconst X77.here hx rfl (hb hby at_59) k) ?_
    show Go FrameEnd p e below s 0 0 (Q0 Z p1 en0 en1 en2 en3 en4 en5 en6 en7 en8 en9 en10 en11 en12 en13 en14 en15 en16 en17 en18 en19 en20 en21 h0 n0) (T77.setTop (mkF m 60 #[.val (.int p1), .val (.int ((p1 &&& (2147483647 : Int32)) % (22 : Int32))), .val (.ref en10), .unset] [(.int (0 : Int32))]))
    refine Go.step (fun _ k => XS.istoreN X77.here hx rfl (hb hby at_60) rfl (l' := #[.val (.int p1), .val (.int ((p1 &&& (2147483647 : Int32)) % (22 : Int32))), .val (.ref en10), .val (.int (0 : Int32))]) rfl k) ?_
    show Go FrameEnd p e below s 0 0 (Q0 Z p1 en0 en1 en2 en3 en4 en5 en6 en7 en8 en9 en10 en11 en12 en13 en14 en15 en16 en17 en18 en19 en20 en21 h0 n0) (T77.setTop (mkF m 61 #[.val (.int p1), .val (.int ((p1 &&& (2147483647 : Int32)) % (22 : Int32))), .val (.ref en10), .val (.int (0 : Int32))] []))
    refine Go.step (fun _ k => XS.aloadN X77.here hx rfl (hb hby at_61) rfl rfl k) ?_
    show Go FrameEnd p e below s 0 0 (Q0 Z p1 en0 en1 en2 en3 en4 en5 en6 en7 en8 en9 en10 en11 en12 en13 en14 en15 en16 en17 en18 en19 en20 en21 h0 n0) (T77.setTop (mkF m 62 #[.val (.int p1), .val (.int ((p1 &&& (2147483647 : Int32)) % (22 : Int32))), .val (.ref en10), .val (.int (0 : Int32))] [(.ref en10)]))
    obtain ⟨cq78, kq78, q78a, q78b, q78c⟩ := isOf hZ e77 E10
    obtain ⟨_, _, ⟨T78, L78, k78, n78⟩, -, X78, ⟨Lc78, hQ78, l78, y78, z78⟩, st78⟩ := X77.virtualBack hx (y := (⟨"deckmill/Card", "asksChoice", "()Z"⟩ : MethodName)) (z := (⟨"deckmill/Card", "asksChoice", "()Z"⟩ : MethodName)) hown (mvT hZ (hw _ (List.mem_of_getElem? (i := 20) rfl))) (mvT hZ (hw _ (List.mem_of_getElem? (i := 21) rfl))) (notFace_of_selects (args := #[]) (mvT hZ (hw _ (List.mem_of_getElem? (i := 23) rfl)))) (mvT hZ (hw _ (List.mem_of_getElem? (i := 23) rfl))) (mvT hZ (hw _ (List.mem_of_getElem? (i := 22) rfl))) (by decide) (backOf (W := 0) (rm2n l Z a0 hw [] en10  h0 C10) hZ (hw _ (List.mem_of_getElem? (i := 24) rfl)) (hw _ (List.mem_of_getElem? (i := 6) rfl)) (by decide) (by decide)) q78a q78c (g := (mkF m 62 #[.val (.int p1), .val (.int ((p1 &&& (2147483647 : Int32)) % (22 : Int32))), .val (.ref en10), .val (.int (0 : Int32))] [(.ref en10)])) rfl (by rw [hml]; rfl) (Steps.refl _) (argsL := []) (rest := []) (lenOf pd___Z rfl) rfl (by show 2 * 0 + _ ≤ _; exact Nat.le_of_eq rfl) (hb hby at_62) (fun _ _ => ⟨rfl, e77, (by decide : 0 + 0 ≤ _), (by decide : 0 + 0 ≤ _)⟩)
    dsimp only [Pt.U, Pt.locs, Pt.cells, Pt.slots] at X78 l78 y78 z78 st78 hQ78
    subst l78 y78 z78
    obtain ⟨rfl, rfl, e78⟩ := hQ78
    have N78 := Fr.app N1 (Fr.nil n0)
    refine Go.hop st78 ?_
    show Go FrameEnd p e below s 0 0 (Q0 Z p1 en0 en1 en2 en3 en4 en5 en6 en7 en8 en9 en10 en11 en12 en13 en14 en15 en16 en17 en18 en19 en20 en21 h0 n0) (T78.setTop (mkF m 65 #[.val (.int p1), .val (.int ((p1 &&& (2147483647 : Int32)) % (22 : Int32))), .val (.ref en10), .val (.int (0 : Int32))] [(.int (0 : Int32))]))
    refine Go.step (fun _ k => XS.iloadN X78.here hx rfl (hb hby at_65) rfl k) ?_
    show Go FrameEnd p e below s 0 0 (Q0 Z p1 en0 en1 en2 en3 en4 en5 en6 en7 en8 en9 en10 en11 en12 en13 en14 en15 en16 en17 en18 en19 en20 en21 h0 n0) (T78.setTop (mkF m 66 #[.val (.int p1), .val (.int ((p1 &&& (2147483647 : Int32)) % (22 : Int32))), .val (.ref en10), .val (.int (0 : Int32))] [(.int (0 : Int32)), (.int (0 : Int32))]))
    refine Go.step (fun _ k => XS.icmpNo X78.here hx rfl (hb hby at_66) rfl (teq rfl).2 k) ?_
    show Go FrameEnd p e below s 0 0 (Q0 Z p1 en0 en1 en2 en3 en4 en5 en6 en7 en8 en9 en10 en11 en12 en13 en14 en15 en16 en17 en18 en19 en20 en21 h0 n0) (T78.setTop (mkF m 69 #[.val (.int p1), .val (.int ((p1 &&& (2147483647 : Int32)) % (22 : Int32))), .val (.ref en10), .val (.int (0 : Int32))] []))
    refine Go.step (fun _ k => XS.iconst X78.here hx rfl (hb hby at_69) k) ?_
    show Go FrameEnd p e below s 0 0 (Q0 Z p1 en0 en1 en2 en3 en4 en5 en6 en7 en8 en9 en10 en11 en12 en13 en14 en15 en16 en17 en18 en19 en20 en21 h0 n0) (T78.setTop (mkF m 70 #[.val (.int p1), .val (.int ((p1 &&& (2147483647 : Int32)) % (22 : Int32))), .val (.ref en10), .val (.int (0 : Int32))] [(.int (1 : Int32))]))
    refine Go.step (fun _ k => XS.goto X78.here hx rfl (pc0 := 70) (pc' := 74) rfl (hb hby at_70) (by decide) (by decide) k) ?_
    show Go FrameEnd p e below s 0 0 (Q0 Z p1 en0 en1 en2 en3 en4 en5 en6 en7 en8 en9 en10 en11 en12 en13 en14 en15 en16 en17 en18 en19 en20 en21 h0 n0) (T78.setTop (mkF m 74 #[.val (.int p1), .val (.int ((p1 &&& (2147483647 : Int32)) % (22 : Int32))), .val (.ref en10), .val (.int (0 : Int32))] [(.int (1 : Int32))]))
    refine Go.retN X78 hx (t := .boolean) Bd.returns (by simp) (by decide) (hb hby at_74) (BodyLoose.notSynchronized Bd) e78 (by decide) (by decide) ?_
    exact ⟨rfl, N78⟩
  · skip
    rw [q]
    obtain ⟨⟨S0, E0, F0, C0⟩, ⟨S1, E1, F1, C1⟩, ⟨S2, E2, F2, C2⟩, ⟨S3, E3, F3, C3⟩, ⟨S4, E4, F4, C4⟩, ⟨S5, E5, F5, C5⟩, ⟨S6, E6, F6, C6⟩, ⟨S7, E7, F7, C7⟩, ⟨S8, E8, F8, C8⟩, ⟨S9, E9, F9, C9⟩, ⟨S10, E10, F10, C10⟩, ⟨S11, E11, F11, C11⟩, ⟨S12, E12, F12, C12⟩, ⟨S13, E13, F13, C13⟩, ⟨S14, E14, F14, C14⟩, ⟨S15, E15, F15, C15⟩, ⟨S16, E16, F16, C16⟩, ⟨S17, E17, F17, C17⟩, ⟨S18, E18, F18, C18⟩, ⟨S19, E19, F19, C19⟩, ⟨S20, E20, F20, C20⟩, ⟨S21, E21, F21, C21⟩⟩ := hC
    show Go FrameEnd p e below s 0 0 (Q0 Z p1 en0 en1 en2 en3 en4 en5 en6 en7 en8 en9 en10 en11 en12 en13 en14 en15 en16 en17 en18 en19 en20 en21 h0 n0) (T1.setTop (mkF m 12 #[.val (.int p1), .val (.int ((p1 &&& (2147483647 : Int32)) % (22 : Int32))), .unset, .unset] [(.ref en11)]))
    refine Go.step (fun _ k => XS.astoreN X1.here hx rfl (hb hby at_12) rfl rfl (l' := #[.val (.int p1), .val (.int ((p1 &&& (2147483647 : Int32)) % (22 : Int32))), .val (.ref en11), .unset]) rfl k) ?_
    show Go FrameEnd p e below s 0 0 (Q0 Z p1 en0 en1 en2 en3 en4 en5 en6 en7 en8 en9 en10 en11 en12 en13 en14 en15 en16 en17 en18 en19 en20 en21 h0 n0) (T1.setTop (mkF m 13 #[.val (.int p1), .val (.int ((p1 &&& (2147483647 : Int32)) % (22 : Int32))), .val (.ref en11), .unset] []))
    refine Go.step (fun _ k => XS.aloadN X1.here hx rfl (hb hby at_13) rfl rfl k) ?_
    show Go FrameEnd p e below s 0 0 (Q0 Z p1 en0 en1 en2 en3 en4 en5 en6 en7 en8 en9 en10 en11 en12 en13 en14 en15 en16 en17 en18 en19 en20 en21 h0 n0) (T1.setTop (mkF m 14 #[.val (.int p1), .val (.int ((p1 &&& (2147483647 : Int32)) % (22 : Int32))), .val (.ref en11), .unset] [(.ref en11)]))
    obtain ⟨T79, X79, e79, st79⟩ := getS2 X1 hx hZ hown (host := "") (Or.inl (hw _ (List.mem_of_getElem? (i := 8) rfl))) Via.refl e1 S13 (g := (mkF m 14 #[.val (.int p1), .val (.int ((p1 &&& (2147483647 : Int32)) % (22 : Int32))), .val (.ref en11), .unset] [(.ref en11)])) rfl (hb hby at_14)
    refine Go.step st79 ?_
    show Go FrameEnd p e below s 0 0 (Q0 Z p1 en0 en1 en2 en3 en4 en5 en6 en7 en8 en9 en10 en11 en12 en13 en14 en15 en16 en17 en18 en19 en20 en21 h0 n0) (T79.setTop (mkF m 17 #[.val (.int p1), .val (.int ((p1 &&& (2147483647 : Int32)) % (22 : Int32))), .val (.ref en11), .unset] [(.ref en13), (.ref en11)]))
    refine Go.step (fun _ k => Jvm.RoadKit.acmp (g := (mkF m 17 #[.val (.int p1), .val (.int ((p1 &&& (2147483647 : Int32)) % (22 : Int32))), .val (.ref en11), .unset] [(.ref en13), (.ref en11)])) X79 hx rfl rfl rfl (pc0 := 17) (pc' := 20) (same := false) rfl (hb hby at_17) rfl (decide_eq_false fun q => (Fld.ne F11 F13 (by decide)) (Value.ref.inj q)) (by decide) (by decide) k) ?_
    show Go FrameEnd p e below s 0 0 (Q0 Z p1 en0 en1 en2 en3 en4 en5 en6 en7 en8 en9 en10 en11 en12 en13 en14 en15 en16 en17 en18 en19 en20 en21 h0 n0) (T79.setTop (mkF m 20 #[.val (.int p1), .val (.int ((p1 &&& (2147483647 : Int32)) % (22 : Int32))), .val (.ref en11), .unset] []))
    refine Go.step (fun _ k => XS.aloadN X79.here hx rfl (hb hby at_20) rfl rfl k) ?_
    show Go FrameEnd p e below s 0 0 (Q0 Z p1 en0 en1 en2 en3 en4 en5 en6 en7 en8 en9 en10 en11 en12 en13 en14 en15 en16 en17 en18 en19 en20 en21 h0 n0) (T79.setTop (mkF m 21 #[.val (.int p1), .val (.int ((p1 &&& (2147483647 : Int32)) % (22 : Int32))), .val (.ref en11), .unset] [(.ref en11)]))
    obtain ⟨T80, X80, e80, st80⟩ := getS2 X79 hx hZ hown (host := "") (Or.inl (hw _ (List.mem_of_getElem? (i := 10) rfl))) Via.refl e79 S14 (g := (mkF m 21 #[.val (.int p1), .val (.int ((p1 &&& (2147483647 : Int32)) % (22 : Int32))), .val (.ref en11), .unset] [(.ref en11)])) rfl (hb hby at_21)
    refine Go.step st80 ?_
    show Go FrameEnd p e below s 0 0 (Q0 Z p1 en0 en1 en2 en3 en4 en5 en6 en7 en8 en9 en10 en11 en12 en13 en14 en15 en16 en17 en18 en19 en20 en21 h0 n0) (T80.setTop (mkF m 24 #[.val (.int p1), .val (.int ((p1 &&& (2147483647 : Int32)) % (22 : Int32))), .val (.ref en11), .unset] [(.ref en14), (.ref en11)]))
    refine Go.step (fun _ k => Jvm.RoadKit.acmp (g := (mkF m 24 #[.val (.int p1), .val (.int ((p1 &&& (2147483647 : Int32)) % (22 : Int32))), .val (.ref en11), .unset] [(.ref en14), (.ref en11)])) X80 hx rfl rfl rfl (pc0 := 24) (pc' := 27) (same := false) rfl (hb hby at_24) rfl (decide_eq_false fun q => (Fld.ne F11 F14 (by decide)) (Value.ref.inj q)) (by decide) (by decide) k) ?_
    show Go FrameEnd p e below s 0 0 (Q0 Z p1 en0 en1 en2 en3 en4 en5 en6 en7 en8 en9 en10 en11 en12 en13 en14 en15 en16 en17 en18 en19 en20 en21 h0 n0) (T80.setTop (mkF m 27 #[.val (.int p1), .val (.int ((p1 &&& (2147483647 : Int32)) % (22 : Int32))), .val (.ref en11), .unset] []))
    refine Go.step (fun _ k => XS.aloadN X80.here hx rfl (hb hby at_27) rfl rfl k) ?_
    show Go FrameEnd p e below s 0 0 (Q0 Z p1 en0 en1 en2 en3 en4 en5 en6 en7 en8 en9 en10 en11 en12 en13 en14 en15 en16 en17 en18 en19 en20 en21 h0 n0) (T80.setTop (mkF m 28 #[.val (.int p1), .val (.int ((p1 &&& (2147483647 : Int32)) % (22 : Int32))), .val (.ref en11), .unset] [(.ref en11)]))
    obtain ⟨T81, X81, e81, st81⟩ := getS2 X80 hx hZ hown (host := "") (Or.inl (hw _ (List.mem_of_getElem? (i := 12) rfl))) Via.refl e80 S15 (g := (mkF m 28 #[.val (.int p1), .val (.int ((p1 &&& (2147483647 : Int32)) % (22 : Int32))), .val (.ref en11), .unset] [(.ref en11)])) rfl (hb hby at_28)
    refine Go.step st81 ?_
    show Go FrameEnd p e below s 0 0 (Q0 Z p1 en0 en1 en2 en3 en4 en5 en6 en7 en8 en9 en10 en11 en12 en13 en14 en15 en16 en17 en18 en19 en20 en21 h0 n0) (T81.setTop (mkF m 31 #[.val (.int p1), .val (.int ((p1 &&& (2147483647 : Int32)) % (22 : Int32))), .val (.ref en11), .unset] [(.ref en15), (.ref en11)]))
    refine Go.step (fun _ k => Jvm.RoadKit.acmp (g := (mkF m 31 #[.val (.int p1), .val (.int ((p1 &&& (2147483647 : Int32)) % (22 : Int32))), .val (.ref en11), .unset] [(.ref en15), (.ref en11)])) X81 hx rfl rfl rfl (pc0 := 31) (pc' := 34) (same := false) rfl (hb hby at_31) rfl (decide_eq_false fun q => (Fld.ne F11 F15 (by decide)) (Value.ref.inj q)) (by decide) (by decide) k) ?_
    show Go FrameEnd p e below s 0 0 (Q0 Z p1 en0 en1 en2 en3 en4 en5 en6 en7 en8 en9 en10 en11 en12 en13 en14 en15 en16 en17 en18 en19 en20 en21 h0 n0) (T81.setTop (mkF m 34 #[.val (.int p1), .val (.int ((p1 &&& (2147483647 : Int32)) % (22 : Int32))), .val (.ref en11), .unset] []))
    refine Go.step (fun _ k => XS.aloadN X81.here hx rfl (hb hby at_34) rfl rfl k) ?_
    show Go FrameEnd p e below s 0 0 (Q0 Z p1 en0 en1 en2 en3 en4 en5 en6 en7 en8 en9 en10 en11 en12 en13 en14 en15 en16 en17 en18 en19 en20 en21 h0 n0) (T81.setTop (mkF m 35 #[.val (.int p1), .val (.int ((p1 &&& (2147483647 : Int32)) % (22 : Int32))), .val (.ref en11), .unset] [(.ref en11)]))
    obtain ⟨T82, X82, e82, st82⟩ := getS2 X81 hx hZ hown (host := "") (Or.inl (hw _ (List.mem_of_getElem? (i := 14) rfl))) Via.refl e81 S16 (g := (mkF m 35 #[.val (.int p1), .val (.int ((p1 &&& (2147483647 : Int32)) % (22 : Int32))), .val (.ref en11), .unset] [(.ref en11)])) rfl (hb hby at_35)
    refine Go.step st82 ?_
    show Go FrameEnd p e below s 0 0 (Q0 Z p1 en0 en1 en2 en3 en4 en5 en6 en7 en8 en9 en10 en11 en12 en13 en14 en15 en16 en17 en18 en19 en20 en21 h0 n0) (T82.setTop (mkF m 38 #[.val (.int p1), .val (.int ((p1 &&& (2147483647 : Int32)) % (22 : Int32))), .val (.ref en11), .unset] [(.ref en16), (.ref en11)]))
    refine Go.step (fun _ k => Jvm.RoadKit.acmp (g := (mkF m 38 #[.val (.int p1), .val (.int ((p1 &&& (2147483647 : Int32)) % (22 : Int32))), .val (.ref en11), .unset] [(.ref en16), (.ref en11)])) X82 hx rfl rfl rfl (pc0 := 38) (pc' := 41) (same := false) rfl (hb hby at_38) rfl (decide_eq_false fun q => (Fld.ne F11 F16 (by decide)) (Value.ref.inj q)) (by decide) (by decide) k) ?_
    show Go FrameEnd p e below s 0 0 (Q0 Z p1 en0 en1 en2 en3 en4 en5 en6 en7 en8 en9 en10 en11 en12 en13 en14 en15 en16 en17 en18 en19 en20 en21 h0 n0) (T82.setTop (mkF m 41 #[.val (.int p1), .val (.int ((p1 &&& (2147483647 : Int32)) % (22 : Int32))), .val (.ref en11), .unset] []))
    refine Go.step (fun _ k => XS.aloadN X82.here hx rfl (hb hby at_41) rfl rfl k) ?_
    show Go FrameEnd p e below s 0 0 (Q0 Z p1 en0 en1 en2 en3 en4 en5 en6 en7 en8 en9 en10 en11 en12 en13 en14 en15 en16 en17 en18 en19 en20 en21 h0 n0) (T82.setTop (mkF m 42 #[.val (.int p1), .val (.int ((p1 &&& (2147483647 : Int32)) % (22 : Int32))), .val (.ref en11), .unset] [(.ref en11)]))
    obtain ⟨T83, X83, e83, st83⟩ := getS2 X82 hx hZ hown (host := "") (Or.inl (hw _ (List.mem_of_getElem? (i := 16) rfl))) Via.refl e82 S17 (g := (mkF m 42 #[.val (.int p1), .val (.int ((p1 &&& (2147483647 : Int32)) % (22 : Int32))), .val (.ref en11), .unset] [(.ref en11)])) rfl (hb hby at_42)
    refine Go.step st83 ?_
    show Go FrameEnd p e below s 0 0 (Q0 Z p1 en0 en1 en2 en3 en4 en5 en6 en7 en8 en9 en10 en11 en12 en13 en14 en15 en16 en17 en18 en19 en20 en21 h0 n0) (T83.setTop (mkF m 45 #[.val (.int p1), .val (.int ((p1 &&& (2147483647 : Int32)) % (22 : Int32))), .val (.ref en11), .unset] [(.ref en17), (.ref en11)]))
    refine Go.step (fun _ k => Jvm.RoadKit.acmp (g := (mkF m 45 #[.val (.int p1), .val (.int ((p1 &&& (2147483647 : Int32)) % (22 : Int32))), .val (.ref en11), .unset] [(.ref en17), (.ref en11)])) X83 hx rfl rfl rfl (pc0 := 45) (pc' := 48) (same := false) rfl (hb hby at_45) rfl (decide_eq_false fun q => (Fld.ne F11 F17 (by decide)) (Value.ref.inj q)) (by decide) (by decide) k) ?_
    show Go FrameEnd p e below s 0 0 (Q0 Z p1 en0 en1 en2 en3 en4 en5 en6 en7 en8 en9 en10 en11 en12 en13 en14 en15 en16 en17 en18 en19 en20 en21 h0 n0) (T83.setTop (mkF m 48 #[.val (.int p1), .val (.int ((p1 &&& (2147483647 : Int32)) % (22 : Int32))), .val (.ref en11), .unset] []))
    refine Go.step (fun _ k => XS.aloadN X83.here hx rfl (hb hby at_48) rfl rfl k) ?_
    show Go FrameEnd p e below s 0 0 (Q0 Z p1 en0 en1 en2 en3 en4 en5 en6 en7 en8 en9 en10 en11 en12 en13 en14 en15 en16 en17 en18 en19 en20 en21 h0 n0) (T83.setTop (mkF m 49 #[.val (.int p1), .val (.int ((p1 &&& (2147483647 : Int32)) % (22 : Int32))), .val (.ref en11), .unset] [(.ref en11)]))
    obtain ⟨T84, X84, e84, st84⟩ := getS2 X83 hx hZ hown (host := "") (Or.inl (hw _ (List.mem_of_getElem? (i := 18) rfl))) Via.refl e83 S18 (g := (mkF m 49 #[.val (.int p1), .val (.int ((p1 &&& (2147483647 : Int32)) % (22 : Int32))), .val (.ref en11), .unset] [(.ref en11)])) rfl (hb hby at_49)
    refine Go.step st84 ?_
    show Go FrameEnd p e below s 0 0 (Q0 Z p1 en0 en1 en2 en3 en4 en5 en6 en7 en8 en9 en10 en11 en12 en13 en14 en15 en16 en17 en18 en19 en20 en21 h0 n0) (T84.setTop (mkF m 52 #[.val (.int p1), .val (.int ((p1 &&& (2147483647 : Int32)) % (22 : Int32))), .val (.ref en11), .unset] [(.ref en18), (.ref en11)]))
    refine Go.step (fun _ k => Jvm.RoadKit.acmp (g := (mkF m 52 #[.val (.int p1), .val (.int ((p1 &&& (2147483647 : Int32)) % (22 : Int32))), .val (.ref en11), .unset] [(.ref en18), (.ref en11)])) X84 hx rfl rfl rfl (pc0 := 52) (pc' := 59) (same := false) rfl (hb hby at_52) rfl (decide_eq_false fun q => (Fld.ne F11 F18 (by decide)) (Value.ref.inj q)) (by decide) (by decide) k) ?_
    show Go FrameEnd p e below s 0 0 (Q0 Z p1 en0 en1 en2 en3 en4 en5 en6 en7 en8 en9 en10 en11 en12 en13 en14 en15 en16 en17 en18 en19 en20 en21 h0 n0) (T84.setTop (mkF m 59 #[.val (.int p1), .val (.int ((p1 &&& (2147483647 : Int32)) % (22 : Int32))), .val (.ref en11), .unset] []))
    refine Go.step (fun _ k => XS.iconst X84.here hx rfl (hb hby at_59) k) ?_
    show Go FrameEnd p e below s 0 0 (Q0 Z p1 en0 en1 en2 en3 en4 en5 en6 en7 en8 en9 en10 en11 en12 en13 en14 en15 en16 en17 en18 en19 en20 en21 h0 n0) (T84.setTop (mkF m 60 #[.val (.int p1), .val (.int ((p1 &&& (2147483647 : Int32)) % (22 : Int32))), .val (.ref en11), .unset] [(.int (0 : Int32))]))
    refine Go.step (fun _ k => XS.istoreN X84.here hx rfl (hb hby at_60) rfl (l' := #[.val (.int p1), .val (.int ((p1 &&& (2147483647 : Int32)) % (22 : Int32))), .val (.ref en11), .val (.int (0 : Int32))]) rfl k) ?_
    show Go FrameEnd p e below s 0 0 (Q0 Z p1 en0 en1 en2 en3 en4 en5 en6 en7 en8 en9 en10 en11 en12 en13 en14 en15 en16 en17 en18 en19 en20 en21 h0 n0) (T84.setTop (mkF m 61 #[.val (.int p1), .val (.int ((p1 &&& (2147483647 : Int32)) % (22 : Int32))), .val (.ref en11), .val (.int (0 : Int32))] []))
    refine Go.step (fun _ k => XS.aloadN X84.here hx rfl (hb hby at_61) rfl rfl k) ?_
    show Go FrameEnd p e below s 0 0 (Q0 Z p1 en0 en1 en2 en3 en4 en5 en6 en7 en8 en9 en10 en11 en12 en13 en14 en15 en16 en17 en18 en19 en20 en21 h0 n0) (T84.setTop (mkF m 62 #[.val (.int p1), .val (.int ((p1 &&& (2147483647 : Int32)) % (22 : Int32))), .val (.ref en11), .val (.int (0 : Int32))] [(.ref en11)]))
    obtain ⟨cq85, kq85, q85a, q85b, q85c⟩ := isOf hZ e84 E11
    obtain ⟨_, _, ⟨T85, L85, k85, n85⟩, -, X85, ⟨Lc85, hQ85, l85, y85, z85⟩, st85⟩ := X84.virtualBack hx (y := (⟨"deckmill/Card", "asksChoice", "()Z"⟩ : MethodName)) (z := (⟨"deckmill/Card", "asksChoice", "()Z"⟩ : MethodName)) hown (mvT hZ (hw _ (List.mem_of_getElem? (i := 20) rfl))) (mvT hZ (hw _ (List.mem_of_getElem? (i := 21) rfl))) (notFace_of_selects (args := #[]) (mvT hZ (hw _ (List.mem_of_getElem? (i := 23) rfl)))) (mvT hZ (hw _ (List.mem_of_getElem? (i := 23) rfl))) (mvT hZ (hw _ (List.mem_of_getElem? (i := 22) rfl))) (by decide) (backOf (W := 0) (rm2n l Z a0 hw [] en11  h0 C11) hZ (hw _ (List.mem_of_getElem? (i := 24) rfl)) (hw _ (List.mem_of_getElem? (i := 6) rfl)) (by decide) (by decide)) q85a q85c (g := (mkF m 62 #[.val (.int p1), .val (.int ((p1 &&& (2147483647 : Int32)) % (22 : Int32))), .val (.ref en11), .val (.int (0 : Int32))] [(.ref en11)])) rfl (by rw [hml]; rfl) (Steps.refl _) (argsL := []) (rest := []) (lenOf pd___Z rfl) rfl (by show 2 * 0 + _ ≤ _; exact Nat.le_of_eq rfl) (hb hby at_62) (fun _ _ => ⟨rfl, e84, (by decide : 0 + 0 ≤ _), (by decide : 0 + 0 ≤ _)⟩)
    dsimp only [Pt.U, Pt.locs, Pt.cells, Pt.slots] at X85 l85 y85 z85 st85 hQ85
    subst l85 y85 z85
    obtain ⟨rfl, rfl, e85⟩ := hQ85
    have N85 := Fr.app N1 (Fr.nil n0)
    refine Go.hop st85 ?_
    show Go FrameEnd p e below s 0 0 (Q0 Z p1 en0 en1 en2 en3 en4 en5 en6 en7 en8 en9 en10 en11 en12 en13 en14 en15 en16 en17 en18 en19 en20 en21 h0 n0) (T85.setTop (mkF m 65 #[.val (.int p1), .val (.int ((p1 &&& (2147483647 : Int32)) % (22 : Int32))), .val (.ref en11), .val (.int (0 : Int32))] [(.int (0 : Int32))]))
    refine Go.step (fun _ k => XS.iloadN X85.here hx rfl (hb hby at_65) rfl k) ?_
    show Go FrameEnd p e below s 0 0 (Q0 Z p1 en0 en1 en2 en3 en4 en5 en6 en7 en8 en9 en10 en11 en12 en13 en14 en15 en16 en17 en18 en19 en20 en21 h0 n0) (T85.setTop (mkF m 66 #[.val (.int p1), .val (.int ((p1 &&& (2147483647 : Int32)) % (22 : Int32))), .val (.ref en11), .val (.int (0 : Int32))] [(.int (0 : Int32)), (.int (0 : Int32))]))
    refine Go.step (fun _ k => XS.icmpNo X85.here hx rfl (hb hby at_66) rfl (teq rfl).2 k) ?_
    show Go FrameEnd p e below s 0 0 (Q0 Z p1 en0 en1 en2 en3 en4 en5 en6 en7 en8 en9 en10 en11 en12 en13 en14 en15 en16 en17 en18 en19 en20 en21 h0 n0) (T85.setTop (mkF m 69 #[.val (.int p1), .val (.int ((p1 &&& (2147483647 : Int32)) % (22 : Int32))), .val (.ref en11), .val (.int (0 : Int32))] []))
    refine Go.step (fun _ k => XS.iconst X85.here hx rfl (hb hby at_69) k) ?_
    show Go FrameEnd p e below s 0 0 (Q0 Z p1 en0 en1 en2 en3 en4 en5 en6 en7 en8 en9 en10 en11 en12 en13 en14 en15 en16 en17 en18 en19 en20 en21 h0 n0) (T85.setTop (mkF m 70 #[.val (.int p1), .val (.int ((p1 &&& (2147483647 : Int32)) % (22 : Int32))), .val (.ref en11), .val (.int (0 : Int32))] [(.int (1 : Int32))]))
    refine Go.step (fun _ k => XS.goto X85.here hx rfl (pc0 := 70) (pc' := 74) rfl (hb hby at_70) (by decide) (by decide) k) ?_
    show Go FrameEnd p e below s 0 0 (Q0 Z p1 en0 en1 en2 en3 en4 en5 en6 en7 en8 en9 en10 en11 en12 en13 en14 en15 en16 en17 en18 en19 en20 en21 h0 n0) (T85.setTop (mkF m 74 #[.val (.int p1), .val (.int ((p1 &&& (2147483647 : Int32)) % (22 : Int32))), .val (.ref en11), .val (.int (0 : Int32))] [(.int (1 : Int32))]))
    refine Go.retN X85 hx (t := .boolean) Bd.returns (by simp) (by decide) (hb hby at_74) (BodyLoose.notSynchronized Bd) e85 (by decide) (by decide) ?_
    exact ⟨rfl, N85⟩
  · skip
    rw [q]
    obtain ⟨⟨S0, E0, F0, C0⟩, ⟨S1, E1, F1, C1⟩, ⟨S2, E2, F2, C2⟩, ⟨S3, E3, F3, C3⟩, ⟨S4, E4, F4, C4⟩, ⟨S5, E5, F5, C5⟩, ⟨S6, E6, F6, C6⟩, ⟨S7, E7, F7, C7⟩, ⟨S8, E8, F8, C8⟩, ⟨S9, E9, F9, C9⟩, ⟨S10, E10, F10, C10⟩, ⟨S11, E11, F11, C11⟩, ⟨S12, E12, F12, C12⟩, ⟨S13, E13, F13, C13⟩, ⟨S14, E14, F14, C14⟩, ⟨S15, E15, F15, C15⟩, ⟨S16, E16, F16, C16⟩, ⟨S17, E17, F17, C17⟩, ⟨S18, E18, F18, C18⟩, ⟨S19, E19, F19, C19⟩, ⟨S20, E20, F20, C20⟩, ⟨S21, E21, F21, C21⟩⟩ := hC
    show Go FrameEnd p e below s 0 0 (Q0 Z p1 en0 en1 en2 en3 en4 en5 en6 en7 en8 en9 en10 en11 en12 en13 en14 en15 en16 en17 en18 en19 en20 en21 h0 n0) (T1.setTop (mkF m 12 #[.val (.int p1), .val (.int ((p1 &&& (2147483647 : Int32)) % (22 : Int32))), .unset, .unset] [(.ref en12)]))
    refine Go.step (fun _ k => XS.astoreN X1.here hx rfl (hb hby at_12) rfl rfl (l' := #[.val (.int p1), .val (.int ((p1 &&& (2147483647 : Int32)) % (22 : Int32))), .val (.ref en12), .unset]) rfl k) ?_
    show Go FrameEnd p e below s 0 0 (Q0 Z p1 en0 en1 en2 en3 en4 en5 en6 en7 en8 en9 en10 en11 en12 en13 en14 en15 en16 en17 en18 en19 en20 en21 h0 n0) (T1.setTop (mkF m 13 #[.val (.int p1), .val (.int ((p1 &&& (2147483647 : Int32)) % (22 : Int32))), .val (.ref en12), .unset] []))
    refine Go.step (fun _ k => XS.aloadN X1.here hx rfl (hb hby at_13) rfl rfl k) ?_
    show Go FrameEnd p e below s 0 0 (Q0 Z p1 en0 en1 en2 en3 en4 en5 en6 en7 en8 en9 en10 en11 en12 en13 en14 en15 en16 en17 en18 en19 en20 en21 h0 n0) (T1.setTop (mkF m 14 #[.val (.int p1), .val (.int ((p1 &&& (2147483647 : Int32)) % (22 : Int32))), .val (.ref en12), .unset] [(.ref en12)]))
    obtain ⟨T86, X86, e86, st86⟩ := getS2 X1 hx hZ hown (host := "") (Or.inl (hw _ (List.mem_of_getElem? (i := 8) rfl))) Via.refl e1 S13 (g := (mkF m 14 #[.val (.int p1), .val (.int ((p1 &&& (2147483647 : Int32)) % (22 : Int32))), .val (.ref en12), .unset] [(.ref en12)])) rfl (hb hby at_14)
    refine Go.step st86 ?_
    show Go FrameEnd p e below s 0 0 (Q0 Z p1 en0 en1 en2 en3 en4 en5 en6 en7 en8 en9 en10 en11 en12 en13 en14 en15 en16 en17 en18 en19 en20 en21 h0 n0) (T86.setTop (mkF m 17 #[.val (.int p1), .val (.int ((p1 &&& (2147483647 : Int32)) % (22 : Int32))), .val (.ref en12), .unset] [(.ref en13), (.ref en12)]))
    refine Go.step (fun _ k => Jvm.RoadKit.acmp (g := (mkF m 17 #[.val (.int p1), .val (.int ((p1 &&& (2147483647 : Int32)) % (22 : Int32))), .val (.ref en12), .unset] [(.ref en13), (.ref en12)])) X86 hx rfl rfl rfl (pc0 := 17) (pc' := 20) (same := false) rfl (hb hby at_17) rfl (decide_eq_false fun q => (Fld.ne F12 F13 (by decide)) (Value.ref.inj q)) (by decide) (by decide) k) ?_
    show Go FrameEnd p e below s 0 0 (Q0 Z p1 en0 en1 en2 en3 en4 en5 en6 en7 en8 en9 en10 en11 en12 en13 en14 en15 en16 en17 en18 en19 en20 en21 h0 n0) (T86.setTop (mkF m 20 #[.val (.int p1), .val (.int ((p1 &&& (2147483647 : Int32)) % (22 : Int32))), .val (.ref en12), .unset] []))
    refine Go.step (fun _ k => XS.aloadN X86.here hx rfl (hb hby at_20) rfl rfl k) ?_
    show Go FrameEnd p e below s 0 0 (Q0 Z p1 en0 en1 en2 en3 en4 en5 en6 en7 en8 en9 en10 en11 en12 en13 en14 en15 en16 en17 en18 en19 en20 en21 h0 n0) (T86.setTop (mkF m 21 #[.val (.int p1), .val (.int ((p1 &&& (2147483647 : Int32)) % (22 : Int32))), .val (.ref en12), .unset] [(.ref en12)]))
    obtain ⟨T87, X87, e87, st87⟩ := getS2 X86 hx hZ hown (host := "") (Or.inl (hw _ (List.mem_of_getElem? (i := 10) rfl))) Via.refl e86 S14 (g := (mkF m 21 #[.val (.int p1), .val (.int ((p1 &&& (2147483647 : Int32)) % (22 : Int32))), .val (.ref en12), .unset] [(.ref en12)])) rfl (hb hby at_21)
    refine Go.step st87 ?_
    show Go FrameEnd p e below s 0 0 (Q0 Z p1 en0 en1 en2 en3 en4 en5 en6 en7 en8 en9 en10 en11 en12 en13 en14 en15 en16 en17 en18 en19 en20 en21 h0 n0) (T87.setTop (mkF m 24 #[.val (.int p1), .val (.int ((p1 &&& (2147483647 : Int32)) % (22 : Int32))), .val (.ref en12), .unset] [(.ref en14), (.ref en12)]))
    refine Go.step (fun _ k => Jvm.RoadKit.acmp (g := (mkF m 24 #[.val (.int p1), .val (.int ((p1 &&& (2147483647 : Int32)) % (22 : Int32))), .val (.ref en12), .unset] [(.ref en14), (.ref en12)])) X87 hx rfl rfl rfl (pc0 := 24) (pc' := 27) (same := false) rfl (hb hby at_24) rfl (decide_eq_false fun q => (Fld.ne F12 F14 (by decide)) (Value.ref.inj q)) (by decide) (by decide) k) ?_
    show Go FrameEnd p e below s 0 0 (Q0 Z p1 en0 en1 en2 en3 en4 en5 en6 en7 en8 en9 en10 en11 en12 en13 en14 en15 en16 en17 en18 en19 en20 en21 h0 n0) (T87.setTop (mkF m 27 #[.val (.int p1), .val (.int ((p1 &&& (2147483647 : Int32)) % (22 : Int32))), .val (.ref en12), .unset] []))
    refine Go.step (fun _ k => XS.aloadN X87.here hx rfl (hb hby at_27) rfl rfl k) ?_
    show Go FrameEnd p e below s 0 0 (Q0 Z p1 en0 en1 en2 en3 en4 en5 en6 en7 en8 en9 en10 en11 en12 en13 en14 en15 en16 en17 en18 en19 en20 en21 h0 n0) (T87.setTop (mkF m 28 #[.val (.int p1), .val (.int ((p1 &&& (2147483647 : Int32)) % (22 : Int32))), .val (.ref en12), .unset] [(.ref en12)]))
    obtain ⟨T88, X88, e88, st88⟩ := getS2 X87 hx hZ hown (host := "") (Or.inl (hw _ (List.mem_of_getElem? (i := 12) rfl))) Via.refl e87 S15 (g := (mkF m 28 #[.val (.int p1), .val (.int ((p1 &&& (2147483647 : Int32)) % (22 : Int32))), .val (.ref en12), .unset] [(.ref en12)])) rfl (hb hby at_28)
    refine Go.step st88 ?_
    show Go FrameEnd p e below s 0 0 (Q0 Z p1 en0 en1 en2 en3 en4 en5 en6 en7 en8 en9 en10 en11 en12 en13 en14 en15 en16 en17 en18 en19 en20 en21 h0 n0) (T88.setTop (mkF m 31 #[.val (.int p1), .val (.int ((p1 &&& (2147483647 : Int32)) % (22 : Int32))), .val (.ref en12), .unset] [(.ref en15), (.ref en12)]))
    refine Go.step (fun _ k => Jvm.RoadKit.acmp (g := (mkF m 31 #[.val (.int p1), .val (.int ((p1 &&& (2147483647 : Int32)) % (22 : Int32))), .val (.ref en12), .unset] [(.ref en15), (.ref en12)])) X88 hx rfl rfl rfl (pc0 := 31) (pc' := 34) (same := false) rfl (hb hby at_31) rfl (decide_eq_false fun q => (Fld.ne F12 F15 (by decide)) (Value.ref.inj q)) (by decide) (by decide) k) ?_
    show Go FrameEnd p e below s 0 0 (Q0 Z p1 en0 en1 en2 en3 en4 en5 en6 en7 en8 en9 en10 en11 en12 en13 en14 en15 en16 en17 en18 en19 en20 en21 h0 n0) (T88.setTop (mkF m 34 #[.val (.int p1), .val (.int ((p1 &&& (2147483647 : Int32)) % (22 : Int32))), .val (.ref en12), .unset] []))
    refine Go.step (fun _ k => XS.aloadN X88.here hx rfl (hb hby at_34) rfl rfl k) ?_
    show Go FrameEnd p e below s 0 0 (Q0 Z p1 en0 en1 en2 en3 en4 en5 en6 en7 en8 en9 en10 en11 en12 en13 en14 en15 en16 en17 en18 en19 en20 en21 h0 n0) (T88.setTop (mkF m 35 #[.val (.int p1), .val (.int ((p1 &&& (2147483647 : Int32)) % (22 : Int32))), .val (.ref en12), .unset] [(.ref en12)]))
    obtain ⟨T89, X89, e89, st89⟩ := getS2 X88 hx hZ hown (host := "") (Or.inl (hw _ (List.mem_of_getElem? (i := 14) rfl))) Via.refl e88 S16 (g := (mkF m 35 #[.val (.int p1), .val (.int ((p1 &&& (2147483647 : Int32)) % (22 : Int32))), .val (.ref en12), .unset] [(.ref en12)])) rfl (hb hby at_35)
    refine Go.step st89 ?_
    show Go FrameEnd p e below s 0 0 (Q0 Z p1 en0 en1 en2 en3 en4 en5 en6 en7 en8 en9 en10 en11 en12 en13 en14 en15 en16 en17 en18 en19 en20 en21 h0 n0) (T89.setTop (mkF m 38 #[.val (.int p1), .val (.int ((p1 &&& (2147483647 : Int32)) % (22 : Int32))), .val (.ref en12), .unset] [(.ref en16), (.ref en12)]))
    refine Go.step (fun _ k => Jvm.RoadKit.acmp (g := (mkF m 38 #[.val (.int p1), .val (.int ((p1 &&& (2147483647 : Int32)) % (22 : Int32))), .val (.ref en12), .unset] [(.ref en16), (.ref en12)])) X89 hx rfl rfl rfl (pc0 := 38) (pc' := 41) (same := false) rfl (hb hby at_38) rfl (decide_eq_false fun q => (Fld.ne F12 F16 (by decide)) (Value.ref.inj q)) (by decide) (by decide) k) ?_
    show Go FrameEnd p e below s 0 0 (Q0 Z p1 en0 en1 en2 en3 en4 en5 en6 en7 en8 en9 en10 en11 en12 en13 en14 en15 en16 en17 en18 en19 en20 en21 h0 n0) (T89.setTop (mkF m 41 #[.val (.int p1), .val (.int ((p1 &&& (2147483647 : Int32)) % (22 : Int32))), .val (.ref en12), .unset] []))
    refine Go.step (fun _ k => XS.aloadN X89.here hx rfl (hb hby at_41) rfl rfl k) ?_
    show Go FrameEnd p e below s 0 0 (Q0 Z p1 en0 en1 en2 en3 en4 en5 en6 en7 en8 en9 en10 en11 en12 en13 en14 en15 en16 en17 en18 en19 en20 en21 h0 n0) (T89.setTop (mkF m 42 #[.val (.int p1), .val (.int ((p1 &&& (2147483647 : Int32)) % (22 : Int32))), .val (.ref en12), .unset] [(.ref en12)]))
    obtain ⟨T90, X90, e90, st90⟩ := getS2 X89 hx hZ hown (host := "") (Or.inl (hw _ (List.mem_of_getElem? (i := 16) rfl))) Via.refl e89 S17 (g := (mkF m 42 #[.val (.int p1), .val (.int ((p1 &&& (2147483647 : Int32)) % (22 : Int32))), .val (.ref en12), .unset] [(.ref en12)])) rfl (hb hby at_42)
    refine Go.step st90 ?_
    show Go FrameEnd p e below s 0 0 (Q0 Z p1 en0 en1 en2 en3 en4 en5 en6 en7 en8 en9 en10 en11 en12 en13 en14 en15 en16 en17 en18 en19 en20 en21 h0 n0) (T90.setTop (mkF m 45 #[.val (.int p1), .val (.int ((p1 &&& (2147483647 : Int32)) % (22 : Int32))), .val (.ref en12), .unset] [(.ref en17), (.ref en12)]))
    refine Go.step (fun _ k => Jvm.RoadKit.acmp (g := (mkF m 45 #[.val (.int p1), .val (.int ((p1 &&& (2147483647 : Int32)) % (22 : Int32))), .val (.ref en12), .unset] [(.ref en17), (.ref en12)])) X90 hx rfl rfl rfl (pc0 := 45) (pc' := 48) (same := false) rfl (hb hby at_45) rfl (decide_eq_false fun q => (Fld.ne F12 F17 (by decide)) (Value.ref.inj q)) (by decide) (by decide) k) ?_
    show Go FrameEnd p e below s 0 0 (Q0 Z p1 en0 en1 en2 en3 en4 en5 en6 en7 en8 en9 en10 en11 en12 en13 en14 en15 en16 en17 en18 en19 en20 en21 h0 n0) (T90.setTop (mkF m 48 #[.val (.int p1), .val (.int ((p1 &&& (2147483647 : Int32)) % (22 : Int32))), .val (.ref en12), .unset] []))
    refine Go.step (fun _ k => XS.aloadN X90.here hx rfl (hb hby at_48) rfl rfl k) ?_
    show Go FrameEnd p e below s 0 0 (Q0 Z p1 en0 en1 en2 en3 en4 en5 en6 en7 en8 en9 en10 en11 en12 en13 en14 en15 en16 en17 en18 en19 en20 en21 h0 n0) (T90.setTop (mkF m 49 #[.val (.int p1), .val (.int ((p1 &&& (2147483647 : Int32)) % (22 : Int32))), .val (.ref en12), .unset] [(.ref en12)]))
    obtain ⟨T91, X91, e91, st91⟩ := getS2 X90 hx hZ hown (host := "") (Or.inl (hw _ (List.mem_of_getElem? (i := 18) rfl))) Via.refl e90 S18 (g := (mkF m 49 #[.val (.int p1), .val (.int ((p1 &&& (2147483647 : Int32)) % (22 : Int32))), .val (.ref en12), .unset] [(.ref en12)])) rfl (hb hby at_49)
    refine Go.step st91 ?_
    show Go FrameEnd p e below s 0 0 (Q0 Z p1 en0 en1 en2 en3 en4 en5 en6 en7 en8 en9 en10 en11 en12 en13 en14 en15 en16 en17 en18 en19 en20 en21 h0 n0) (T91.setTop (mkF m 52 #[.val (.int p1), .val (.int ((p1 &&& (2147483647 : Int32)) % (22 : Int32))), .val (.ref en12), .unset] [(.ref en18), (.ref en12)]))
    refine Go.step (fun _ k => Jvm.RoadKit.acmp (g := (mkF m 52 #[.val (.int p1), .val (.int ((p1 &&& (2147483647 : Int32)) % (22 : Int32))), .val (.ref en12), .unset] [(.ref en18), (.ref en12)])) X91 hx rfl rfl rfl (pc0 := 52) (pc' := 59) (same := false) rfl (hb hby at_52) rfl (decide_eq_false fun q => (Fld.ne F12 F18 (by decide)) (Value.ref.inj q)) (by decide) (by decide) k) ?_
    show Go FrameEnd p e below s 0 0 (Q0 Z p1 en0 en1 en2 en3 en4 en5 en6 en7 en8 en9 en10 en11 en12 en13 en14 en15 en16 en17 en18 en19 en20 en21 h0 n0) (T91.setTop (mkF m 59 #[.val (.int p1), .val (.int ((p1 &&& (2147483647 : Int32)) % (22 : Int32))), .val (.ref en12), .unset] []))
    refine Go.step (fun _ k => XS.iconst X91.here hx rfl (hb hby at_59) k) ?_
    show Go FrameEnd p e below s 0 0 (Q0 Z p1 en0 en1 en2 en3 en4 en5 en6 en7 en8 en9 en10 en11 en12 en13 en14 en15 en16 en17 en18 en19 en20 en21 h0 n0) (T91.setTop (mkF m 60 #[.val (.int p1), .val (.int ((p1 &&& (2147483647 : Int32)) % (22 : Int32))), .val (.ref en12), .unset] [(.int (0 : Int32))]))
    refine Go.step (fun _ k => XS.istoreN X91.here hx rfl (hb hby at_60) rfl (l' := #[.val (.int p1), .val (.int ((p1 &&& (2147483647 : Int32)) % (22 : Int32))), .val (.ref en12), .val (.int (0 : Int32))]) rfl k) ?_
    show Go FrameEnd p e below s 0 0 (Q0 Z p1 en0 en1 en2 en3 en4 en5 en6 en7 en8 en9 en10 en11 en12 en13 en14 en15 en16 en17 en18 en19 en20 en21 h0 n0) (T91.setTop (mkF m 61 #[.val (.int p1), .val (.int ((p1 &&& (2147483647 : Int32)) % (22 : Int32))), .val (.ref en12), .val (.int (0 : Int32))] []))
    refine Go.step (fun _ k => XS.aloadN X91.here hx rfl (hb hby at_61) rfl rfl k) ?_
    show Go FrameEnd p e below s 0 0 (Q0 Z p1 en0 en1 en2 en3 en4 en5 en6 en7 en8 en9 en10 en11 en12 en13 en14 en15 en16 en17 en18 en19 en20 en21 h0 n0) (T91.setTop (mkF m 62 #[.val (.int p1), .val (.int ((p1 &&& (2147483647 : Int32)) % (22 : Int32))), .val (.ref en12), .val (.int (0 : Int32))] [(.ref en12)]))
    obtain ⟨cq92, kq92, q92a, q92b, q92c⟩ := isOf hZ e91 E12
    obtain ⟨_, _, ⟨T92, L92, k92, n92⟩, -, X92, ⟨Lc92, hQ92, l92, y92, z92⟩, st92⟩ := X91.virtualBack hx (y := (⟨"deckmill/Card", "asksChoice", "()Z"⟩ : MethodName)) (z := (⟨"deckmill/Card", "asksChoice", "()Z"⟩ : MethodName)) hown (mvT hZ (hw _ (List.mem_of_getElem? (i := 20) rfl))) (mvT hZ (hw _ (List.mem_of_getElem? (i := 21) rfl))) (notFace_of_selects (args := #[]) (mvT hZ (hw _ (List.mem_of_getElem? (i := 23) rfl)))) (mvT hZ (hw _ (List.mem_of_getElem? (i := 23) rfl))) (mvT hZ (hw _ (List.mem_of_getElem? (i := 22) rfl))) (by decide) (backOf (W := 0) (rm2n l Z a0 hw [] en12  h0 C12) hZ (hw _ (List.mem_of_getElem? (i := 24) rfl)) (hw _ (List.mem_of_getElem? (i := 6) rfl)) (by decide) (by decide)) q92a q92c (g := (mkF m 62 #[.val (.int p1), .val (.int ((p1 &&& (2147483647 : Int32)) % (22 : Int32))), .val (.ref en12), .val (.int (0 : Int32))] [(.ref en12)])) rfl (by rw [hml]; rfl) (Steps.refl _) (argsL := []) (rest := []) (lenOf pd___Z rfl) rfl (by show 2 * 0 + _ ≤ _; exact Nat.le_of_eq rfl) (hb hby at_62) (fun _ _ => ⟨rfl, e91, (by decide : 0 + 0 ≤ _), (by decide : 0 + 0 ≤ _)⟩)
    dsimp only [Pt.U, Pt.locs, Pt.cells, Pt.slots] at X92 l92 y92 z92 st92 hQ92
    subst l92 y92 z92
    obtain ⟨rfl, rfl, e92⟩ := hQ92
    have N92 := Fr.app N1 (Fr.nil n0)
    refine Go.hop st92 ?_
    show Go FrameEnd p e below s 0 0 (Q0 Z p1 en0 en1 en2 en3 en4 en5 en6 en7 en8 en9 en10 en11 en12 en13 en14 en15 en16 en17 en18 en19 en20 en21 h0 n0) (T92.setTop (mkF m 65 #[.val (.int p1), .val (.int ((p1 &&& (2147483647 : Int32)) % (22 : Int32))), .val (.ref en12), .val (.int (0 : Int32))] [(.int (0 : Int32))]))
    refine Go.step (fun _ k => XS.iloadN X92.here hx rfl (hb hby at_65) rfl k) ?_
    show Go FrameEnd p e below s 0 0 (Q0 Z p1 en0 en1 en2 en3 en4 en5 en6 en7 en8 en9 en10 en11 en12 en13 en14 en15 en16 en17 en18 en19 en20 en21 h0 n0) (T92.setTop (mkF m 66 #[.val (.int p1), .val (.int ((p1 &&& (2147483647 : Int32)) % (22 : Int32))), .val (.ref en12), .val (.int (0 : Int32))] [(.int (0 : Int32)), (.int (0 : Int32))]))
    refine Go.step (fun _ k => XS.icmpNo X92.here hx rfl (hb hby at_66) rfl (teq rfl).2 k) ?_
    show Go FrameEnd p e below s 0 0 (Q0 Z p1 en0 en1 en2 en3 en4 en5 en6 en7 en8 en9 en10 en11 en12 en13 en14 en15 en16 en17 en18 en19 en20 en21 h0 n0) (T92.setTop (mkF m 69 #[.val (.int p1), .val (.int ((p1 &&& (2147483647 : Int32)) % (22 : Int32))), .val (.ref en12), .val (.int (0 : Int32))] []))
    refine Go.step (fun _ k => XS.iconst X92.here hx rfl (hb hby at_69) k) ?_
    show Go FrameEnd p e below s 0 0 (Q0 Z p1 en0 en1 en2 en3 en4 en5 en6 en7 en8 en9 en10 en11 en12 en13 en14 en15 en16 en17 en18 en19 en20 en21 h0 n0) (T92.setTop (mkF m 70 #[.val (.int p1), .val (.int ((p1 &&& (2147483647 : Int32)) % (22 : Int32))), .val (.ref en12), .val (.int (0 : Int32))] [(.int (1 : Int32))]))
    refine Go.step (fun _ k => XS.goto X92.here hx rfl (pc0 := 70) (pc' := 74) rfl (hb hby at_70) (by decide) (by decide) k) ?_
    show Go FrameEnd p e below s 0 0 (Q0 Z p1 en0 en1 en2 en3 en4 en5 en6 en7 en8 en9 en10 en11 en12 en13 en14 en15 en16 en17 en18 en19 en20 en21 h0 n0) (T92.setTop (mkF m 74 #[.val (.int p1), .val (.int ((p1 &&& (2147483647 : Int32)) % (22 : Int32))), .val (.ref en12), .val (.int (0 : Int32))] [(.int (1 : Int32))]))
    refine Go.retN X92 hx (t := .boolean) Bd.returns (by simp) (by decide) (hb hby at_74) (BodyLoose.notSynchronized Bd) e92 (by decide) (by decide) ?_
    exact ⟨rfl, N92⟩
  · skip
    rw [q]
    obtain ⟨⟨S0, E0, F0, C0⟩, ⟨S1, E1, F1, C1⟩, ⟨S2, E2, F2, C2⟩, ⟨S3, E3, F3, C3⟩, ⟨S4, E4, F4, C4⟩, ⟨S5, E5, F5, C5⟩, ⟨S6, E6, F6, C6⟩, ⟨S7, E7, F7, C7⟩, ⟨S8, E8, F8, C8⟩, ⟨S9, E9, F9, C9⟩, ⟨S10, E10, F10, C10⟩, ⟨S11, E11, F11, C11⟩, ⟨S12, E12, F12, C12⟩, ⟨S13, E13, F13, C13⟩, ⟨S14, E14, F14, C14⟩, ⟨S15, E15, F15, C15⟩, ⟨S16, E16, F16, C16⟩, ⟨S17, E17, F17, C17⟩, ⟨S18, E18, F18, C18⟩, ⟨S19, E19, F19, C19⟩, ⟨S20, E20, F20, C20⟩, ⟨S21, E21, F21, C21⟩⟩ := hC
    obtain ⟨t, C13⟩ := C13
    show Go FrameEnd p e below s 0 0 (Q0 Z p1 en0 en1 en2 en3 en4 en5 en6 en7 en8 en9 en10 en11 en12 en13 en14 en15 en16 en17 en18 en19 en20 en21 h0 n0) (T1.setTop (mkF m 12 #[.val (.int p1), .val (.int ((p1 &&& (2147483647 : Int32)) % (22 : Int32))), .unset, .unset] [(.ref en13)]))
    refine Go.step (fun _ k => XS.astoreN X1.here hx rfl (hb hby at_12) rfl rfl (l' := #[.val (.int p1), .val (.int ((p1 &&& (2147483647 : Int32)) % (22 : Int32))), .val (.ref en13), .unset]) rfl k) ?_
    show Go FrameEnd p e below s 0 0 (Q0 Z p1 en0 en1 en2 en3 en4 en5 en6 en7 en8 en9 en10 en11 en12 en13 en14 en15 en16 en17 en18 en19 en20 en21 h0 n0) (T1.setTop (mkF m 13 #[.val (.int p1), .val (.int ((p1 &&& (2147483647 : Int32)) % (22 : Int32))), .val (.ref en13), .unset] []))
    refine Go.step (fun _ k => XS.aloadN X1.here hx rfl (hb hby at_13) rfl rfl k) ?_
    show Go FrameEnd p e below s 0 0 (Q0 Z p1 en0 en1 en2 en3 en4 en5 en6 en7 en8 en9 en10 en11 en12 en13 en14 en15 en16 en17 en18 en19 en20 en21 h0 n0) (T1.setTop (mkF m 14 #[.val (.int p1), .val (.int ((p1 &&& (2147483647 : Int32)) % (22 : Int32))), .val (.ref en13), .unset] [(.ref en13)]))
    obtain ⟨T93, X93, e93, st93⟩ := getS2 X1 hx hZ hown (host := "") (Or.inl (hw _ (List.mem_of_getElem? (i := 8) rfl))) Via.refl e1 S13 (g := (mkF m 14 #[.val (.int p1), .val (.int ((p1 &&& (2147483647 : Int32)) % (22 : Int32))), .val (.ref en13), .unset] [(.ref en13)])) rfl (hb hby at_14)
    refine Go.step st93 ?_
    show Go FrameEnd p e below s 0 0 (Q0 Z p1 en0 en1 en2 en3 en4 en5 en6 en7 en8 en9 en10 en11 en12 en13 en14 en15 en16 en17 en18 en19 en20 en21 h0 n0) (T93.setTop (mkF m 17 #[.val (.int p1), .val (.int ((p1 &&& (2147483647 : Int32)) % (22 : Int32))), .val (.ref en13), .unset] [(.ref en13), (.ref en13)]))
    refine Go.step (fun _ k => Jvm.RoadKit.acmp (g := (mkF m 17 #[.val (.int p1), .val (.int ((p1 &&& (2147483647 : Int32)) % (22 : Int32))), .val (.ref en13), .unset] [(.ref en13), (.ref en13)])) X93 hx rfl rfl rfl (pc0 := 17) (pc' := 55) (same := true) rfl (hb hby at_17) rfl (decide_eq_true (congrArg Value.ref rfl)) (by decide) (by decide) k) ?_
    show Go FrameEnd p e below s 0 0 (Q0 Z p1 en0 en1 en2 en3 en4 en5 en6 en7 en8 en9 en10 en11 en12 en13 en14 en15 en16 en17 en18 en19 en20 en21 h0 n0) (T93.setTop (mkF m 55 #[.val (.int p1), .val (.int ((p1 &&& (2147483647 : Int32)) % (22 : Int32))), .val (.ref en13), .unset] []))
    refine Go.step (fun _ k => XS.iconst X93.here hx rfl (hb hby at_55) k) ?_
    show Go FrameEnd p e below s 0 0 (Q0 Z p1 en0 en1 en2 en3 en4 en5 en6 en7 en8 en9 en10 en11 en12 en13 en14 en15 en16 en17 en18 en19 en20 en21 h0 n0) (T93.setTop (mkF m 56 #[.val (.int p1), .val (.int ((p1 &&& (2147483647 : Int32)) % (22 : Int32))), .val (.ref en13), .unset] [(.int (1 : Int32))]))
    refine Go.step (fun _ k => XS.goto X93.here hx rfl (pc0 := 56) (pc' := 60) rfl (hb hby at_56) (by decide) (by decide) k) ?_
    show Go FrameEnd p e below s 0 0 (Q0 Z p1 en0 en1 en2 en3 en4 en5 en6 en7 en8 en9 en10 en11 en12 en13 en14 en15 en16 en17 en18 en19 en20 en21 h0 n0) (T93.setTop (mkF m 60 #[.val (.int p1), .val (.int ((p1 &&& (2147483647 : Int32)) % (22 : Int32))), .val (.ref en13), .unset] [(.int (1 : Int32))]))
    refine Go.step (fun _ k => XS.istoreN X93.here hx rfl (hb hby at_60) rfl (l' := #[.val (.int p1), .val (.int ((p1 &&& (2147483647 : Int32)) % (22 : Int32))), .val (.ref en13), .val (.int (1 : Int32))]) rfl k) ?_
    show Go FrameEnd p e below s 0 0 (Q0 Z p1 en0 en1 en2 en3 en4 en5 en6 en7 en8 en9 en10 en11 en12 en13 en14 en15 en16 en17 en18 en19 en20 en21 h0 n0) (T93.setTop (mkF m 61 #[.val (.int p1), .val (.int ((p1 &&& (2147483647 : Int32)) % (22 : Int32))), .val (.ref en13), .val (.int (1 : Int32))] []))
    refine Go.step (fun _ k => XS.aloadN X93.here hx rfl (hb hby at_61) rfl rfl k) ?_
    show Go FrameEnd p e below s 0 0 (Q0 Z p1 en0 en1 en2 en3 en4 en5 en6 en7 en8 en9 en10 en11 en12 en13 en14 en15 en16 en17 en18 en19 en20 en21 h0 n0) (T93.setTop (mkF m 62 #[.val (.int p1), .val (.int ((p1 &&& (2147483647 : Int32)) % (22 : Int32))), .val (.ref en13), .val (.int (1 : Int32))] [(.ref en13)]))
    obtain ⟨cq94, kq94, q94a, q94b, q94c⟩ := isOf hZ e93 E13
    obtain ⟨_, _, ⟨T94, L94, k94, n94⟩, -, X94, ⟨Lc94, hQ94, l94, y94, z94⟩, st94⟩ := X93.virtualBack hx (y := (⟨"deckmill/Card", "asksChoice", "()Z"⟩ : MethodName)) (z := (⟨"deckmill/Card", "asksChoice", "()Z"⟩ : MethodName)) hown (mvT hZ (hw _ (List.mem_of_getElem? (i := 20) rfl))) (mvT hZ (hw _ (List.mem_of_getElem? (i := 21) rfl))) (notFace_of_selects (args := #[]) (mvT hZ (hw _ (List.mem_of_getElem? (i := 23) rfl)))) (mvT hZ (hw _ (List.mem_of_getElem? (i := 23) rfl))) (mvT hZ (hw _ (List.mem_of_getElem? (i := 22) rfl))) (by decide) (backOf (W := 0) (rm2y l Z a0 hw [] en13 t h0 C13) hZ (hw _ (List.mem_of_getElem? (i := 24) rfl)) (hw _ (List.mem_of_getElem? (i := 6) rfl)) (by decide) (by decide)) q94a q94c (g := (mkF m 62 #[.val (.int p1), .val (.int ((p1 &&& (2147483647 : Int32)) % (22 : Int32))), .val (.ref en13), .val (.int (1 : Int32))] [(.ref en13)])) rfl (by rw [hml]; rfl) (Steps.refl _) (argsL := []) (rest := []) (lenOf pd___Z rfl) rfl (by show 2 * 0 + _ ≤ _; exact Nat.le_of_eq rfl) (hb hby at_62) (fun _ _ => ⟨rfl, e93, (by decide : 0 + 0 ≤ _), (by decide : 0 + 0 ≤ _)⟩)
    dsimp only [Pt.U, Pt.locs, Pt.cells, Pt.slots] at X94 l94 y94 z94 st94 hQ94
    subst l94 y94 z94
    obtain ⟨rfl, rfl, e94⟩ := hQ94
    have N94 := Fr.app N1 (Fr.nil n0)
    refine Go.hop st94 ?_
    show Go FrameEnd p e below s 0 0 (Q0 Z p1 en0 en1 en2 en3 en4 en5 en6 en7 en8 en9 en10 en11 en12 en13 en14 en15 en16 en17 en18 en19 en20 en21 h0 n0) (T94.setTop (mkF m 65 #[.val (.int p1), .val (.int ((p1 &&& (2147483647 : Int32)) % (22 : Int32))), .val (.ref en13), .val (.int (1 : Int32))] [(.int (1 : Int32))]))
    refine Go.step (fun _ k => XS.iloadN X94.here hx rfl (hb hby at_65) rfl k) ?_
    show Go FrameEnd p e below s 0 0 (Q0 Z p1 en0 en1 en2 en3 en4 en5 en6 en7 en8 en9 en10 en11 en12 en13 en14 en15 en16 en17 en18 en19 en20 en21 h0 n0) (T94.setTop (mkF m 66 #[.val (.int p1), .val (.int ((p1 &&& (2147483647 : Int32)) % (22 : Int32))), .val (.ref en13), .val (.int (1 : Int32))] [(.int (1 : Int32)), (.int (1 : Int32))]))
    refine Go.step (fun _ k => XS.icmpNo X94.here hx rfl (hb hby at_66) rfl (teq rfl).2 k) ?_
    show Go FrameEnd p e below s 0 0 (Q0 Z p1 en0 en1 en2 en3 en4 en5 en6 en7 en8 en9 en10 en11 en12 en13 en14 en15 en16 en17 en18 en19 en20 en21 h0 n0) (T94.setTop (mkF m 69 #[.val (.int p1), .val (.int ((p1 &&& (2147483647 : Int32)) % (22 : Int32))), .val (.ref en13), .val (.int (1 : Int32))] []))
    refine Go.step (fun _ k => XS.iconst X94.here hx rfl (hb hby at_69) k) ?_
    show Go FrameEnd p e below s 0 0 (Q0 Z p1 en0 en1 en2 en3 en4 en5 en6 en7 en8 en9 en10 en11 en12 en13 en14 en15 en16 en17 en18 en19 en20 en21 h0 n0) (T94.setTop (mkF m 70 #[.val (.int p1), .val (.int ((p1 &&& (2147483647 : Int32)) % (22 : Int32))), .val (.ref en13), .val (.int (1 : Int32))] [(.int (1 : Int32))]))
    refine Go.step (fun _ k => XS.goto X94.here hx rfl (pc0 := 70) (pc' := 74) rfl (hb hby at_70) (by decide) (by decide) k) ?_
    show Go FrameEnd p e below s 0 0 (Q0 Z p1 en0 en1 en2 en3 en4 en5 en6 en7 en8 en9 en10 en11 en12 en13 en14 en15 en16 en17 en18 en19 en20 en21 h0 n0) (T94.setTop (mkF m 74 #[.val (.int p1), .val (.int ((p1 &&& (2147483647 : Int32)) % (22 : Int32))), .val (.ref en13), .val (.int (1 : Int32))] [(.int (1 : Int32))]))
    refine Go.retN X94 hx (t := .boolean) Bd.returns (by simp) (by decide) (hb hby at_74) (BodyLoose.notSynchronized Bd) e94 (by decide) (by decide) ?_
    exact ⟨rfl, N94⟩
  · skip
    rw [q]
    obtain ⟨⟨S0, E0, F0, C0⟩, ⟨S1, E1, F1, C1⟩, ⟨S2, E2, F2, C2⟩, ⟨S3, E3, F3, C3⟩, ⟨S4, E4, F4, C4⟩, ⟨S5, E5, F5, C5⟩, ⟨S6, E6, F6, C6⟩, ⟨S7, E7, F7, C7⟩, ⟨S8, E8, F8, C8⟩, ⟨S9, E9, F9, C9⟩, ⟨S10, E10, F10, C10⟩, ⟨S11, E11, F11, C11⟩, ⟨S12, E12, F12, C12⟩, ⟨S13, E13, F13, C13⟩, ⟨S14, E14, F14, C14⟩, ⟨S15, E15, F15, C15⟩, ⟨S16, E16, F16, C16⟩, ⟨S17, E17, F17, C17⟩, ⟨S18, E18, F18, C18⟩, ⟨S19, E19, F19, C19⟩, ⟨S20, E20, F20, C20⟩, ⟨S21, E21, F21, C21⟩⟩ := hC
    obtain ⟨t, C14⟩ := C14
    show Go FrameEnd p e below s 0 0 (Q0 Z p1 en0 en1 en2 en3 en4 en5 en6 en7 en8 en9 en10 en11 en12 en13 en14 en15 en16 en17 en18 en19 en20 en21 h0 n0) (T1.setTop (mkF m 12 #[.val (.int p1), .val (.int ((p1 &&& (2147483647 : Int32)) % (22 : Int32))), .unset, .unset] [(.ref en14)]))
    refine Go.step (fun _ k => XS.astoreN X1.here hx rfl (hb hby at_12) rfl rfl (l' := #[.val (.int p1), .val (.int ((p1 &&& (2147483647 : Int32)) % (22 : Int32))), .val (.ref en14), .unset]) rfl k) ?_
    show Go FrameEnd p e below s 0 0 (Q0 Z p1 en0 en1 en2 en3 en4 en5 en6 en7 en8 en9 en10 en11 en12 en13 en14 en15 en16 en17 en18 en19 en20 en21 h0 n0) (T1.setTop (mkF m 13 #[.val (.int p1), .val (.int ((p1 &&& (2147483647 : Int32)) % (22 : Int32))), .val (.ref en14), .unset] []))
    refine Go.step (fun _ k => XS.aloadN X1.here hx rfl (hb hby at_13) rfl rfl k) ?_
    show Go FrameEnd p e below s 0 0 (Q0 Z p1 en0 en1 en2 en3 en4 en5 en6 en7 en8 en9 en10 en11 en12 en13 en14 en15 en16 en17 en18 en19 en20 en21 h0 n0) (T1.setTop (mkF m 14 #[.val (.int p1), .val (.int ((p1 &&& (2147483647 : Int32)) % (22 : Int32))), .val (.ref en14), .unset] [(.ref en14)]))
    obtain ⟨T95, X95, e95, st95⟩ := getS2 X1 hx hZ hown (host := "") (Or.inl (hw _ (List.mem_of_getElem? (i := 8) rfl))) Via.refl e1 S13 (g := (mkF m 14 #[.val (.int p1), .val (.int ((p1 &&& (2147483647 : Int32)) % (22 : Int32))), .val (.ref en14), .unset] [(.ref en14)])) rfl (hb hby at_14)
    refine Go.step st95 ?_
    show Go FrameEnd p e below s 0 0 (Q0 Z p1 en0 en1 en2 en3 en4 en5 en6 en7 en8 en9 en10 en11 en12 en13 en14 en15 en16 en17 en18 en19 en20 en21 h0 n0) (T95.setTop (mkF m 17 #[.val (.int p1), .val (.int ((p1 &&& (2147483647 : Int32)) % (22 : Int32))), .val (.ref en14), .unset] [(.ref en13), (.ref en14)]))
    refine Go.step (fun _ k => Jvm.RoadKit.acmp (g := (mkF m 17 #[.val (.int p1), .val (.int ((p1 &&& (2147483647 : Int32)) % (22 : Int32))), .val (.ref en14), .unset] [(.ref en13), (.ref en14)])) X95 hx rfl rfl rfl (pc0 := 17) (pc' := 20) (same := false) rfl (hb hby at_17) rfl (decide_eq_false fun q => (Ne.symm (Fld.ne F13 F14 (by decide))) (Value.ref.inj q)) (by decide) (by decide) k) ?_
    show Go FrameEnd p e below s 0 0 (Q0 Z p1 en0 en1 en2 en3 en4 en5 en6 en7 en8 en9 en10 en11 en12 en13 en14 en15 en16 en17 en18 en19 en20 en21 h0 n0) (T95.setTop (mkF m 20 #[.val (.int p1), .val (.int ((p1 &&& (2147483647 : Int32)) % (22 : Int32))), .val (.ref en14), .unset] []))
    refine Go.step (fun _ k => XS.aloadN X95.here hx rfl (hb hby at_20) rfl rfl k) ?_
    show Go FrameEnd p e below s 0 0 (Q0 Z p1 en0 en1 en2 en3 en4 en5 en6 en7 en8 en9 en10 en11 en12 en13 en14 en15 en16 en17 en18 en19 en20 en21 h0 n0) (T95.setTop (mkF m 21 #[.val (.int p1), .val (.int ((p1 &&& (2147483647 : Int32)) % (22 : Int32))), .val (.ref en14), .unset] [(.ref en14)]))
    obtain ⟨T96, X96, e96, st96⟩ := getS2 X95 hx hZ hown (host := "") (Or.inl (hw _ (List.mem_of_getElem? (i := 10) rfl))) Via.refl e95 S14 (g := (mkF m 21 #[.val (.int p1), .val (.int ((p1 &&& (2147483647 : Int32)) % (22 : Int32))), .val (.ref en14), .unset] [(.ref en14)])) rfl (hb hby at_21)
    refine Go.step st96 ?_
    show Go FrameEnd p e below s 0 0 (Q0 Z p1 en0 en1 en2 en3 en4 en5 en6 en7 en8 en9 en10 en11 en12 en13 en14 en15 en16 en17 en18 en19 en20 en21 h0 n0) (T96.setTop (mkF m 24 #[.val (.int p1), .val (.int ((p1 &&& (2147483647 : Int32)) % (22 : Int32))), .val (.ref en14), .unset] [(.ref en14), (.ref en14)]))
    refine Go.step (fun _ k => Jvm.RoadKit.acmp (g := (mkF m 24 #[.val (.int p1), .val (.int ((p1 &&& (2147483647 : Int32)) % (22 : Int32))), .val (.ref en14), .unset] [(.ref en14), (.ref en14)])) X96 hx rfl rfl rfl (pc0 := 24) (pc' := 55) (same := true) rfl (hb hby at_24) rfl (decide_eq_true (congrArg Value.ref rfl)) (by decide) (by decide) k) ?_
    show Go FrameEnd p e below s 0 0 (Q0 Z p1 en0 en1 en2 en3 en4 en5 en6 en7 en8 en9 en10 en11 en12 en13 en14 en15 en16 en17 en18 en19 en20 en21 h0 n0) (T96.setTop (mkF m 55 #[.val (.int p1), .val (.int ((p1 &&& (2147483647 : Int32)) % (22 : Int32))), .val (.ref en14), .unset] []))
    refine Go.step (fun _ k => XS.iconst X96.here hx rfl (hb hby at_55) k) ?_
    show Go FrameEnd p e below s 0 0 (Q0 Z p1 en0 en1 en2 en3 en4 en5 en6 en7 en8 en9 en10 en11 en12 en13 en14 en15 en16 en17 en18 en19 en20 en21 h0 n0) (T96.setTop (mkF m 56 #[.val (.int p1), .val (.int ((p1 &&& (2147483647 : Int32)) % (22 : Int32))), .val (.ref en14), .unset] [(.int (1 : Int32))]))
    refine Go.step (fun _ k => XS.goto X96.here hx rfl (pc0 := 56) (pc' := 60) rfl (hb hby at_56) (by decide) (by decide) k) ?_
    show Go FrameEnd p e below s 0 0 (Q0 Z p1 en0 en1 en2 en3 en4 en5 en6 en7 en8 en9 en10 en11 en12 en13 en14 en15 en16 en17 en18 en19 en20 en21 h0 n0) (T96.setTop (mkF m 60 #[.val (.int p1), .val (.int ((p1 &&& (2147483647 : Int32)) % (22 : Int32))), .val (.ref en14), .unset] [(.int (1 : Int32))]))
    refine Go.step (fun _ k => XS.istoreN X96.here hx rfl (hb hby at_60) rfl (l' := #[.val (.int p1), .val (.int ((p1 &&& (2147483647 : Int32)) % (22 : Int32))), .val (.ref en14), .val (.int (1 : Int32))]) rfl k) ?_
    show Go FrameEnd p e below s 0 0 (Q0 Z p1 en0 en1 en2 en3 en4 en5 en6 en7 en8 en9 en10 en11 en12 en13 en14 en15 en16 en17 en18 en19 en20 en21 h0 n0) (T96.setTop (mkF m 61 #[.val (.int p1), .val (.int ((p1 &&& (2147483647 : Int32)) % (22 : Int32))), .val (.ref en14), .val (.int (1 : Int32))] []))
    refine Go.step (fun _ k => XS.aloadN X96.here hx rfl (hb hby at_61) rfl rfl k) ?_
    show Go FrameEnd p e below s 0 0 (Q0 Z p1 en0 en1 en2 en3 en4 en5 en6 en7 en8 en9 en10 en11 en12 en13 en14 en15 en16 en17 en18 en19 en20 en21 h0 n0) (T96.setTop (mkF m 62 #[.val (.int p1), .val (.int ((p1 &&& (2147483647 : Int32)) % (22 : Int32))), .val (.ref en14), .val (.int (1 : Int32))] [(.ref en14)]))
    obtain ⟨cq97, kq97, q97a, q97b, q97c⟩ := isOf hZ e96 E14
    obtain ⟨_, _, ⟨T97, L97, k97, n97⟩, -, X97, ⟨Lc97, hQ97, l97, y97, z97⟩, st97⟩ := X96.virtualBack hx (y := (⟨"deckmill/Card", "asksChoice", "()Z"⟩ : MethodName)) (z := (⟨"deckmill/Card", "asksChoice", "()Z"⟩ : MethodName)) hown (mvT hZ (hw _ (List.mem_of_getElem? (i := 20) rfl))) (mvT hZ (hw _ (List.mem_of_getElem? (i := 21) rfl))) (notFace_of_selects (args := #[]) (mvT hZ (hw _ (List.mem_of_getElem? (i := 23) rfl)))) (mvT hZ (hw _ (List.mem_of_getElem? (i := 23) rfl))) (mvT hZ (hw _ (List.mem_of_getElem? (i := 22) rfl))) (by decide) (backOf (W := 0) (rm2y l Z a0 hw [] en14 t h0 C14) hZ (hw _ (List.mem_of_getElem? (i := 24) rfl)) (hw _ (List.mem_of_getElem? (i := 6) rfl)) (by decide) (by decide)) q97a q97c (g := (mkF m 62 #[.val (.int p1), .val (.int ((p1 &&& (2147483647 : Int32)) % (22 : Int32))), .val (.ref en14), .val (.int (1 : Int32))] [(.ref en14)])) rfl (by rw [hml]; rfl) (Steps.refl _) (argsL := []) (rest := []) (lenOf pd___Z rfl) rfl (by show 2 * 0 + _ ≤ _; exact Nat.le_of_eq rfl) (hb hby at_62) (fun _ _ => ⟨rfl, e96, (by decide : 0 + 0 ≤ _), (by decide : 0 + 0 ≤ _)⟩)
    dsimp only [Pt.U, Pt.locs, Pt.cells, Pt.slots] at X97 l97 y97 z97 st97 hQ97
    subst l97 y97 z97
    obtain ⟨rfl, rfl, e97⟩ := hQ97
    have N97 := Fr.app N1 (Fr.nil n0)
    refine Go.hop st97 ?_
    show Go FrameEnd p e below s 0 0 (Q0 Z p1 en0 en1 en2 en3 en4 en5 en6 en7 en8 en9 en10 en11 en12 en13 en14 en15 en16 en17 en18 en19 en20 en21 h0 n0) (T97.setTop (mkF m 65 #[.val (.int p1), .val (.int ((p1 &&& (2147483647 : Int32)) % (22 : Int32))), .val (.ref en14), .val (.int (1 : Int32))] [(.int (1 : Int32))]))
    refine Go.step (fun _ k => XS.iloadN X97.here hx rfl (hb hby at_65) rfl k) ?_
    show Go FrameEnd p e below s 0 0 (Q0 Z p1 en0 en1 en2 en3 en4 en5 en6 en7 en8 en9 en10 en11 en12 en13 en14 en15 en16 en17 en18 en19 en20 en21 h0 n0) (T97.setTop (mkF m 66 #[.val (.int p1), .val (.int ((p1 &&& (2147483647 : Int32)) % (22 : Int32))), .val (.ref en14), .val (.int (1 : Int32))] [(.int (1 : Int32)), (.int (1 : Int32))]))
    refine Go.step (fun _ k => XS.icmpNo X97.here hx rfl (hb hby at_66) rfl (teq rfl).2 k) ?_
    show Go FrameEnd p e below s 0 0 (Q0 Z p1 en0 en1 en2 en3 en4 en5 en6 en7 en8 en9 en10 en11 en12 en13 en14 en15 en16 en17 en18 en19 en20 en21 h0 n0) (T97.setTop (mkF m 69 #[.val (.int p1), .val (.int ((p1 &&& (2147483647 : Int32)) % (22 : Int32))), .val (.ref en14), .val (.int (1 : Int32))] []))
    refine Go.step (fun _ k => XS.iconst X97.here hx rfl (hb hby at_69) k) ?_
    show Go FrameEnd p e below s 0 0 (Q0 Z p1 en0 en1 en2 en3 en4 en5 en6 en7 en8 en9 en10 en11 en12 en13 en14 en15 en16 en17 en18 en19 en20 en21 h0 n0) (T97.setTop (mkF m 70 #[.val (.int p1), .val (.int ((p1 &&& (2147483647 : Int32)) % (22 : Int32))), .val (.ref en14), .val (.int (1 : Int32))] [(.int (1 : Int32))]))
    refine Go.step (fun _ k => XS.goto X97.here hx rfl (pc0 := 70) (pc' := 74) rfl (hb hby at_70) (by decide) (by decide) k) ?_
    show Go FrameEnd p e below s 0 0 (Q0 Z p1 en0 en1 en2 en3 en4 en5 en6 en7 en8 en9 en10 en11 en12 en13 en14 en15 en16 en17 en18 en19 en20 en21 h0 n0) (T97.setTop (mkF m 74 #[.val (.int p1), .val (.int ((p1 &&& (2147483647 : Int32)) % (22 : Int32))), .val (.ref en14), .val (.int (1 : Int32))] [(.int (1 : Int32))]))
    refine Go.retN X97 hx (t := .boolean) Bd.returns (by simp) (by decide) (hb hby at_74) (BodyLoose.notSynchronized Bd) e97 (by decide) (by decide) ?_
    exact ⟨rfl, N97⟩
  · skip
    rw [q]
    obtain ⟨⟨S0, E0, F0, C0⟩, ⟨S1, E1, F1, C1⟩, ⟨S2, E2, F2, C2⟩, ⟨S3, E3, F3, C3⟩, ⟨S4, E4, F4, C4⟩, ⟨S5, E5, F5, C5⟩, ⟨S6, E6, F6, C6⟩, ⟨S7, E7, F7, C7⟩, ⟨S8, E8, F8, C8⟩, ⟨S9, E9, F9, C9⟩, ⟨S10, E10, F10, C10⟩, ⟨S11, E11, F11, C11⟩, ⟨S12, E12, F12, C12⟩, ⟨S13, E13, F13, C13⟩, ⟨S14, E14, F14, C14⟩, ⟨S15, E15, F15, C15⟩, ⟨S16, E16, F16, C16⟩, ⟨S17, E17, F17, C17⟩, ⟨S18, E18, F18, C18⟩, ⟨S19, E19, F19, C19⟩, ⟨S20, E20, F20, C20⟩, ⟨S21, E21, F21, C21⟩⟩ := hC
    obtain ⟨t, C15⟩ := C15
    show Go FrameEnd p e below s 0 0 (Q0 Z p1 en0 en1 en2 en3 en4 en5 en6 en7 en8 en9 en10 en11 en12 en13 en14 en15 en16 en17 en18 en19 en20 en21 h0 n0) (T1.setTop (mkF m 12 #[.val (.int p1), .val (.int ((p1 &&& (2147483647 : Int32)) % (22 : Int32))), .unset, .unset] [(.ref en15)]))
    refine Go.step (fun _ k => XS.astoreN X1.here hx rfl (hb hby at_12) rfl rfl (l' := #[.val (.int p1), .val (.int ((p1 &&& (2147483647 : Int32)) % (22 : Int32))), .val (.ref en15), .unset]) rfl k) ?_
    show Go FrameEnd p e below s 0 0 (Q0 Z p1 en0 en1 en2 en3 en4 en5 en6 en7 en8 en9 en10 en11 en12 en13 en14 en15 en16 en17 en18 en19 en20 en21 h0 n0) (T1.setTop (mkF m 13 #[.val (.int p1), .val (.int ((p1 &&& (2147483647 : Int32)) % (22 : Int32))), .val (.ref en15), .unset] []))
    refine Go.step (fun _ k => XS.aloadN X1.here hx rfl (hb hby at_13) rfl rfl k) ?_
    show Go FrameEnd p e below s 0 0 (Q0 Z p1 en0 en1 en2 en3 en4 en5 en6 en7 en8 en9 en10 en11 en12 en13 en14 en15 en16 en17 en18 en19 en20 en21 h0 n0) (T1.setTop (mkF m 14 #[.val (.int p1), .val (.int ((p1 &&& (2147483647 : Int32)) % (22 : Int32))), .val (.ref en15), .unset] [(.ref en15)]))
    obtain ⟨T98, X98, e98, st98⟩ := getS2 X1 hx hZ hown (host := "") (Or.inl (hw _ (List.mem_of_getElem? (i := 8) rfl))) Via.refl e1 S13 (g := (mkF m 14 #[.val (.int p1), .val (.int ((p1 &&& (2147483647 : Int32)) % (22 : Int32))), .val (.ref en15), .unset] [(.ref en15)])) rfl (hb hby at_14)
    refine Go.step st98 ?_
    show Go FrameEnd p e below s 0 0 (Q0 Z p1 en0 en1 en2 en3 en4 en5 en6 en7 en8 en9 en10 en11 en12 en13 en14 en15 en16 en17 en18 en19 en20 en21 h0 n0) (T98.setTop (mkF m 17 #[.val (.int p1), .val (.int ((p1 &&& (2147483647 : Int32)) % (22 : Int32))), .val (.ref en15), .unset] [(.ref en13), (.ref en15)]))
    refine Go.step (fun _ k => Jvm.RoadKit.acmp (g := (mkF m 17 #[.val (.int p1), .val (.int ((p1 &&& (2147483647 : Int32)) % (22 : Int32))), .val (.ref en15), .unset] [(.ref en13), (.ref en15)])) X98 hx rfl rfl rfl (pc0 := 17) (pc' := 20) (same := false) rfl (hb hby at_17) rfl (decide_eq_false fun q => (Ne.symm (Fld.ne F13 F15 (by decide))) (Value.ref.inj q)) (by decide) (by decide) k) ?_
    show Go FrameEnd p e below s 0 0 (Q0 Z p1 en0 en1 en2 en3 en4 en5 en6 en7 en8 en9 en10 en11 en12 en13 en14 en15 en16 en17 en18 en19 en20 en21 h0 n0) (T98.setTop (mkF m 20 #[.val (.int p1), .val (.int ((p1 &&& (2147483647 : Int32)) % (22 : Int32))), .val (.ref en15), .unset] []))
    refine Go.step (fun _ k => XS.aloadN X98.here hx rfl (hb hby at_20) rfl rfl k) ?_
    show Go FrameEnd p e below s 0 0 (Q0 Z p1 en0 en1 en2 en3 en4 en5 en6 en7 en8 en9 en10 en11 en12 en13 en14 en15 en16 en17 en18 en19 en20 en21 h0 n0) (T98.setTop (mkF m 21 #[.val (.int p1), .val (.int ((p1 &&& (2147483647 : Int32)) % (22 : Int32))), .val (.ref en15), .unset] [(.ref en15)]))
    obtain ⟨T99, X99, e99, st99⟩ := getS2 X98 hx hZ hown (host := "") (Or.inl (hw _ (List.mem_of_getElem? (i := 10) rfl))) Via.refl e98 S14 (g := (mkF m 21 #[.val (.int p1), .val (.int ((p1 &&& (2147483647 : Int32)) % (22 : Int32))), .val (.ref en15), .unset] [(.ref en15)])) rfl (hb hby at_21)
    refine Go.step st99 ?_
    show Go FrameEnd p e below s 0 0 (Q0 Z p1 en0 en1 en2 en3 en4 en5 en6 en7 en8 en9 en10 en11 en12 en13 en14 en15 en16 en17 en18 en19 en20 en21 h0 n0) (T99.setTop (mkF m 24 #[.val (.int p1), .val (.int ((p1 &&& (2147483647 : Int32)) % (22 : Int32))), .val (.ref en15), .unset] [(.ref en14), (.ref en15)]))
    refine Go.step (fun _ k => Jvm.RoadKit.acmp (g := (mkF m 24 #[.val (.int p1), .val (.int ((p1 &&& (2147483647 : Int32)) % (22 : Int32))), .val (.ref en15), .unset] [(.ref en14), (.ref en15)])) X99 hx rfl rfl rfl (pc0 := 24) (pc' := 27) (same := false) rfl (hb hby at_24) rfl (decide_eq_false fun q => (Ne.symm (Fld.ne F14 F15 (by decide))) (Value.ref.inj q)) (by decide) (by decide) k) ?_
    show Go FrameEnd p e below s 0 0 (Q0 Z p1 en0 en1 en2 en3 en4 en5 en6 en7 en8 en9 en10 en11 en12 en13 en14 en15 en16 en17 en18 en19 en20 en21 h0 n0) (T99.setTop (mkF m 27 #[.val (.int p1), .val (.int ((p1 &&& (2147483647 : Int32)) % (22 : Int32))), .val (.ref en15), .unset] []))
    refine Go.step (fun _ k => XS.aloadN X99.here hx rfl (hb hby at_27) rfl rfl k) ?_
    show Go FrameEnd p e below s 0 0 (Q0 Z p1 en0 en1 en2 en3 en4 en5 en6 en7 en8 en9 en10 en11 en12 en13 en14 en15 en16 en17 en18 en19 en20 en21 h0 n0) (T99.setTop (mkF m 28 #[.val (.int p1), .val (.int ((p1 &&& (2147483647 : Int32)) % (22 : Int32))), .val (.ref en15), .unset] [(.ref en15)]))
    obtain ⟨T100, X100, e100, st100⟩ := getS2 X99 hx hZ hown (host := "") (Or.inl (hw _ (List.mem_of_getElem? (i := 12) rfl))) Via.refl e99 S15 (g := (mkF m 28 #[.val (.int p1), .val (.int ((p1 &&& (2147483647 : Int32)) % (22 : Int32))), .val (.ref en15), .unset] [(.ref en15)])) rfl (hb hby at_28)
    refine Go.step st100 ?_
    show Go FrameEnd p e below s 0 0 (Q0 Z p1 en0 en1 en2 en3 en4 en5 en6 en7 en8 en9 en10 en11 en12 en13 en14 en15 en16 en17 en18 en19 en20 en21 h0 n0) (T100.setTop (mkF m 31 #[.val (.int p1), .val (.int ((p1 &&& (2147483647 : Int32)) % (22 : Int32))), .val (.ref en15), .unset] [(.ref en15), (.ref en15)]))
    refine Go.step (fun _ k => Jvm.RoadKit.acmp (g := (mkF m 31 #[.val (.int p1), .val (.int ((p1 &&& (2147483647 : Int32)) % (22 : Int32))), .val (.ref en15), .unset] [(.ref en15), (.ref en15)])) X100 hx rfl rfl rfl (pc0 := 31) (pc' := 55) (same := true) rfl (hb hby at_31) rfl (decide_eq_true (congrArg Value.ref rfl)) (by decide) (by decide) k) ?_
    show Go FrameEnd p e below s 0 0 (Q0 Z p1 en0 en1 en2 en3 en4 en5 en6 en7 en8 en9 en10 en11 en12 en13 en14 en15 en16 en17 en18 en19 en20 en21 h0 n0) (T100.setTop (mkF m 55 #[.val (.int p1), .val (.int ((p1 &&& (2147483647 : Int32)) % (22 : Int32))), .val (.ref en15), .unset] []))
    refine Go.step (fun _ k => XS.iconst X100.here hx rfl (hb hby at_55) k) ?_
    show Go FrameEnd p e below s 0 0 (Q0 Z p1 en0 en1 en2 en3 en4 en5 en6 en7 en8 en9 en10 en11 en12 en13 en14 en15 en16 en17 en18 en19 en20 en21 h0 n0) (T100.setTop (mkF m 56 #[.val (.int p1), .val (.int ((p1 &&& (2147483647 : Int32)) % (22 : Int32))), .val (.ref en15), .unset] [(.int (1 : Int32))]))
    refine Go.step (fun _ k => XS.goto X100.here hx rfl (pc0 := 56) (pc' := 60) rfl (hb hby at_56) (by decide) (by decide) k) ?_
    show Go FrameEnd p e below s 0 0 (Q0 Z p1 en0 en1 en2 en3 en4 en5 en6 en7 en8 en9 en10 en11 en12 en13 en14 en15 en16 en17 en18 en19 en20 en21 h0 n0) (T100.setTop (mkF m 60 #[.val (.int p1), .val (.int ((p1 &&& (2147483647 : Int32)) % (22 : Int32))), .val (.ref en15), .unset] [(.int (1 : Int32))]))
    refine Go.step (fun _ k => XS.istoreN X100.here hx rfl (hb hby at_60) rfl (l' := #[.val (.int p1), .val (.int ((p1 &&& (2147483647 : Int32)) % (22 : Int32))), .val (.ref en15), .val (.int (1 : Int32))]) rfl k) ?_
    show Go FrameEnd p e below s 0 0 (Q0 Z p1 en0 en1 en2 en3 en4 en5 en6 en7 en8 en9 en10 en11 en12 en13 en14 en15 en16 en17 en18 en19 en20 en21 h0 n0) (T100.setTop (mkF m 61 #[.val (.int p1), .val (.int ((p1 &&& (2147483647 : Int32)) % (22 : Int32))), .val (.ref en15), .val (.int (1 : Int32))] []))
    refine Go.step (fun _ k => XS.aloadN X100.here hx rfl (hb hby at_61) rfl rfl k) ?_
    show Go FrameEnd p e below s 0 0 (Q0 Z p1 en0 en1 en2 en3 en4 en5 en6 en7 en8 en9 en10 en11 en12 en13 en14 en15 en16 en17 en18 en19 en20 en21 h0 n0) (T100.setTop (mkF m 62 #[.val (.int p1), .val (.int ((p1 &&& (2147483647 : Int32)) % (22 : Int32))), .val (.ref en15), .val (.int (1 : Int32))] [(.ref en15)]))
    obtain ⟨cq101, kq101, q101a, q101b, q101c⟩ := isOf hZ e100 E15
    obtain ⟨_, _, ⟨T101, L101, k101, n101⟩, -, X101, ⟨Lc101, hQ101, l101, y101, z101⟩, st101⟩ := X100.virtualBack hx (y := (⟨"deckmill/Card", "asksChoice", "()Z"⟩ : MethodName)) (z := (⟨"deckmill/Card", "asksChoice", "()Z"⟩ : MethodName)) hown (mvT hZ (hw _ (List.mem_of_getElem? (i := 20) rfl))) (mvT hZ (hw _ (List.mem_of_getElem? (i := 21) rfl))) (notFace_of_selects (args := #[]) (mvT hZ (hw _ (List.mem_of_getElem? (i := 23) rfl)))) (mvT hZ (hw _ (List.mem_of_getElem? (i := 23) rfl))) (mvT hZ (hw _ (List.mem_of_getElem? (i := 22) rfl))) (by decide) (backOf (W := 0) (rm2y l Z a0 hw [] en15 t h0 C15) hZ (hw _ (List.mem_of_getElem? (i := 24) rfl)) (hw _ (List.mem_of_getElem? (i := 6) rfl)) (by decide) (by decide)) q101a q101c (g := (mkF m 62 #[.val (.int p1), .val (.int ((p1 &&& (2147483647 : Int32)) % (22 : Int32))), .val (.ref en15), .val (.int (1 : Int32))] [(.ref en15)])) rfl (by rw [hml]; rfl) (Steps.refl _) (argsL := []) (rest := []) (lenOf pd___Z rfl) rfl (by show 2 * 0 + _ ≤ _; exact Nat.le_of_eq rfl) (hb hby at_62) (fun _ _ => ⟨rfl, e100, (by decide : 0 + 0 ≤ _), (by decide : 0 + 0 ≤ _)⟩)
    dsimp only [Pt.U, Pt.locs, Pt.cells, Pt.slots] at X101 l101 y101 z101 st101 hQ101
    subst l101 y101 z101
    obtain ⟨rfl, rfl, e101⟩ := hQ101
    have N101 := Fr.app N1 (Fr.nil n0)
    refine Go.hop st101 ?_
    show Go FrameEnd p e below s 0 0 (Q0 Z p1 en0 en1 en2 en3 en4 en5 en6 en7 en8 en9 en10 en11 en12 en13 en14 en15 en16 en17 en18 en19 en20 en21 h0 n0) (T101.setTop (mkF m 65 #[.val (.int p1), .val (.int ((p1 &&& (2147483647 : Int32)) % (22 : Int32))), .val (.ref en15), .val (.int (1 : Int32))] [(.int (1 : Int32))]))
    refine Go.step (fun _ k => XS.iloadN X101.here hx rfl (hb hby at_65) rfl k) ?_
    show Go FrameEnd p e below s 0 0 (Q0 Z p1 en0 en1 en2 en3 en4 en5 en6 en7 en8 en9 en10 en11 en12 en13 en14 en15 en16 en17 en18 en19 en20 en21 h0 n0) (T101.setTop (mkF m 66 #[.val (.int p1), .val (.int ((p1 &&& (2147483647 : Int32)) % (22 : Int32))), .val (.ref en15), .val (.int (1 : Int32))] [(.int (1 : Int32)), (.int (1 : Int32))]))
    refine Go.step (fun _ k => XS.icmpNo X101.here hx rfl (hb hby at_66) rfl (teq rfl).2 k) ?_
    show Go FrameEnd p e below s 0 0 (Q0 Z p1 en0 en1 en2 en3 en4 en5 en6 en7 en8 en9 en10 en11 en12 en13 en14 en15 en16 en17 en18 en19 en20 en21 h0 n0) (T101.setTop (mkF m 69 #[.val (.int p1), .val (.int ((p1 &&& (2147483647 : Int32)) % (22 : Int32))), .val (.ref en15), .val (.int (1 : Int32))] []))
    refine Go.step (fun _ k => XS.iconst X101.here hx rfl (hb hby at_69) k) ?_
    show Go FrameEnd p e below s 0 0 (Q0 Z p1 en0 en1 en2 en3 en4 en5 en6 en7 en8 en9 en10 en11 en12 en13 en14 en15 en16 en17 en18 en19 en20 en21 h0 n0) (T101.setTop (mkF m 70 #[.val (.int p1), .val (.int ((p1 &&& (2147483647 : Int32)) % (22 : Int32))), .val (.ref en15), .val (.int (1 : Int32))] [(.int (1 : Int32))]))
    refine Go.step (fun _ k => XS.goto X101.here hx rfl (pc0 := 70) (pc' := 74) rfl (hb hby at_70) (by decide) (by decide) k) ?_
    show Go FrameEnd p e below s 0 0 (Q0 Z p1 en0 en1 en2 en3 en4 en5 en6 en7 en8 en9 en10 en11 en12 en13 en14 en15 en16 en17 en18 en19 en20 en21 h0 n0) (T101.setTop (mkF m 74 #[.val (.int p1), .val (.int ((p1 &&& (2147483647 : Int32)) % (22 : Int32))), .val (.ref en15), .val (.int (1 : Int32))] [(.int (1 : Int32))]))
    refine Go.retN X101 hx (t := .boolean) Bd.returns (by simp) (by decide) (hb hby at_74) (BodyLoose.notSynchronized Bd) e101 (by decide) (by decide) ?_
    exact ⟨rfl, N101⟩
  · skip
    rw [q]
    obtain ⟨⟨S0, E0, F0, C0⟩, ⟨S1, E1, F1, C1⟩, ⟨S2, E2, F2, C2⟩, ⟨S3, E3, F3, C3⟩, ⟨S4, E4, F4, C4⟩, ⟨S5, E5, F5, C5⟩, ⟨S6, E6, F6, C6⟩, ⟨S7, E7, F7, C7⟩, ⟨S8, E8, F8, C8⟩, ⟨S9, E9, F9, C9⟩, ⟨S10, E10, F10, C10⟩, ⟨S11, E11, F11, C11⟩, ⟨S12, E12, F12, C12⟩, ⟨S13, E13, F13, C13⟩, ⟨S14, E14, F14, C14⟩, ⟨S15, E15, F15, C15⟩, ⟨S16, E16, F16, C16⟩, ⟨S17, E17, F17, C17⟩, ⟨S18, E18, F18, C18⟩, ⟨S19, E19, F19, C19⟩, ⟨S20, E20, F20, C20⟩, ⟨S21, E21, F21, C21⟩⟩ := hC
    obtain ⟨t, C16⟩ := C16
    show Go FrameEnd p e below s 0 0 (Q0 Z p1 en0 en1 en2 en3 en4 en5 en6 en7 en8 en9 en10 en11 en12 en13 en14 en15 en16 en17 en18 en19 en20 en21 h0 n0) (T1.setTop (mkF m 12 #[.val (.int p1), .val (.int ((p1 &&& (2147483647 : Int32)) % (22 : Int32))), .unset, .unset] [(.ref en16)]))
    refine Go.step (fun _ k => XS.astoreN X1.here hx rfl (hb hby at_12) rfl rfl (l' := #[.val (.int p1), .val (.int ((p1 &&& (2147483647 : Int32)) % (22 : Int32))), .val (.ref en16), .unset]) rfl k) ?_
    show Go FrameEnd p e below s 0 0 (Q0 Z p1 en0 en1 en2 en3 en4 en5 en6 en7 en8 en9 en10 en11 en12 en13 en14 en15 en16 en17 en18 en19 en20 en21 h0 n0) (T1.setTop (mkF m 13 #[.val (.int p1), .val (.int ((p1 &&& (2147483647 : Int32)) % (22 : Int32))), .val (.ref en16), .unset] []))
    refine Go.step (fun _ k => XS.aloadN X1.here hx rfl (hb hby at_13) rfl rfl k) ?_
    show Go FrameEnd p e below s 0 0 (Q0 Z p1 en0 en1 en2 en3 en4 en5 en6 en7 en8 en9 en10 en11 en12 en13 en14 en15 en16 en17 en18 en19 en20 en21 h0 n0) (T1.setTop (mkF m 14 #[.val (.int p1), .val (.int ((p1 &&& (2147483647 : Int32)) % (22 : Int32))), .val (.ref en16), .unset] [(.ref en16)]))
    obtain ⟨T102, X102, e102, st102⟩ := getS2 X1 hx hZ hown (host := "") (Or.inl (hw _ (List.mem_of_getElem? (i := 8) rfl))) Via.refl e1 S13 (g := (mkF m 14 #[.val (.int p1), .val (.int ((p1 &&& (2147483647 : Int32)) % (22 : Int32))), .val (.ref en16), .unset] [(.ref en16)])) rfl (hb hby at_14)
    refine Go.step st102 ?_
    show Go FrameEnd p e below s 0 0 (Q0 Z p1 en0 en1 en2 en3 en4 en5 en6 en7 en8 en9 en10 en11 en12 en13 en14 en15 en16 en17 en18 en19 en20 en21 h0 n0) (T102.setTop (mkF m 17 #[.val (.int p1), .val (.int ((p1 &&& (2147483647 : Int32)) % (22 : Int32))), .val (.ref en16), .unset] [(.ref en13), (.ref en16)]))
    refine Go.step (fun _ k => Jvm.RoadKit.acmp (g := (mkF m 17 #[.val (.int p1), .val (.int ((p1 &&& (2147483647 : Int32)) % (22 : Int32))), .val (.ref en16), .unset] [(.ref en13), (.ref en16)])) X102 hx rfl rfl rfl (pc0 := 17) (pc' := 20) (same := false) rfl (hb hby at_17) rfl (decide_eq_false fun q => (Ne.symm (Fld.ne F13 F16 (by decide))) (Value.ref.inj q)) (by decide) (by decide) k) ?_
    show Go FrameEnd p e below s 0 0 (Q0 Z p1 en0 en1 en2 en3 en4 en5 en6 en7 en8 en9 en10 en11 en12 en13 en14 en15 en16 en17 en18 en19 en20 en21 h0 n0) (T102.setTop (mkF m 20 #[.val (.int p1), .val (.int ((p1 &&& (2147483647 : Int32)) % (22 : Int32))), .val (.ref en16), .unset] []))
    refine Go.step (fun _ k => XS.aloadN X102.here hx rfl (hb hby at_20) rfl rfl k) ?_
    show Go FrameEnd p e below s 0 0 (Q0 Z p1 en0 en1 en2 en3 en4 en5 en6 en7 en8 en9 en10 en11 en12 en13 en14 en15 en16 en17 en18 en19 en20 en21 h0 n0) (T102.setTop (mkF m 21 #[.val (.int p1), .val (.int ((p1 &&& (2147483647 : Int32)) % (22 : Int32))), .val (.ref en16), .unset] [(.ref en16)]))
    obtain ⟨T103, X103, e103, st103⟩ := getS2 X102 hx hZ hown (host := "") (Or.inl (hw _ (List.mem_of_getElem? (i := 10) rfl))) Via.refl e102 S14 (g := (mkF m 21 #[.val (.int p1), .val (.int ((p1 &&& (2147483647 : Int32)) % (22 : Int32))), .val (.ref en16), .unset] [(.ref en16)])) rfl (hb hby at_21)
    refine Go.step st103 ?_
    show Go FrameEnd p e below s 0 0 (Q0 Z p1 en0 en1 en2 en3 en4 en5 en6 en7 en8 en9 en10 en11 en12 en13 en14 en15 en16 en17 en18 en19 en20 en21 h0 n0) (T103.setTop (mkF m 24 #[.val (.int p1), .val (.int ((p1 &&& (2147483647 : Int32)) % (22 : Int32))), .val (.ref en16), .unset] [(.ref en14), (.ref en16)]))
    refine Go.step (fun _ k => Jvm.RoadKit.acmp (g := (mkF m 24 #[.val (.int p1), .val (.int ((p1 &&& (2147483647 : Int32)) % (22 : Int32))), .val (.ref en16), .unset] [(.ref en14), (.ref en16)])) X103 hx rfl rfl rfl (pc0 := 24) (pc' := 27) (same := false) rfl (hb hby at_24) rfl (decide_eq_false fun q => (Ne.symm (Fld.ne F14 F16 (by decide))) (Value.ref.inj q)) (by decide) (by decide) k) ?_
    show Go FrameEnd p e below s 0 0 (Q0 Z p1 en0 en1 en2 en3 en4 en5 en6 en7 en8 en9 en10 en11 en12 en13 en14 en15 en16 en17 en18 en19 en20 en21 h0 n0) (T103.setTop (mkF m 27 #[.val (.int p1), .val (.int ((p1 &&& (2147483647 : Int32)) % (22 : Int32))), .val (.ref en16), .unset] []))
    refine Go.step (fun _ k => XS.aloadN X103.here hx rfl (hb hby at_27) rfl rfl k) ?_
    show Go FrameEnd p e below s 0 0 (Q0 Z p1 en0 en1 en2 en3 en4 en5 en6 en7 en8 en9 en10 en11 en12 en13 en14 en15 en16 en17 en18 en19 en20 en21 h0 n0) (T103.setTop (mkF m 28 #[.val (.int p1), .val (.int ((p1 &&& (2147483647 : Int32)) % (22 : Int32))), .val (.ref en16), .unset] [(.ref en16)]))
    obtain ⟨T104, X104, e104, st104⟩ := getS2 X103 hx hZ hown (host := "") (Or.inl (hw _ (List.mem_of_getElem? (i := 12) rfl))) Via.refl e103 S15 (g := (mkF m 28 #[.val (.int p1), .val (.int ((p1 &&& (2147483647 : Int32)) % (22 : Int32))), .val (.ref en16), .unset] [(.ref en16)])) rfl (hb hby at_28)
    refine Go.step st104 ?_
    show Go FrameEnd p e below s 0 0 (Q0 Z p1 en0 en1 en2 en3 en4 en5 en6 en7 en8 en9 en10 en11 en12 en13 en14 en15 en16 en17 en18 en19 en20 en21 h0 n0) (T104.setTop (mkF m 31 #[.val (.int p1), .val (.int ((p1 &&& (2147483647 : Int32)) % (22 : Int32))), .val (.ref en16), .unset] [(.ref en15), (.ref en16)]))
    refine Go.step (fun _ k => Jvm.RoadKit.acmp (g := (mkF m 31 #[.val (.int p1), .val (.int ((p1 &&& (2147483647 : Int32)) % (22 : Int32))), .val (.ref en16), .unset] [(.ref en15), (.ref en16)])) X104 hx rfl rfl rfl (pc0 := 31) (pc' := 34) (same := false) rfl (hb hby at_31) rfl (decide_eq_false fun q => (Ne.symm (Fld.ne F15 F16 (by decide))) (Value.ref.inj q)) (by decide) (by decide) k) ?_
    show Go FrameEnd p e below s 0 0 (Q0 Z p1 en0 en1 en2 en3 en4 en5 en6 en7 en8 en9 en10 en11 en12 en13 en14 en15 en16 en17 en18 en19 en20 en21 h0 n0) (T104.setTop (mkF m 34 #[.val (.int p1), .val (.int ((p1 &&& (2147483647 : Int32)) % (22 : Int32))), .val (.ref en16), .unset] []))
    refine Go.step (fun _ k => XS.aloadN X104.here hx rfl (hb hby at_34) rfl rfl k) ?_
    show Go FrameEnd p e below s 0 0 (Q0 Z p1 en0 en1 en2 en3 en4 en5 en6 en7 en8 en9 en10 en11 en12 en13 en14 en15 en16 en17 en18 en19 en20 en21 h0 n0) (T104.setTop (mkF m 35 #[.val (.int p1), .val (.int ((p1 &&& (2147483647 : Int32)) % (22 : Int32))), .val (.ref en16), .unset] [(.ref en16)]))
    obtain ⟨T105, X105, e105, st105⟩ := getS2 X104 hx hZ hown (host := "") (Or.inl (hw _ (List.mem_of_getElem? (i := 14) rfl))) Via.refl e104 S16 (g := (mkF m 35 #[.val (.int p1), .val (.int ((p1 &&& (2147483647 : Int32)) % (22 : Int32))), .val (.ref en16), .unset] [(.ref en16)])) rfl (hb hby at_35)
    refine Go.step st105 ?_
    show Go FrameEnd p e below s 0 0 (Q0 Z p1 en0 en1 en2 en3 en4 en5 en6 en7 en8 en9 en10 en11 en12 en13 en14 en15 en16 en17 en18 en19 en20 en21 h0 n0) (T105.setTop (mkF m 38 #[.val (.int p1), .val (.int ((p1 &&& (2147483647 : Int32)) % (22 : Int32))), .val (.ref en16), .unset] [(.ref en16), (.ref en16)]))
    refine Go.step (fun _ k => Jvm.RoadKit.acmp (g := (mkF m 38 #[.val (.int p1), .val (.int ((p1 &&& (2147483647 : Int32)) % (22 : Int32))), .val (.ref en16), .unset] [(.ref en16), (.ref en16)])) X105 hx rfl rfl rfl (pc0 := 38) (pc' := 55) (same := true) rfl (hb hby at_38) rfl (decide_eq_true (congrArg Value.ref rfl)) (by decide) (by decide) k) ?_
    show Go FrameEnd p e below s 0 0 (Q0 Z p1 en0 en1 en2 en3 en4 en5 en6 en7 en8 en9 en10 en11 en12 en13 en14 en15 en16 en17 en18 en19 en20 en21 h0 n0) (T105.setTop (mkF m 55 #[.val (.int p1), .val (.int ((p1 &&& (2147483647 : Int32)) % (22 : Int32))), .val (.ref en16), .unset] []))
    refine Go.step (fun _ k => XS.iconst X105.here hx rfl (hb hby at_55) k) ?_
    show Go FrameEnd p e below s 0 0 (Q0 Z p1 en0 en1 en2 en3 en4 en5 en6 en7 en8 en9 en10 en11 en12 en13 en14 en15 en16 en17 en18 en19 en20 en21 h0 n0) (T105.setTop (mkF m 56 #[.val (.int p1), .val (.int ((p1 &&& (2147483647 : Int32)) % (22 : Int32))), .val (.ref en16), .unset] [(.int (1 : Int32))]))
    refine Go.step (fun _ k => XS.goto X105.here hx rfl (pc0 := 56) (pc' := 60) rfl (hb hby at_56) (by decide) (by decide) k) ?_
    show Go FrameEnd p e below s 0 0 (Q0 Z p1 en0 en1 en2 en3 en4 en5 en6 en7 en8 en9 en10 en11 en12 en13 en14 en15 en16 en17 en18 en19 en20 en21 h0 n0) (T105.setTop (mkF m 60 #[.val (.int p1), .val (.int ((p1 &&& (2147483647 : Int32)) % (22 : Int32))), .val (.ref en16), .unset] [(.int (1 : Int32))]))
    refine Go.step (fun _ k => XS.istoreN X105.here hx rfl (hb hby at_60) rfl (l' := #[.val (.int p1), .val (.int ((p1 &&& (2147483647 : Int32)) % (22 : Int32))), .val (.ref en16), .val (.int (1 : Int32))]) rfl k) ?_
    show Go FrameEnd p e below s 0 0 (Q0 Z p1 en0 en1 en2 en3 en4 en5 en6 en7 en8 en9 en10 en11 en12 en13 en14 en15 en16 en17 en18 en19 en20 en21 h0 n0) (T105.setTop (mkF m 61 #[.val (.int p1), .val (.int ((p1 &&& (2147483647 : Int32)) % (22 : Int32))), .val (.ref en16), .val (.int (1 : Int32))] []))
    refine Go.step (fun _ k => XS.aloadN X105.here hx rfl (hb hby at_61) rfl rfl k) ?_
    show Go FrameEnd p e below s 0 0 (Q0 Z p1 en0 en1 en2 en3 en4 en5 en6 en7 en8 en9 en10 en11 en12 en13 en14 en15 en16 en17 en18 en19 en20 en21 h0 n0) (T105.setTop (mkF m 62 #[.val (.int p1), .val (.int ((p1 &&& (2147483647 : Int32)) % (22 : Int32))), .val (.ref en16), .val (.int (1 : Int32))] [(.ref en16)]))
    obtain ⟨cq106, kq106, q106a, q106b, q106c⟩ := isOf hZ e105 E16
    obtain ⟨_, _, ⟨T106, L106, k106, n106⟩, -, X106, ⟨Lc106, hQ106, l106, y106, z106⟩, st106⟩ := X105.virtualBack hx (y := (⟨"deckmill/Card", "asksChoice", "()Z"⟩ : MethodName)) (z := (⟨"deckmill/Card", "asksChoice", "()Z"⟩ : MethodName)) hown (mvT hZ (hw _ (List.mem_of_getElem? (i := 20) rfl))) (mvT hZ (hw _ (List.mem_of_getElem? (i := 21) rfl))) (notFace_of_selects (args := #[]) (mvT hZ (hw _ (List.mem_of_getElem? (i := 23) rfl)))) (mvT hZ (hw _ (List.mem_of_getElem? (i := 23) rfl))) (mvT hZ (hw _ (List.mem_of_getElem? (i := 22) rfl))) (by decide) (backOf (W := 0) (rm2y l Z a0 hw [] en16 t h0 C16) hZ (hw _ (List.mem_of_getElem? (i := 24) rfl)) (hw _ (List.mem_of_getElem? (i := 6) rfl)) (by decide) (by decide)) q106a q106c (g := (mkF m 62 #[.val (.int p1), .val (.int ((p1 &&& (2147483647 : Int32)) % (22 : Int32))), .val (.ref en16), .val (.int (1 : Int32))] [(.ref en16)])) rfl (by rw [hml]; rfl) (Steps.refl _) (argsL := []) (rest := []) (lenOf pd___Z rfl) rfl (by show 2 * 0 + _ ≤ _; exact Nat.le_of_eq rfl) (hb hby at_62) (fun _ _ => ⟨rfl, e105, (by decide : 0 + 0 ≤ _), (by decide : 0 + 0 ≤ _)⟩)
    dsimp only [Pt.U, Pt.locs, Pt.cells, Pt.slots] at X106 l106 y106 z106 st106 hQ106
    subst l106 y106 z106
    obtain ⟨rfl, rfl, e106⟩ := hQ106
    have N106 := Fr.app N1 (Fr.nil n0)
    refine Go.hop st106 ?_
    show Go FrameEnd p e below s 0 0 (Q0 Z p1 en0 en1 en2 en3 en4 en5 en6 en7 en8 en9 en10 en11 en12 en13 en14 en15 en16 en17 en18 en19 en20 en21 h0 n0) (T106.setTop (mkF m 65 #[.val (.int p1), .val (.int ((p1 &&& (2147483647 : Int32)) % (22 : Int32))), .val (.ref en16), .val (.int (1 : Int32))] [(.int (1 : Int32))]))
    refine Go.step (fun _ k => XS.iloadN X106.here hx rfl (hb hby at_65) rfl k) ?_
    show Go FrameEnd p e below s 0 0 (Q0 Z p1 en0 en1 en2 en3 en4 en5 en6 en7 en8 en9 en10 en11 en12 en13 en14 en15 en16 en17 en18 en19 en20 en21 h0 n0) (T106.setTop (mkF m 66 #[.val (.int p1), .val (.int ((p1 &&& (2147483647 : Int32)) % (22 : Int32))), .val (.ref en16), .val (.int (1 : Int32))] [(.int (1 : Int32)), (.int (1 : Int32))]))
    refine Go.step (fun _ k => XS.icmpNo X106.here hx rfl (hb hby at_66) rfl (teq rfl).2 k) ?_
    show Go FrameEnd p e below s 0 0 (Q0 Z p1 en0 en1 en2 en3 en4 en5 en6 en7 en8 en9 en10 en11 en12 en13 en14 en15 en16 en17 en18 en19 en20 en21 h0 n0) (T106.setTop (mkF m 69 #[.val (.int p1), .val (.int ((p1 &&& (2147483647 : Int32)) % (22 : Int32))), .val (.ref en16), .val (.int (1 : Int32))] []))
    refine Go.step (fun _ k => XS.iconst X106.here hx rfl (hb hby at_69) k) ?_
    show Go FrameEnd p e below s 0 0 (Q0 Z p1 en0 en1 en2 en3 en4 en5 en6 en7 en8 en9 en10 en11 en12 en13 en14 en15 en16 en17 en18 en19 en20 en21 h0 n0) (T106.setTop (mkF m 70 #[.val (.int p1), .val (.int ((p1 &&& (2147483647 : Int32)) % (22 : Int32))), .val (.ref en16), .val (.int (1 : Int32))] [(.int (1 : Int32))]))
    refine Go.step (fun _ k => XS.goto X106.here hx rfl (pc0 := 70) (pc' := 74) rfl (hb hby at_70) (by decide) (by decide) k) ?_
    show Go FrameEnd p e below s 0 0 (Q0 Z p1 en0 en1 en2 en3 en4 en5 en6 en7 en8 en9 en10 en11 en12 en13 en14 en15 en16 en17 en18 en19 en20 en21 h0 n0) (T106.setTop (mkF m 74 #[.val (.int p1), .val (.int ((p1 &&& (2147483647 : Int32)) % (22 : Int32))), .val (.ref en16), .val (.int (1 : Int32))] [(.int (1 : Int32))]))
    refine Go.retN X106 hx (t := .boolean) Bd.returns (by simp) (by decide) (hb hby at_74) (BodyLoose.notSynchronized Bd) e106 (by decide) (by decide) ?_
    exact ⟨rfl, N106⟩
  · skip
    rw [q]
    obtain ⟨⟨S0, E0, F0, C0⟩, ⟨S1, E1, F1, C1⟩, ⟨S2, E2, F2, C2⟩, ⟨S3, E3, F3, C3⟩, ⟨S4, E4, F4, C4⟩, ⟨S5, E5, F5, C5⟩, ⟨S6, E6, F6, C6⟩, ⟨S7, E7, F7, C7⟩, ⟨S8, E8, F8, C8⟩, ⟨S9, E9, F9, C9⟩, ⟨S10, E10, F10, C10⟩, ⟨S11, E11, F11, C11⟩, ⟨S12, E12, F12, C12⟩, ⟨S13, E13, F13, C13⟩, ⟨S14, E14, F14, C14⟩, ⟨S15, E15, F15, C15⟩, ⟨S16, E16, F16, C16⟩, ⟨S17, E17, F17, C17⟩, ⟨S18, E18, F18, C18⟩, ⟨S19, E19, F19, C19⟩, ⟨S20, E20, F20, C20⟩, ⟨S21, E21, F21, C21⟩⟩ := hC
    obtain ⟨t, C17⟩ := C17
    show Go FrameEnd p e below s 0 0 (Q0 Z p1 en0 en1 en2 en3 en4 en5 en6 en7 en8 en9 en10 en11 en12 en13 en14 en15 en16 en17 en18 en19 en20 en21 h0 n0) (T1.setTop (mkF m 12 #[.val (.int p1), .val (.int ((p1 &&& (2147483647 : Int32)) % (22 : Int32))), .unset, .unset] [(.ref en17)]))
    refine Go.step (fun _ k => XS.astoreN X1.here hx rfl (hb hby at_12) rfl rfl (l' := #[.val (.int p1), .val (.int ((p1 &&& (2147483647 : Int32)) % (22 : Int32))), .val (.ref en17), .unset]) rfl k) ?_
    show Go FrameEnd p e below s 0 0 (Q0 Z p1 en0 en1 en2 en3 en4 en5 en6 en7 en8 en9 en10 en11 en12 en13 en14 en15 en16 en17 en18 en19 en20 en21 h0 n0) (T1.setTop (mkF m 13 #[.val (.int p1), .val (.int ((p1 &&& (2147483647 : Int32)) % (22 : Int32))), .val (.ref en17), .unset] []))
    refine Go.step (fun _ k => XS.aloadN X1.here hx rfl (hb hby at_13) rfl rfl k) ?_
    show Go FrameEnd p e below s 0 0 (Q0 Z p1 en0 en1 en2 en3 en4 en5 en6 en7 en8 en9 en10 en11 en12 en13 en14 en15 en16 en17 en18 en19 en20 en21 h0 n0) (T1.setTop (mkF m 14 #[.val (.int p1), .val (.int ((p1 &&& (2147483647 : Int32)) % (22 : Int32))), .val (.ref en17), .unset] [(.ref en17)]))
    obtain ⟨T107, X107, e107, st107⟩ := getS2 X1 hx hZ hown (host := "") (Or.inl (hw _ (List.mem_of_getElem? (i := 8) rfl))) Via.refl e1 S13 (g := (mkF m 14 #[.val (.int p1), .val (.int ((p1 &&& (2147483647 : Int32)) % (22 : Int32))), .val (.ref en17), .unset] [(.ref en17)])) rfl (hb hby at_14)
    refine Go.step st107 ?_
    show Go FrameEnd p e below s 0 0 (Q0 Z p1 en0 en1 en2 en3 en4 en5 en6 en7 en8 en9 en10 en11 en12 en13 en14 en15 en16 en17 en18 en19 en20 en21 h0 n0) (T107.setTop (mkF m 17 #[.val (.int p1), .val (.int ((p1 &&& (2147483647 : Int32)) % (22 : Int32))), .val (.ref en17), .unset] [(.ref en13), (.ref en17)]))
    refine Go.step (fun _ k => Jvm.RoadKit.acmp (g := (mkF m 17 #[.val (.int p1), .val (.int ((p1 &&& (2147483647 : Int32)) % (22 : Int32))), .val (.ref en17), .unset] [(.ref en13), (.ref en17)])) X107 hx rfl rfl rfl (pc0 := 17) (pc' := 20) (same := false) rfl (hb hby at_17) rfl (decide_eq_false fun q => (Ne.symm (Fld.ne F13 F17 (by decide))) (Value.ref.inj q)) (by decide) (by decide) k) ?_
    show Go FrameEnd p e below s 0 0 (Q0 Z p1 en0 en1 en2 en3 en4 en5 en6 en7 en8 en9 en10 en11 en12 en13 en14 en15 en16 en17 en18 en19 en20 en21 h0 n0) (T107.setTop (mkF m 20 #[.val (.int p1), .val (.int ((p1 &&& (2147483647 : Int32)) % (22 : Int32))), .val (.ref en17), .unset] []))
    refine Go.step (fun _ k => XS.aloadN X107.here hx rfl (hb hby at_20) rfl rfl k) ?_
    show Go FrameEnd p e below s 0 0 (Q0 Z p1 en0 en1 en2 en3 en4 en5 en6 en7 en8 en9 en10 en11 en12 en13 en14 en15 en16 en17 en18 en19 en20 en21 h0 n0) (T107.setTop (mkF m 21 #[.val (.int p1), .val (.int ((p1 &&& (2147483647 : Int32)) % (22 : Int32))), .val (.ref en17), .unset] [(.ref en17)]))
    obtain ⟨T108, X108, e108, st108⟩ := getS2 X107 hx hZ hown (host := "") (Or.inl (hw _ (List.mem_of_getElem? (i := 10) rfl))) Via.refl e107 S14 (g := (mkF m 21 #[.val (.int p1), .val (.int ((p1 &&& (2147483647 : Int32)) % (22 : Int32))), .val (.ref en17), .unset] [(.ref en17)])) rfl (hb hby at_21)
    refine Go.step st108 ?_
    show Go FrameEnd p e below s 0 0 (Q0 Z p1 en0 en1 en2 en3 en4 en5 en6 en7 en8 en9 en10 en11 en12 en13 en14 en15 en16 en17 en18 en19 en20 en21 h0 n0) (T108.setTop (mkF m 24 #[.val (.int p1), .val (.int ((p1 &&& (2147483647 : Int32)) % (22 : Int32))), .val (.ref en17), .unset] [(.ref en14), (.ref en17)]))
    refine Go.step (fun _ k => Jvm.RoadKit.acmp (g := (mkF m 24 #[.val (.int p1), .val (.int ((p1 &&& (2147483647 : Int32)) % (22 : Int32))), .val (.ref en17), .unset] [(.ref en14), (.ref en17)])) X108 hx rfl rfl rfl (pc0 := 24) (pc' := 27) (same := false) rfl (hb hby at_24) rfl (decide_eq_false fun q => (Ne.symm (Fld.ne F14 F17 (by decide))) (Value.ref.inj q)) (by decide) (by decide) k) ?_
    show Go FrameEnd p e below s 0 0 (Q0 Z p1 en0 en1 en2 en3 en4 en5 en6 en7 en8 en9 en10 en11 en12 en13 en14 en15 en16 en17 en18 en19 en20 en21 h0 n0) (T108.setTop (mkF m 27 #[.val (.int p1), .val (.int ((p1 &&& (2147483647 : Int32)) % (22 : Int32))), .val (.ref en17), .unset] []))
    refine Go.step (fun _ k => XS.aloadN X108.here hx rfl (hb hby at_27) rfl rfl k) ?_
    show Go FrameEnd p e below s 0 0 (Q0 Z p1 en0 en1 en2 en3 en4 en5 en6 en7 en8 en9 en10 en11 en12 en13 en14 en15 en16 en17 en18 en19 en20 en21 h0 n0) (T108.setTop (mkF m 28 #[.val (.int p1), .val (.int ((p1 &&& (2147483647 : Int32)) % (22 : Int32))), .val (.ref en17), .unset] [(.ref en17)]))
    obtain ⟨T109, X109, e109, st109⟩ := getS2 X108 hx hZ hown (host := "") (Or.inl (hw _ (List.mem_of_getElem? (i := 12) rfl))) Via.refl e108 S15 (g := (mkF m 28 #[.val (.int p1), .val (.int ((p1 &&& (2147483647 : Int32)) % (22 : Int32))), .val (.ref en17), .unset] [(.ref en17)])) rfl (hb hby at_28)
    refine Go.step st109 ?_
    show Go FrameEnd p e below s 0 0 (Q0 Z p1 en0 en1 en2 en3 en4 en5 en6 en7 en8 en9 en10 en11 en12 en13 en14 en15 en16 en17 en18 en19 en20 en21 h0 n0) (T109.setTop (mkF m 31 #[.val (.int p1), .val (.int ((p1 &&& (2147483647 : Int32)) % (22 : Int32))), .val (.ref en17), .unset] [(.ref en15), (.ref en17)]))
    refine Go.step (fun _ k => Jvm.RoadKit.acmp (g := (mkF m 31 #[.val (.int p1), .val (.int ((p1 &&& (2147483647 : Int32)) % (22 : Int32))), .val (.ref en17), .unset] [(.ref en15), (.ref en17)])) X109 hx rfl rfl rfl (pc0 := 31) (pc' := 34) (same := false) rfl (hb hby at_31) rfl (decide_eq_false fun q => (Ne.symm (Fld.ne F15 F17 (by decide))) (Value.ref.inj q)) (by decide) (by decide) k) ?_
    show Go FrameEnd p e below s 0 0 (Q0 Z p1 en0 en1 en2 en3 en4 en5 en6 en7 en8 en9 en10 en11 en12 en13 en14 en15 en16 en17 en18 en19 en20 en21 h0 n0) (T109.setTop (mkF m 34 #[.val (.int p1), .val (.int ((p1 &&& (2147483647 : Int32)) % (22 : Int32))), .val (.ref en17), .unset] []))
    refine Go.step (fun _ k => XS.aloadN X109.here hx rfl (hb hby at_34) rfl rfl k) ?_
    show Go FrameEnd p e below s 0 0 (Q0 Z p1 en0 en1 en2 en3 en4 en5 en6 en7 en8 en9 en10 en11 en12 en13 en14 en15 en16 en17 en18 en19 en20 en21 h0 n0) (T109.setTop (mkF m 35 #[.val (.int p1), .val (.int ((p1 &&& (2147483647 : Int32)) % (22 : Int32))), .val (.ref en17), .unset] [(.ref en17)]))
    obtain ⟨T110, X110, e110, st110⟩ := getS2 X109 hx hZ hown (host := "") (Or.inl (hw _ (List.mem_of_getElem? (i := 14) rfl))) Via.refl e109 S16 (g := (mkF m 35 #[.val (.int p1), .val (.int ((p1 &&& (2147483647 : Int32)) % (22 : Int32))), .val (.ref en17), .unset] [(.ref en17)])) rfl (hb hby at_35)
    refine Go.step st110 ?_
    show Go FrameEnd p e below s 0 0 (Q0 Z p1 en0 en1 en2 en3 en4 en5 en6 en7 en8 en9 en10 en11 en12 en13 en14 en15 en16 en17 en18 en19 en20 en21 h0 n0) (T110.setTop (mkF m 38 #[.val (.int p1), .val (.int ((p1 &&& (2147483647 : Int32)) % (22 : Int32))), .val (.ref en17), .unset] [(.ref en16), (.ref en17)]))
    refine Go.step (fun _ k => Jvm.RoadKit.acmp (g := (mkF m 38 #[.val (.int p1), .val (.int ((p1 &&& (2147483647 : Int32)) % (22 : Int32))), .val (.ref en17), .unset] [(.ref en16), (.ref en17)])) X110 hx rfl rfl rfl (pc0 := 38) (pc' := 41) (same := false) rfl (hb hby at_38) rfl (decide_eq_false fun q => (Ne.symm (Fld.ne F16 F17 (by decide))) (Value.ref.inj q)) (by decide) (by decide) k) ?_
    show Go FrameEnd p e below s 0 0 (Q0 Z p1 en0 en1 en2 en3 en4 en5 en6 en7 en8 en9 en10 en11 en12 en13 en14 en15 en16 en17 en18 en19 en20 en21 h0 n0) (T110.setTop (mkF m 41 #[.val (.int p1), .val (.int ((p1 &&& (2147483647 : Int32)) % (22 : Int32))), .val (.ref en17), .unset] []))
    refine Go.step (fun _ k => XS.aloadN X110.here hx rfl (hb hby at_41) rfl rfl k) ?_
    show Go FrameEnd p e below s 0 0 (Q0 Z p1 en0 en1 en2 en3 en4 en5 en6 en7 en8 en9 en10 en11 en12 en13 en14 en15 en16 en17 en18 en19 en20 en21 h0 n0) (T110.setTop (mkF m 42 #[.val (.int p1), .val (.int ((p1 &&& (2147483647 : Int32)) % (22 : Int32))), .val (.ref en17), .unset] [(.ref en17)]))
    obtain ⟨T111, X111, e111, st111⟩ := getS2 X110 hx hZ hown (host := "") (Or.inl (hw _ (List.mem_of_getElem? (i := 16) rfl))) Via.refl e110 S17 (g := (mkF m 42 #[.val (.int p1), .val (.int ((p1 &&& (2147483647 : Int32)) % (22 : Int32))), .val (.ref en17), .unset] [(.ref en17)])) rfl (hb hby at_42)
    refine Go.step st111 ?_
    show Go FrameEnd p e below s 0 0 (Q0 Z p1 en0 en1 en2 en3 en4 en5 en6 en7 en8 en9 en10 en11 en12 en13 en14 en15 en16 en17 en18 en19 en20 en21 h0 n0) (T111.setTop (mkF m 45 #[.val (.int p1), .val (.int ((p1 &&& (2147483647 : Int32)) % (22 : Int32))), .val (.ref en17), .unset] [(.ref en17), (.ref en17)]))
    refine Go.step (fun _ k => Jvm.RoadKit.acmp (g := (mkF m 45 #[.val (.int p1), .val (.int ((p1 &&& (2147483647 : Int32)) % (22 : Int32))), .val (.ref en17), .unset] [(.ref en17), (.ref en17)])) X111 hx rfl rfl rfl (pc0 := 45) (pc' := 55) (same := true) rfl (hb hby at_45) rfl (decide_eq_true (congrArg Value.ref rfl)) (by decide) (by decide) k) ?_
    show Go FrameEnd p e below s 0 0 (Q0 Z p1 en0 en1 en2 en3 en4 en5 en6 en7 en8 en9 en10 en11 en12 en13 en14 en15 en16 en17 en18 en19 en20 en21 h0 n0) (T111.setTop (mkF m 55 #[.val (.int p1), .val (.int ((p1 &&& (2147483647 : Int32)) % (22 : Int32))), .val (.ref en17), .unset] []))
    refine Go.step (fun _ k => XS.iconst X111.here hx rfl (hb hby at_55) k) ?_
    show Go FrameEnd p e below s 0 0 (Q0 Z p1 en0 en1 en2 en3 en4 en5 en6 en7 en8 en9 en10 en11 en12 en13 en14 en15 en16 en17 en18 en19 en20 en21 h0 n0) (T111.setTop (mkF m 56 #[.val (.int p1), .val (.int ((p1 &&& (2147483647 : Int32)) % (22 : Int32))), .val (.ref en17), .unset] [(.int (1 : Int32))]))
    refine Go.step (fun _ k => XS.goto X111.here hx rfl (pc0 := 56) (pc' := 60) rfl (hb hby at_56) (by decide) (by decide) k) ?_
    show Go FrameEnd p e below s 0 0 (Q0 Z p1 en0 en1 en2 en3 en4 en5 en6 en7 en8 en9 en10 en11 en12 en13 en14 en15 en16 en17 en18 en19 en20 en21 h0 n0) (T111.setTop (mkF m 60 #[.val (.int p1), .val (.int ((p1 &&& (2147483647 : Int32)) % (22 : Int32))), .val (.ref en17), .unset] [(.int (1 : Int32))]))
    refine Go.step (fun _ k => XS.istoreN X111.here hx rfl (hb hby at_60) rfl (l' := #[.val (.int p1), .val (.int ((p1 &&& (2147483647 : Int32)) % (22 : Int32))), .val (.ref en17), .val (.int (1 : Int32))]) rfl k) ?_
    show Go FrameEnd p e below s 0 0 (Q0 Z p1 en0 en1 en2 en3 en4 en5 en6 en7 en8 en9 en10 en11 en12 en13 en14 en15 en16 en17 en18 en19 en20 en21 h0 n0) (T111.setTop (mkF m 61 #[.val (.int p1), .val (.int ((p1 &&& (2147483647 : Int32)) % (22 : Int32))), .val (.ref en17), .val (.int (1 : Int32))] []))
    refine Go.step (fun _ k => XS.aloadN X111.here hx rfl (hb hby at_61) rfl rfl k) ?_
    show Go FrameEnd p e below s 0 0 (Q0 Z p1 en0 en1 en2 en3 en4 en5 en6 en7 en8 en9 en10 en11 en12 en13 en14 en15 en16 en17 en18 en19 en20 en21 h0 n0) (T111.setTop (mkF m 62 #[.val (.int p1), .val (.int ((p1 &&& (2147483647 : Int32)) % (22 : Int32))), .val (.ref en17), .val (.int (1 : Int32))] [(.ref en17)]))
    obtain ⟨cq112, kq112, q112a, q112b, q112c⟩ := isOf hZ e111 E17
    obtain ⟨_, _, ⟨T112, L112, k112, n112⟩, -, X112, ⟨Lc112, hQ112, l112, y112, z112⟩, st112⟩ := X111.virtualBack hx (y := (⟨"deckmill/Card", "asksChoice", "()Z"⟩ : MethodName)) (z := (⟨"deckmill/Card", "asksChoice", "()Z"⟩ : MethodName)) hown (mvT hZ (hw _ (List.mem_of_getElem? (i := 20) rfl))) (mvT hZ (hw _ (List.mem_of_getElem? (i := 21) rfl))) (notFace_of_selects (args := #[]) (mvT hZ (hw _ (List.mem_of_getElem? (i := 23) rfl)))) (mvT hZ (hw _ (List.mem_of_getElem? (i := 23) rfl))) (mvT hZ (hw _ (List.mem_of_getElem? (i := 22) rfl))) (by decide) (backOf (W := 0) (rm2y l Z a0 hw [] en17 t h0 C17) hZ (hw _ (List.mem_of_getElem? (i := 24) rfl)) (hw _ (List.mem_of_getElem? (i := 6) rfl)) (by decide) (by decide)) q112a q112c (g := (mkF m 62 #[.val (.int p1), .val (.int ((p1 &&& (2147483647 : Int32)) % (22 : Int32))), .val (.ref en17), .val (.int (1 : Int32))] [(.ref en17)])) rfl (by rw [hml]; rfl) (Steps.refl _) (argsL := []) (rest := []) (lenOf pd___Z rfl) rfl (by show 2 * 0 + _ ≤ _; exact Nat.le_of_eq rfl) (hb hby at_62) (fun _ _ => ⟨rfl, e111, (by decide : 0 + 0 ≤ _), (by decide : 0 + 0 ≤ _)⟩)
    dsimp only [Pt.U, Pt.locs, Pt.cells, Pt.slots] at X112 l112 y112 z112 st112 hQ112
    subst l112 y112 z112
    obtain ⟨rfl, rfl, e112⟩ := hQ112
    have N112 := Fr.app N1 (Fr.nil n0)
    refine Go.hop st112 ?_
    show Go FrameEnd p e below s 0 0 (Q0 Z p1 en0 en1 en2 en3 en4 en5 en6 en7 en8 en9 en10 en11 en12 en13 en14 en15 en16 en17 en18 en19 en20 en21 h0 n0) (T112.setTop (mkF m 65 #[.val (.int p1), .val (.int ((p1 &&& (2147483647 : Int32)) % (22 : Int32))), .val (.ref en17), .val (.int (1 : Int32))] [(.int (1 : Int32))]))
    refine Go.step (fun _ k => XS.iloadN X112.here hx rfl (hb hby at_65) rfl k) ?_
    show Go FrameEnd p e below s 0 0 (Q0 Z p1 en0 en1 en2 en3 en4 en5 en6 en7 en8 en9 en10 en11 en12 en13 en14 en15 en16 en17 en18 en19 en20 en21 h0 n0) (T112.setTop (mkF m 66 #[.val (.int p1), .val (.int ((p1 &&& (2147483647 : Int32)) % (22 : Int32))), .val (.ref en17), .val (.int (1 : Int32))] [(.int (1 : Int32)), (.int (1 : Int32))]))
    refine Go.step (fun _ k => XS.icmpNo X112.here hx rfl (hb hby at_66) rfl (teq rfl).2 k) ?_
    show Go FrameEnd p e below s 0 0 (Q0 Z p1 en0 en1 en2 en3 en4 en5 en6 en7 en8 en9 en10 en11 en12 en13 en14 en15 en16 en17 en18 en19 en20 en21 h0 n0) (T112.setTop (mkF m 69 #[.val (.int p1), .val (.int ((p1 &&& (2147483647 : Int32)) % (22 : Int32))), .val (.ref en17), .val (.int (1 : Int32))] []))
    refine Go.step (fun _ k => XS.iconst X112.here hx rfl (hb hby at_69) k) ?_
    show Go FrameEnd p e below s 0 0 (Q0 Z p1 en0 en1 en2 en3 en4 en5 en6 en7 en8 en9 en10 en11 en12 en13 en14 en15 en16 en17 en18 en19 en20 en21 h0 n0) (T112.setTop (mkF m 70 #[.val (.int p1), .val (.int ((p1 &&& (2147483647 : Int32)) % (22 : Int32))), .val (.ref en17), .val (.int (1 : Int32))] [(.int (1 : Int32))]))
    refine Go.step (fun _ k => XS.goto X112.here hx rfl (pc0 := 70) (pc' := 74) rfl (hb hby at_70) (by decide) (by decide) k) ?_
    show Go FrameEnd p e below s 0 0 (Q0 Z p1 en0 en1 en2 en3 en4 en5 en6 en7 en8 en9 en10 en11 en12 en13 en14 en15 en16 en17 en18 en19 en20 en21 h0 n0) (T112.setTop (mkF m 74 #[.val (.int p1), .val (.int ((p1 &&& (2147483647 : Int32)) % (22 : Int32))), .val (.ref en17), .val (.int (1 : Int32))] [(.int (1 : Int32))]))
    refine Go.retN X112 hx (t := .boolean) Bd.returns (by simp) (by decide) (hb hby at_74) (BodyLoose.notSynchronized Bd) e112 (by decide) (by decide) ?_
    exact ⟨rfl, N112⟩
  · skip
    rw [q]
    obtain ⟨⟨S0, E0, F0, C0⟩, ⟨S1, E1, F1, C1⟩, ⟨S2, E2, F2, C2⟩, ⟨S3, E3, F3, C3⟩, ⟨S4, E4, F4, C4⟩, ⟨S5, E5, F5, C5⟩, ⟨S6, E6, F6, C6⟩, ⟨S7, E7, F7, C7⟩, ⟨S8, E8, F8, C8⟩, ⟨S9, E9, F9, C9⟩, ⟨S10, E10, F10, C10⟩, ⟨S11, E11, F11, C11⟩, ⟨S12, E12, F12, C12⟩, ⟨S13, E13, F13, C13⟩, ⟨S14, E14, F14, C14⟩, ⟨S15, E15, F15, C15⟩, ⟨S16, E16, F16, C16⟩, ⟨S17, E17, F17, C17⟩, ⟨S18, E18, F18, C18⟩, ⟨S19, E19, F19, C19⟩, ⟨S20, E20, F20, C20⟩, ⟨S21, E21, F21, C21⟩⟩ := hC
    obtain ⟨t, C18⟩ := C18
    show Go FrameEnd p e below s 0 0 (Q0 Z p1 en0 en1 en2 en3 en4 en5 en6 en7 en8 en9 en10 en11 en12 en13 en14 en15 en16 en17 en18 en19 en20 en21 h0 n0) (T1.setTop (mkF m 12 #[.val (.int p1), .val (.int ((p1 &&& (2147483647 : Int32)) % (22 : Int32))), .unset, .unset] [(.ref en18)]))
    refine Go.step (fun _ k => XS.astoreN X1.here hx rfl (hb hby at_12) rfl rfl (l' := #[.val (.int p1), .val (.int ((p1 &&& (2147483647 : Int32)) % (22 : Int32))), .val (.ref en18), .unset]) rfl k) ?_
    show Go FrameEnd p e below s 0 0 (Q0 Z p1 en0 en1 en2 en3 en4 en5 en6 en7 en8 en9 en10 en11 en12 en13 en14 en15 en16 en17 en18 en19 en20 en21 h0 n0) (T1.setTop (mkF m 13 #[.val (.int p1), .val (.int ((p1 &&& (2147483647 : Int32)) % (22 : Int32))), .val (.ref en18), .unset] []))
    refine Go.step (fun _ k => XS.aloadN X1.here hx rfl (hb hby at_13) rfl rfl k) ?_
    show Go FrameEnd p e below s 0 0 (Q0 Z p1 en0 en1 en2 en3 en4 en5 en6 en7 en8 en9 en10 en11 en12 en13 en14 en15 en16 en17 en18 en19 en20 en21 h0 n0) (T1.setTop (mkF m 14 #[.val (.int p1), .val (.int ((p1 &&& (2147483647 : Int32)) % (22 : Int32))), .val (.ref en18), .unset] [(.ref en18)]))
    obtain ⟨T113, X113, e113, st113⟩ := getS2 X1 hx hZ hown (host := "") (Or.inl (hw _ (List.mem_of_getElem? (i := 8) rfl))) Via.refl e1 S13 (g := (mkF m 14 #[.val (.int p1), .val (.int ((p1 &&& (2147483647 : Int32)) % (22 : Int32))), .val (.ref en18), .unset] [(.ref en18)])) rfl (hb hby at_14)
    refine Go.step st113 ?_
    show Go FrameEnd p e below s 0 0 (Q0 Z p1 en0 en1 en2 en3 en4 en5 en6 en7 en8 en9 en10 en11 en12 en13 en14 en15 en16 en17 en18 en19 en20 en21 h0 n0) (T113.setTop (mkF m 17 #[.val (.int p1), .val (.int ((p1 &&& (2147483647 : Int32)) % (22 : Int32))), .val (.ref en18), .unset] [(.ref en13), (.ref en18)]))
    refine Go.step (fun _ k => Jvm.RoadKit.acmp (g := (mkF m 17 #[.val (.int p1), .val (.int ((p1 &&& (2147483647 : Int32)) % (22 : Int32))), .val (.ref en18), .unset] [(.ref en13), (.ref en18)])) X113 hx rfl rfl rfl (pc0 := 17) (pc' := 20) (same := false) rfl (hb hby at_17) rfl (decide_eq_false fun q => (Ne.symm (Fld.ne F13 F18 (by decide))) (Value.ref.inj q)) (by decide) (by decide) k) ?_
    show Go FrameEnd p e below s 0 0 (Q0 Z p1 en0 en1 en2 en3 en4 en5 en6 en7 en8 en9 en10 en11 en12 en13 en14 en15 en16 en17 en18 en19 en20 en21 h0 n0) (T113.setTop (mkF m 20 #[.val (.int p1), .val (.int ((p1 &&& (2147483647 : Int32)) % (22 : Int32))), .val (.ref en18), .unset] []))
    refine Go.step (fun _ k => XS.aloadN X113.here hx rfl (hb hby at_20) rfl rfl k) ?_
    show Go FrameEnd p e below s 0 0 (Q0 Z p1 en0 en1 en2 en3 en4 en5 en6 en7 en8 en9 en10 en11 en12 en13 en14 en15 en16 en17 en18 en19 en20 en21 h0 n0) (T113.setTop (mkF m 21 #[.val (.int p1), .val (.int ((p1 &&& (2147483647 : Int32)) % (22 : Int32))), .val (.ref en18), .unset] [(.ref en18)]))
    obtain ⟨T114, X114, e114, st114⟩ := getS2 X113 hx hZ hown (host := "") (Or.inl (hw _ (List.mem_of_getElem? (i := 10) rfl))) Via.refl e113 S14 (g := (mkF m 21 #[.val (.int p1), .val (.int ((p1 &&& (2147483647 : Int32)) % (22 : Int32))), .val (.ref en18), .unset] [(.ref en18)])) rfl (hb hby at_21)
    refine Go.step st114 ?_
    show Go FrameEnd p e below s 0 0 (Q0 Z p1 en0 en1 en2 en3 en4 en5 en6 en7 en8 en9 en10 en11 en12 en13 en14 en15 en16 en17 en18 en19 en20 en21 h0 n0) (T114.setTop (mkF m 24 #[.val (.int p1), .val (.int ((p1 &&& (2147483647 : Int32)) % (22 : Int32))), .val (.ref en18), .unset] [(.ref en14), (.ref en18)]))
    refine Go.step (fun _ k => Jvm.RoadKit.acmp (g := (mkF m 24 #[.val (.int p1), .val (.int ((p1 &&& (2147483647 : Int32)) % (22 : Int32))), .val (.ref en18), .unset] [(.ref en14), (.ref en18)])) X114 hx rfl rfl rfl (pc0 := 24) (pc' := 27) (same := false) rfl (hb hby at_24) rfl (decide_eq_false fun q => (Ne.symm (Fld.ne F14 F18 (by decide))) (Value.ref.inj q)) (by decide) (by decide) k) ?_
    show Go FrameEnd p e below s 0 0 (Q0 Z p1 en0 en1 en2 en3 en4 en5 en6 en7 en8 en9 en10 en11 en12 en13 en14 en15 en16 en17 en18 en19 en20 en21 h0 n0) (T114.setTop (mkF m 27 #[.val (.int p1), .val (.int ((p1 &&& (2147483647 : Int32)) % (22 : Int32))), .val (.ref en18), .unset] []))
    refine Go.step (fun _ k => XS.aloadN X114.here hx rfl (hb hby at_27) rfl rfl k) ?_
    show Go FrameEnd p e below s 0 0 (Q0 Z p1 en0 en1 en2 en3 en4 en5 en6 en7 en8 en9 en10 en11 en12 en13 en14 en15 en16 en17 en18 en19 en20 en21 h0 n0) (T114.setTop (mkF m 28 #[.val (.int p1), .val (.int ((p1 &&& (2147483647 : Int32)) % (22 : Int32))), .val (.ref en18), .unset] [(.ref en18)]))
    obtain ⟨T115, X115, e115, st115⟩ := getS2 X114 hx hZ hown (host := "") (Or.inl (hw _ (List.mem_of_getElem? (i := 12) rfl))) Via.refl e114 S15 (g := (mkF m 28 #[.val (.int p1), .val (.int ((p1 &&& (2147483647 : Int32)) % (22 : Int32))), .val (.ref en18), .unset] [(.ref en18)])) rfl (hb hby at_28)
    refine Go.step st115 ?_
    show Go FrameEnd p e below s 0 0 (Q0 Z p1 en0 en1 en2 en3 en4 en5 en6 en7 en8 en9 en10 en11 en12 en13 en14 en15 en16 en17 en18 en19 en20 en21 h0 n0) (T115.setTop (mkF m 31 #[.val (.int p1), .val (.int ((p1 &&& (2147483647 : Int32)) % (22 : Int32))), .val (.ref en18), .unset] [(.ref en15), (.ref en18)]))
    refine Go.step (fun _ k => Jvm.RoadKit.acmp (g := (mkF m 31 #[.val (.int p1), .val (.int ((p1 &&& (2147483647 : Int32)) % (22 : Int32))), .val (.ref en18), .unset] [(.ref en15), (.ref en18)])) X115 hx rfl rfl rfl (pc0 := 31) (pc' := 34) (same := false) rfl (hb hby at_31) rfl (decide_eq_false fun q => (Ne.symm (Fld.ne F15 F18 (by decide))) (Value.ref.inj q)) (by decide) (by decide) k) ?_
    show Go FrameEnd p e below s 0 0 (Q0 Z p1 en0 en1 en2 en3 en4 en5 en6 en7 en8 en9 en10 en11 en12 en13 en14 en15 en16 en17 en18 en19 en20 en21 h0 n0) (T115.setTop (mkF m 34 #[.val (.int p1), .val (.int ((p1 &&& (2147483647 : Int32)) % (22 : Int32))), .val (.ref en18), .unset] []))
    refine Go.step (fun _ k => XS.aloadN X115.here hx rfl (hb hby at_34) rfl rfl k) ?_
    show Go FrameEnd p e below s 0 0 (Q0 Z p1 en0 en1 en2 en3 en4 en5 en6 en7 en8 en9 en10 en11 en12 en13 en14 en15 en16 en17 en18 en19 en20 en21 h0 n0) (T115.setTop (mkF m 35 #[.val (.int p1), .val (.int ((p1 &&& (2147483647 : Int32)) % (22 : Int32))), .val (.ref en18), .unset] [(.ref en18)]))
    obtain ⟨T116, X116, e116, st116⟩ := getS2 X115 hx hZ hown (host := "") (Or.inl (hw _ (List.mem_of_getElem? (i := 14) rfl))) Via.refl e115 S16 (g := (mkF m 35 #[.val (.int p1), .val (.int ((p1 &&& (2147483647 : Int32)) % (22 : Int32))), .val (.ref en18), .unset] [(.ref en18)])) rfl (hb hby at_35)
    refine Go.step st116 ?_
    show Go FrameEnd p e below s 0 0 (Q0 Z p1 en0 en1 en2 en3 en4 en5 en6 en7 en8 en9 en10 en11 en12 en13 en14 en15 en16 en17 en18 en19 en20 en21 h0 n0) (T116.setTop (mkF m 38 #[.val (.int p1), .val (.int ((p1 &&& (2147483647 : Int32)) % (22 : Int32))), .val (.ref en18), .unset] [(.ref en16), (.ref en18)]))
    refine Go.step (fun _ k => Jvm.RoadKit.acmp (g := (mkF m 38 #[.val (.int p1), .val (.int ((p1 &&& (2147483647 : Int32)) % (22 : Int32))), .val (.ref en18), .unset] [(.ref en16), (.ref en18)])) X116 hx rfl rfl rfl (pc0 := 38) (pc' := 41) (same := false) rfl (hb hby at_38) rfl (decide_eq_false fun q => (Ne.symm (Fld.ne F16 F18 (by decide))) (Value.ref.inj q)) (by decide) (by decide) k) ?_
    show Go FrameEnd p e below s 0 0 (Q0 Z p1 en0 en1 en2 en3 en4 en5 en6 en7 en8 en9 en10 en11 en12 en13 en14 en15 en16 en17 en18 en19 en20 en21 h0 n0) (T116.setTop (mkF m 41 #[.val (.int p1), .val (.int ((p1 &&& (2147483647 : Int32)) % (22 : Int32))), .val (.ref en18), .unset] []))
    refine Go.step (fun _ k => XS.aloadN X116.here hx rfl (hb hby at_41) rfl rfl k) ?_
    show Go FrameEnd p e below s 0 0 (Q0 Z p1 en0 en1 en2 en3 en4 en5 en6 en7 en8 en9 en10 en11 en12 en13 en14 en15 en16 en17 en18 en19 en20 en21 h0 n0) (T116.setTop (mkF m 42 #[.val (.int p1), .val (.int ((p1 &&& (2147483647 : Int32)) % (22 : Int32))), .val (.ref en18), .unset] [(.ref en18)]))
    obtain ⟨T117, X117, e117, st117⟩ := getS2 X116 hx hZ hown (host := "") (Or.inl (hw _ (List.mem_of_getElem? (i := 16) rfl))) Via.refl e116 S17 (g := (mkF m 42 #[.val (.int p1), .val (.int ((p1 &&& (2147483647 : Int32)) % (22 : Int32))), .val (.ref en18), .unset] [(.ref en18)])) rfl (hb hby at_42)
    refine Go.step st117 ?_
    show Go FrameEnd p e below s 0 0 (Q0 Z p1 en0 en1 en2 en3 en4 en5 en6 en7 en8 en9 en10 en11 en12 en13 en14 en15 en16 en17 en18 en19 en20 en21 h0 n0) (T117.setTop (mkF m 45 #[.val (.int p1), .val (.int ((p1 &&& (2147483647 : Int32)) % (22 : Int32))), .val (.ref en18), .unset] [(.ref en17), (.ref en18)]))
    refine Go.step (fun _ k => Jvm.RoadKit.acmp (g := (mkF m 45 #[.val (.int p1), .val (.int ((p1 &&& (2147483647 : Int32)) % (22 : Int32))), .val (.ref en18), .unset] [(.ref en17), (.ref en18)])) X117 hx rfl rfl rfl (pc0 := 45) (pc' := 48) (same := false) rfl (hb hby at_45) rfl (decide_eq_false fun q => (Ne.symm (Fld.ne F17 F18 (by decide))) (Value.ref.inj q)) (by decide) (by decide) k) ?_
    show Go FrameEnd p e below s 0 0 (Q0 Z p1 en0 en1 en2 en3 en4 en5 en6 en7 en8 en9 en10 en11 en12 en13 en14 en15 en16 en17 en18 en19 en20 en21 h0 n0) (T117.setTop (mkF m 48 #[.val (.int p1), .val (.int ((p1 &&& (2147483647 : Int32)) % (22 : Int32))), .val (.ref en18), .unset] []))
    refine Go.step (fun _ k => XS.aloadN X117.here hx rfl (hb hby at_48) rfl rfl k) ?_
    show Go FrameEnd p e below s 0 0 (Q0 Z p1 en0 en1 en2 en3 en4 en5 en6 en7 en8 en9 en10 en11 en12 en13 en14 en15 en16 en17 en18 en19 en20 en21 h0 n0) (T117.setTop (mkF m 49 #[.val (.int p1), .val (.int ((p1 &&& (2147483647 : Int32)) % (22 : Int32))), .val (.ref en18), .unset] [(.ref en18)]))
    obtain ⟨T118, X118, e118, st118⟩ := getS2 X117 hx hZ hown (host := "") (Or.inl (hw _ (List.mem_of_getElem? (i := 18) rfl))) Via.refl e117 S18 (g := (mkF m 49 #[.val (.int p1), .val (.int ((p1 &&& (2147483647 : Int32)) % (22 : Int32))), .val (.ref en18), .unset] [(.ref en18)])) rfl (hb hby at_49)
    refine Go.step st118 ?_
    show Go FrameEnd p e below s 0 0 (Q0 Z p1 en0 en1 en2 en3 en4 en5 en6 en7 en8 en9 en10 en11 en12 en13 en14 en15 en16 en17 en18 en19 en20 en21 h0 n0) (T118.setTop (mkF m 52 #[.val (.int p1), .val (.int ((p1 &&& (2147483647 : Int32)) % (22 : Int32))), .val (.ref en18), .unset] [(.ref en18), (.ref en18)]))
    refine Go.step (fun _ k => Jvm.RoadKit.acmp (g := (mkF m 52 #[.val (.int p1), .val (.int ((p1 &&& (2147483647 : Int32)) % (22 : Int32))), .val (.ref en18), .unset] [(.ref en18), (.ref en18)])) X118 hx rfl rfl rfl (pc0 := 52) (pc' := 55) (same := true) rfl (hb hby at_52) rfl (decide_eq_true (congrArg Value.ref rfl)) (by decide) (by decide) k) ?_
    show Go FrameEnd p e below s 0 0 (Q0 Z p1 en0 en1 en2 en3 en4 en5 en6 en7 en8 en9 en10 en11 en12 en13 en14 en15 en16 en17 en18 en19 en20 en21 h0 n0) (T118.setTop (mkF m 55 #[.val (.int p1), .val (.int ((p1 &&& (2147483647 : Int32)) % (22 : Int32))), .val (.ref en18), .unset] []))
    refine Go.step (fun _ k => XS.iconst X118.here hx rfl (hb hby at_55) k) ?_
    show Go FrameEnd p e below s 0 0 (Q0 Z p1 en0 en1 en2 en3 en4 en5 en6 en7 en8 en9 en10 en11 en12 en13 en14 en15 en16 en17 en18 en19 en20 en21 h0 n0) (T118.setTop (mkF m 56 #[.val (.int p1), .val (.int ((p1 &&& (2147483647 : Int32)) % (22 : Int32))), .val (.ref en18), .unset] [(.int (1 : Int32))]))
    refine Go.step (fun _ k => XS.goto X118.here hx rfl (pc0 := 56) (pc' := 60) rfl (hb hby at_56) (by decide) (by decide) k) ?_
    show Go FrameEnd p e below s 0 0 (Q0 Z p1 en0 en1 en2 en3 en4 en5 en6 en7 en8 en9 en10 en11 en12 en13 en14 en15 en16 en17 en18 en19 en20 en21 h0 n0) (T118.setTop (mkF m 60 #[.val (.int p1), .val (.int ((p1 &&& (2147483647 : Int32)) % (22 : Int32))), .val (.ref en18), .unset] [(.int (1 : Int32))]))
    refine Go.step (fun _ k => XS.istoreN X118.here hx rfl (hb hby at_60) rfl (l' := #[.val (.int p1), .val (.int ((p1 &&& (2147483647 : Int32)) % (22 : Int32))), .val (.ref en18), .val (.int (1 : Int32))]) rfl k) ?_
    show Go FrameEnd p e below s 0 0 (Q0 Z p1 en0 en1 en2 en3 en4 en5 en6 en7 en8 en9 en10 en11 en12 en13 en14 en15 en16 en17 en18 en19 en20 en21 h0 n0) (T118.setTop (mkF m 61 #[.val (.int p1), .val (.int ((p1 &&& (2147483647 : Int32)) % (22 : Int32))), .val (.ref en18), .val (.int (1 : Int32))] []))
    refine Go.step (fun _ k => XS.aloadN X118.here hx rfl (hb hby at_61) rfl rfl k) ?_
    show Go FrameEnd p e below s 0 0 (Q0 Z p1 en0 en1 en2 en3 en4 en5 en6 en7 en8 en9 en10 en11 en12 en13 en14 en15 en16 en17 en18 en19 en20 en21 h0 n0) (T118.setTop (mkF m 62 #[.val (.int p1), .val (.int ((p1 &&& (2147483647 : Int32)) % (22 : Int32))), .val (.ref en18), .val (.int (1 : Int32))] [(.ref en18)]))
    obtain ⟨cq119, kq119, q119a, q119b, q119c⟩ := isOf hZ e118 E18
    obtain ⟨_, _, ⟨T119, L119, k119, n119⟩, -, X119, ⟨Lc119, hQ119, l119, y119, z119⟩, st119⟩ := X118.virtualBack hx (y := (⟨"deckmill/Card", "asksChoice", "()Z"⟩ : MethodName)) (z := (⟨"deckmill/Card", "asksChoice", "()Z"⟩ : MethodName)) hown (mvT hZ (hw _ (List.mem_of_getElem? (i := 20) rfl))) (mvT hZ (hw _ (List.mem_of_getElem? (i := 21) rfl))) (notFace_of_selects (args := #[]) (mvT hZ (hw _ (List.mem_of_getElem? (i := 23) rfl)))) (mvT hZ (hw _ (List.mem_of_getElem? (i := 23) rfl))) (mvT hZ (hw _ (List.mem_of_getElem? (i := 22) rfl))) (by decide) (backOf (W := 0) (rm2y l Z a0 hw [] en18 t h0 C18) hZ (hw _ (List.mem_of_getElem? (i := 24) rfl)) (hw _ (List.mem_of_getElem? (i := 6) rfl)) (by decide) (by decide)) q119a q119c (g := (mkF m 62 #[.val (.int p1), .val (.int ((p1 &&& (2147483647 : Int32)) % (22 : Int32))), .val (.ref en18), .val (.int (1 : Int32))] [(.ref en18)])) rfl (by rw [hml]; rfl) (Steps.refl _) (argsL := []) (rest := []) (lenOf pd___Z rfl) rfl (by show 2 * 0 + _ ≤ _; exact Nat.le_of_eq rfl) (hb hby at_62) (fun _ _ => ⟨rfl, e118, (by decide : 0 + 0 ≤ _), (by decide : 0 + 0 ≤ _)⟩)
    dsimp only [Pt.U, Pt.locs, Pt.cells, Pt.slots] at X119 l119 y119 z119 st119 hQ119
    subst l119 y119 z119
    obtain ⟨rfl, rfl, e119⟩ := hQ119
    have N119 := Fr.app N1 (Fr.nil n0)
    refine Go.hop st119 ?_
    show Go FrameEnd p e below s 0 0 (Q0 Z p1 en0 en1 en2 en3 en4 en5 en6 en7 en8 en9 en10 en11 en12 en13 en14 en15 en16 en17 en18 en19 en20 en21 h0 n0) (T119.setTop (mkF m 65 #[.val (.int p1), .val (.int ((p1 &&& (2147483647 : Int32)) % (22 : Int32))), .val (.ref en18), .val (.int (1 : Int32))] [(.int (1 : Int32))]))
    refine Go.step (fun _ k => XS.iloadN X119.here hx rfl (hb hby at_65) rfl k) ?_
    show Go FrameEnd p e below s 0 0 (Q0 Z p1 en0 en1 en2 en3 en4 en5 en6 en7 en8 en9 en10 en11 en12 en13 en14 en15 en16 en17 en18 en19 en20 en21 h0 n0) (T119.setTop (mkF m 66 #[.val (.int p1), .val (.int ((p1 &&& (2147483647 : Int32)) % (22 : Int32))), .val (.ref en18), .val (.int (1 : Int32))] [(.int (1 : Int32)), (.int (1 : Int32))]))
    refine Go.step (fun _ k => XS.icmpNo X119.here hx rfl (hb hby at_66) rfl (teq rfl).2 k) ?_
    show Go FrameEnd p e below s 0 0 (Q0 Z p1 en0 en1 en2 en3 en4 en5 en6 en7 en8 en9 en10 en11 en12 en13 en14 en15 en16 en17 en18 en19 en20 en21 h0 n0) (T119.setTop (mkF m 69 #[.val (.int p1), .val (.int ((p1 &&& (2147483647 : Int32)) % (22 : Int32))), .val (.ref en18), .val (.int (1 : Int32))] []))
    refine Go.step (fun _ k => XS.iconst X119.here hx rfl (hb hby at_69) k) ?_
    show Go FrameEnd p e below s 0 0 (Q0 Z p1 en0 en1 en2 en3 en4 en5 en6 en7 en8 en9 en10 en11 en12 en13 en14 en15 en16 en17 en18 en19 en20 en21 h0 n0) (T119.setTop (mkF m 70 #[.val (.int p1), .val (.int ((p1 &&& (2147483647 : Int32)) % (22 : Int32))), .val (.ref en18), .val (.int (1 : Int32))] [(.int (1 : Int32))]))
    refine Go.step (fun _ k => XS.goto X119.here hx rfl (pc0 := 70) (pc' := 74) rfl (hb hby at_70) (by decide) (by decide) k) ?_
    show Go FrameEnd p e below s 0 0 (Q0 Z p1 en0 en1 en2 en3 en4 en5 en6 en7 en8 en9 en10 en11 en12 en13 en14 en15 en16 en17 en18 en19 en20 en21 h0 n0) (T119.setTop (mkF m 74 #[.val (.int p1), .val (.int ((p1 &&& (2147483647 : Int32)) % (22 : Int32))), .val (.ref en18), .val (.int (1 : Int32))] [(.int (1 : Int32))]))
    refine Go.retN X119 hx (t := .boolean) Bd.returns (by simp) (by decide) (hb hby at_74) (BodyLoose.notSynchronized Bd) e119 (by decide) (by decide) ?_
    exact ⟨rfl, N119⟩
  · skip
    rw [q]
    obtain ⟨⟨S0, E0, F0, C0⟩, ⟨S1, E1, F1, C1⟩, ⟨S2, E2, F2, C2⟩, ⟨S3, E3, F3, C3⟩, ⟨S4, E4, F4, C4⟩, ⟨S5, E5, F5, C5⟩, ⟨S6, E6, F6, C6⟩, ⟨S7, E7, F7, C7⟩, ⟨S8, E8, F8, C8⟩, ⟨S9, E9, F9, C9⟩, ⟨S10, E10, F10, C10⟩, ⟨S11, E11, F11, C11⟩, ⟨S12, E12, F12, C12⟩, ⟨S13, E13, F13, C13⟩, ⟨S14, E14, F14, C14⟩, ⟨S15, E15, F15, C15⟩, ⟨S16, E16, F16, C16⟩, ⟨S17, E17, F17, C17⟩, ⟨S18, E18, F18, C18⟩, ⟨S19, E19, F19, C19⟩, ⟨S20, E20, F20, C20⟩, ⟨S21, E21, F21, C21⟩⟩ := hC
    show Go FrameEnd p e below s 0 0 (Q0 Z p1 en0 en1 en2 en3 en4 en5 en6 en7 en8 en9 en10 en11 en12 en13 en14 en15 en16 en17 en18 en19 en20 en21 h0 n0) (T1.setTop (mkF m 12 #[.val (.int p1), .val (.int ((p1 &&& (2147483647 : Int32)) % (22 : Int32))), .unset, .unset] [(.ref en19)]))
    refine Go.step (fun _ k => XS.astoreN X1.here hx rfl (hb hby at_12) rfl rfl (l' := #[.val (.int p1), .val (.int ((p1 &&& (2147483647 : Int32)) % (22 : Int32))), .val (.ref en19), .unset]) rfl k) ?_
    show Go FrameEnd p e below s 0 0 (Q0 Z p1 en0 en1 en2 en3 en4 en5 en6 en7 en8 en9 en10 en11 en12 en13 en14 en15 en16 en17 en18 en19 en20 en21 h0 n0) (T1.setTop (mkF m 13 #[.val (.int p1), .val (.int ((p1 &&& (2147483647 : Int32)) % (22 : Int32))), .val (.ref en19), .unset] []))
    refine Go.step (fun _ k => XS.aloadN X1.here hx rfl (hb hby at_13) rfl rfl k) ?_
    show Go FrameEnd p e below s 0 0 (Q0 Z p1 en0 en1 en2 en3 en4 en5 en6 en7 en8 en9 en10 en11 en12 en13 en14 en15 en16 en17 en18 en19 en20 en21 h0 n0) (T1.setTop (mkF m 14 #[.val (.int p1), .val (.int ((p1 &&& (2147483647 : Int32)) % (22 : Int32))), .val (.ref en19), .unset] [(.ref en19)]))
    obtain ⟨T120, X120, e120, st120⟩ := getS2 X1 hx hZ hown (host := "") (Or.inl (hw _ (List.mem_of_getElem? (i := 8) rfl))) Via.refl e1 S13 (g := (mkF m 14 #[.val (.int p1), .val (.int ((p1 &&& (2147483647 : Int32)) % (22 : Int32))), .val (.ref en19), .unset] [(.ref en19)])) rfl (hb hby at_14)
    refine Go.step st120 ?_
    show Go FrameEnd p e below s 0 0 (Q0 Z p1 en0 en1 en2 en3 en4 en5 en6 en7 en8 en9 en10 en11 en12 en13 en14 en15 en16 en17 en18 en19 en20 en21 h0 n0) (T120.setTop (mkF m 17 #[.val (.int p1), .val (.int ((p1 &&& (2147483647 : Int32)) % (22 : Int32))), .val (.ref en19), .unset] [(.ref en13), (.ref en19)]))
    refine Go.step (fun _ k => Jvm.RoadKit.acmp (g := (mkF m 17 #[.val (.int p1), .val (.int ((p1 &&& (2147483647 : Int32)) % (22 : Int32))), .val (.ref en19), .unset] [(.ref en13), (.ref en19)])) X120 hx rfl rfl rfl (pc0 := 17) (pc' := 20) (same := false) rfl (hb hby at_17) rfl (decide_eq_false fun q => (Ne.symm (Fld.ne F13 F19 (by decide))) (Value.ref.inj q)) (by decide) (by decide) k) ?_
    show Go FrameEnd p e below s 0 0 (Q0 Z p1 en0 en1 en2 en3 en4 en5 en6 en7 en8 en9 en10 en11 en12 en13 en14 en15 en16 en17 en18 en19 en20 en21 h0 n0) (T120.setTop (mkF m 20 #[.val (.int p1), .val (.int ((p1 &&& (2147483647 : Int32)) % (22 : Int32))), .val (.ref en19), .unset] []))
    refine Go.step (fun _ k => XS.aloadN X120.here hx rfl (hb hby at_20) rfl rfl k) ?_
    show Go FrameEnd p e below s 0 0 (Q0 Z p1 en0 en1 en2 en3 en4 en5 en6 en7 en8 en9 en10 en11 en12 en13 en14 en15 en16 en17 en18 en19 en20 en21 h0 n0) (T120.setTop (mkF m 21 #[.val (.int p1), .val (.int ((p1 &&& (2147483647 : Int32)) % (22 : Int32))), .val (.ref en19), .unset] [(.ref en19)]))
    obtain ⟨T121, X121, e121, st121⟩ := getS2 X120 hx hZ hown (host := "") (Or.inl (hw _ (List.mem_of_getElem? (i := 10) rfl))) Via.refl e120 S14 (g := (mkF m 21 #[.val (.int p1), .val (.int ((p1 &&& (2147483647 : Int32)) % (22 : Int32))), .val (.ref en19), .unset] [(.ref en19)])) rfl (hb hby at_21)
    refine Go.step st121 ?_
    show Go FrameEnd p e below s 0 0 (Q0 Z p1 en0 en1 en2 en3 en4 en5 en6 en7 en8 en9 en10 en11 en12 en13 en14 en15 en16 en17 en18 en19 en20 en21 h0 n0) (T121.setTop (mkF m 24 #[.val (.int p1), .val (.int ((p1 &&& (2147483647 : Int32)) % (22 : Int32))), .val (.ref en19), .unset] [(.ref en14), (.ref en19)]))
    refine Go.step (fun _ k => Jvm.RoadKit.acmp (g := (mkF m 24 #[.val (.int p1), .val (.int ((p1 &&& (2147483647 : Int32)) % (22 : Int32))), .val (.ref en19), .unset] [(.ref en14), (.ref en19)])) X121 hx rfl rfl rfl (pc0 := 24) (pc' := 27) (same := false) rfl (hb hby at_24) rfl (decide_eq_false fun q => (Ne.symm (Fld.ne F14 F19 (by decide))) (Value.ref.inj q)) (by decide) (by decide) k) ?_
    show Go FrameEnd p e below s 0 0 (Q0 Z p1 en0 en1 en2 en3 en4 en5 en6 en7 en8 en9 en10 en11 en12 en13 en14 en15 en16 en17 en18 en19 en20 en21 h0 n0) (T121.setTop (mkF m 27 #[.val (.int p1), .val (.int ((p1 &&& (2147483647 : Int32)) % (22 : Int32))), .val (.ref en19), .unset] []))
    refine Go.step (fun _ k => XS.aloadN X121.here hx rfl (hb hby at_27) rfl rfl k) ?_
    show Go FrameEnd p e below s 0 0 (Q0 Z p1 en0 en1 en2 en3 en4 en5 en6 en7 en8 en9 en10 en11 en12 en13 en14 en15 en16 en17 en18 en19 en20 en21 h0 n0) (T121.setTop (mkF m 28 #[.val (.int p1), .val (.int ((p1 &&& (2147483647 : Int32)) % (22 : Int32))), .val (.ref en19), .unset] [(.ref en19)]))
    obtain ⟨T122, X122, e122, st122⟩ := getS2 X121 hx hZ hown (host := "") (Or.inl (hw _ (List.mem_of_getElem? (i := 12) rfl))) Via.refl e121 S15 (g := (mkF m 28 #[.val (.int p1), .val (.int ((p1 &&& (2147483647 : Int32)) % (22 : Int32))), .val (.ref en19), .unset] [(.ref en19)])) rfl (hb hby at_28)
    refine Go.step st122 ?_
    show Go FrameEnd p e below s 0 0 (Q0 Z p1 en0 en1 en2 en3 en4 en5 en6 en7 en8 en9 en10 en11 en12 en13 en14 en15 en16 en17 en18 en19 en20 en21 h0 n0) (T122.setTop (mkF m 31 #[.val (.int p1), .val (.int ((p1 &&& (2147483647 : Int32)) % (22 : Int32))), .val (.ref en19), .unset] [(.ref en15), (.ref en19)]))
    refine Go.step (fun _ k => Jvm.RoadKit.acmp (g := (mkF m 31 #[.val (.int p1), .val (.int ((p1 &&& (2147483647 : Int32)) % (22 : Int32))), .val (.ref en19), .unset] [(.ref en15), (.ref en19)])) X122 hx rfl rfl rfl (pc0 := 31) (pc' := 34) (same := false) rfl (hb hby at_31) rfl (decide_eq_false fun q => (Ne.symm (Fld.ne F15 F19 (by decide))) (Value.ref.inj q)) (by decide) (by decide) k) ?_
    show Go FrameEnd p e below s 0 0 (Q0 Z p1 en0 en1 en2 en3 en4 en5 en6 en7 en8 en9 en10 en11 en12 en13 en14 en15 en16 en17 en18 en19 en20 en21 h0 n0) (T122.setTop (mkF m 34 #[.val (.int p1), .val (.int ((p1 &&& (2147483647 : Int32)) % (22 : Int32))), .val (.ref en19), .unset] []))
    refine Go.step (fun _ k => XS.aloadN X122.here hx rfl (hb hby at_34) rfl rfl k) ?_
    show Go FrameEnd p e below s 0 0 (Q0 Z p1 en0 en1 en2 en3 en4 en5 en6 en7 en8 en9 en10 en11 en12 en13 en14 en15 en16 en17 en18 en19 en20 en21 h0 n0) (T122.setTop (mkF m 35 #[.val (.int p1), .val (.int ((p1 &&& (2147483647 : Int32)) % (22 : Int32))), .val (.ref en19), .unset] [(.ref en19)]))
    obtain ⟨T123, X123, e123, st123⟩ := getS2 X122 hx hZ hown (host := "") (Or.inl (hw _ (List.mem_of_getElem? (i := 14) rfl))) Via.refl e122 S16 (g := (mkF m 35 #[.val (.int p1), .val (.int ((p1 &&& (2147483647 : Int32)) % (22 : Int32))), .val (.ref en19), .unset] [(.ref en19)])) rfl (hb hby at_35)
    refine Go.step st123 ?_
    show Go FrameEnd p e below s 0 0 (Q0 Z p1 en0 en1 en2 en3 en4 en5 en6 en7 en8 en9 en10 en11 en12 en13 en14 en15 en16 en17 en18 en19 en20 en21 h0 n0) (T123.setTop (mkF m 38 #[.val (.int p1), .val (.int ((p1 &&& (2147483647 : Int32)) % (22 : Int32))), .val (.ref en19), .unset] [(.ref en16), (.ref en19)]))
    refine Go.step (fun _ k => Jvm.RoadKit.acmp (g := (mkF m 38 #[.val (.int p1), .val (.int ((p1 &&& (2147483647 : Int32)) % (22 : Int32))), .val (.ref en19), .unset] [(.ref en16), (.ref en19)])) X123 hx rfl rfl rfl (pc0 := 38) (pc' := 41) (same := false) rfl (hb hby at_38) rfl (decide_eq_false fun q => (Ne.symm (Fld.ne F16 F19 (by decide))) (Value.ref.inj q)) (by decide) (by decide) k) ?_
    show Go FrameEnd p e below s 0 0 (Q0 Z p1 en0 en1 en2 en3 en4 en5 en6 en7 en8 en9 en10 en11 en12 en13 en14 en15 en16 en17 en18 en19 en20 en21 h0 n0) (T123.setTop (mkF m 41 #[.val (.int p1), .val (.int ((p1 &&& (2147483647 : Int32)) % (22 : Int32))), .val (.ref en19), .unset] []))
    refine Go.step (fun _ k => XS.aloadN X123.here hx rfl (hb hby at_41) rfl rfl k) ?_
    show Go FrameEnd p e below s 0 0 (Q0 Z p1 en0 en1 en2 en3 en4 en5 en6 en7 en8 en9 en10 en11 en12 en13 en14 en15 en16 en17 en18 en19 en20 en21 h0 n0) (T123.setTop (mkF m 42 #[.val (.int p1), .val (.int ((p1 &&& (2147483647 : Int32)) % (22 : Int32))), .val (.ref en19), .unset] [(.ref en19)]))
    obtain ⟨T124, X124, e124, st124⟩ := getS2 X123 hx hZ hown (host := "") (Or.inl (hw _ (List.mem_of_getElem? (i := 16) rfl))) Via.refl e123 S17 (g := (mkF m 42 #[.val (.int p1), .val (.int ((p1 &&& (2147483647 : Int32)) % (22 : Int32))), .val (.ref en19), .unset] [(.ref en19)])) rfl (hb hby at_42)
    refine Go.step st124 ?_
    show Go FrameEnd p e below s 0 0 (Q0 Z p1 en0 en1 en2 en3 en4 en5 en6 en7 en8 en9 en10 en11 en12 en13 en14 en15 en16 en17 en18 en19 en20 en21 h0 n0) (T124.setTop (mkF m 45 #[.val (.int p1), .val (.int ((p1 &&& (2147483647 : Int32)) % (22 : Int32))), .val (.ref en19), .unset] [(.ref en17), (.ref en19)]))
    refine Go.step (fun _ k => Jvm.RoadKit.acmp (g := (mkF m 45 #[.val (.int p1), .val (.int ((p1 &&& (2147483647 : Int32)) % (22 : Int32))), .val (.ref en19), .unset] [(.ref en17), (.ref en19)])) X124 hx rfl rfl rfl (pc0 := 45) (pc' := 48) (same := false) rfl (hb hby at_45) rfl (decide_eq_false fun q => (Ne.symm (Fld.ne F17 F19 (by decide))) (Value.ref.inj q)) (by decide) (by decide) k) ?_
    show Go FrameEnd p e below s 0 0 (Q0 Z p1 en0 en1 en2 en3 en4 en5 en6 en7 en8 en9 en10 en11 en12 en13 en14 en15 en16 en17 en18 en19 en20 en21 h0 n0) (T124.setTop (mkF m 48 #[.val (.int p1), .val (.int ((p1 &&& (2147483647 : Int32)) % (22 : Int32))), .val (.ref en19), .unset] []))
    refine Go.step (fun _ k => XS.aloadN X124.here hx rfl (hb hby at_48) rfl rfl k) ?_
    show Go FrameEnd p e below s 0 0 (Q0 Z p1 en0 en1 en2 en3 en4 en5 en6 en7 en8 en9 en10 en11 en12 en13 en14 en15 en16 en17 en18 en19 en20 en21 h0 n0) (T124.setTop (mkF m 49 #[.val (.int p1), .val (.int ((p1 &&& (2147483647 : Int32)) % (22 : Int32))), .val (.ref en19), .unset] [(.ref en19)]))
    obtain ⟨T125, X125, e125, st125⟩ := getS2 X124 hx hZ hown (host := "") (Or.inl (hw _ (List.mem_of_getElem? (i := 18) rfl))) Via.refl e124 S18 (g := (mkF m 49 #[.val (.int p1), .val (.int ((p1 &&& (2147483647 : Int32)) % (22 : Int32))), .val (.ref en19), .unset] [(.ref en19)])) rfl (hb hby at_49)
    refine Go.step st125 ?_
    show Go FrameEnd p e below s 0 0 (Q0 Z p1 en0 en1 en2 en3 en4 en5 en6 en7 en8 en9 en10 en11 en12 en13 en14 en15 en16 en17 en18 en19 en20 en21 h0 n0) (T125.setTop (mkF m 52 #[.val (.int p1), .val (.int ((p1 &&& (2147483647 : Int32)) % (22 : Int32))), .val (.ref en19), .unset] [(.ref en18), (.ref en19)]))
    refine Go.step (fun _ k => Jvm.RoadKit.acmp (g := (mkF m 52 #[.val (.int p1), .val (.int ((p1 &&& (2147483647 : Int32)) % (22 : Int32))), .val (.ref en19), .unset] [(.ref en18), (.ref en19)])) X125 hx rfl rfl rfl (pc0 := 52) (pc' := 59) (same := false) rfl (hb hby at_52) rfl (decide_eq_false fun q => (Ne.symm (Fld.ne F18 F19 (by decide))) (Value.ref.inj q)) (by decide) (by decide) k) ?_
    show Go FrameEnd p e below s 0 0 (Q0 Z p1 en0 en1 en2 en3 en4 en5 en6 en7 en8 en9 en10 en11 en12 en13 en14 en15 en16 en17 en18 en19 en20 en21 h0 n0) (T125.setTop (mkF m 59 #[.val (.int p1), .val (.int ((p1 &&& (2147483647 : Int32)) % (22 : Int32))), .val (.ref en19), .unset] []))
    refine Go.step (fun _ k => XS.iconst X125.here hx rfl (hb hby at_59) k) ?_
    show Go FrameEnd p e below s 0 0 (Q0 Z p1 en0 en1 en2 en3 en4 en5 en6 en7 en8 en9 en10 en11 en12 en13 en14 en15 en16 en17 en18 en19 en20 en21 h0 n0) (T125.setTop (mkF m 60 #[.val (.int p1), .val (.int ((p1 &&& (2147483647 : Int32)) % (22 : Int32))), .val (.ref en19), .unset] [(.int (0 : Int32))]))
    refine Go.step (fun _ k => XS.istoreN X125.here hx rfl (hb hby at_60) rfl (l' := #[.val (.int p1), .val (.int ((p1 &&& (2147483647 : Int32)) % (22 : Int32))), .val (.ref en19), .val (.int (0 : Int32))]) rfl k) ?_
    show Go FrameEnd p e below s 0 0 (Q0 Z p1 en0 en1 en2 en3 en4 en5 en6 en7 en8 en9 en10 en11 en12 en13 en14 en15 en16 en17 en18 en19 en20 en21 h0 n0) (T125.setTop (mkF m 61 #[.val (.int p1), .val (.int ((p1 &&& (2147483647 : Int32)) % (22 : Int32))), .val (.ref en19), .val (.int (0 : Int32))] []))
    refine Go.step (fun _ k => XS.aloadN X125.here hx rfl (hb hby at_61) rfl rfl k) ?_
    show Go FrameEnd p e below s 0 0 (Q0 Z p1 en0 en1 en2 en3 en4 en5 en6 en7 en8 en9 en10 en11 en12 en13 en14 en15 en16 en17 en18 en19 en20 en21 h0 n0) (T125.setTop (mkF m 62 #[.val (.int p1), .val (.int ((p1 &&& (2147483647 : Int32)) % (22 : Int32))), .val (.ref en19), .val (.int (0 : Int32))] [(.ref en19)]))
    obtain ⟨cq126, kq126, q126a, q126b, q126c⟩ := isOf hZ e125 E19
    obtain ⟨_, _, ⟨T126, L126, k126, n126⟩, -, X126, ⟨Lc126, hQ126, l126, y126, z126⟩, st126⟩ := X125.virtualBack hx (y := (⟨"deckmill/Card", "asksChoice", "()Z"⟩ : MethodName)) (z := (⟨"deckmill/Card", "asksChoice", "()Z"⟩ : MethodName)) hown (mvT hZ (hw _ (List.mem_of_getElem? (i := 20) rfl))) (mvT hZ (hw _ (List.mem_of_getElem? (i := 21) rfl))) (notFace_of_selects (args := #[]) (mvT hZ (hw _ (List.mem_of_getElem? (i := 23) rfl)))) (mvT hZ (hw _ (List.mem_of_getElem? (i := 23) rfl))) (mvT hZ (hw _ (List.mem_of_getElem? (i := 22) rfl))) (by decide) (backOf (W := 0) (rm2n l Z a0 hw [] en19  h0 C19) hZ (hw _ (List.mem_of_getElem? (i := 24) rfl)) (hw _ (List.mem_of_getElem? (i := 6) rfl)) (by decide) (by decide)) q126a q126c (g := (mkF m 62 #[.val (.int p1), .val (.int ((p1 &&& (2147483647 : Int32)) % (22 : Int32))), .val (.ref en19), .val (.int (0 : Int32))] [(.ref en19)])) rfl (by rw [hml]; rfl) (Steps.refl _) (argsL := []) (rest := []) (lenOf pd___Z rfl) rfl (by show 2 * 0 + _ ≤ _; exact Nat.le_of_eq rfl) (hb hby at_62) (fun _ _ => ⟨rfl, e125, (by decide : 0 + 0 ≤ _), (by decide : 0 + 0 ≤ _)⟩)
    dsimp only [Pt.U, Pt.locs, Pt.cells, Pt.slots] at X126 l126 y126 z126 st126 hQ126
    subst l126 y126 z126
    obtain ⟨rfl, rfl, e126⟩ := hQ126
    have N126 := Fr.app N1 (Fr.nil n0)
    refine Go.hop st126 ?_
    show Go FrameEnd p e below s 0 0 (Q0 Z p1 en0 en1 en2 en3 en4 en5 en6 en7 en8 en9 en10 en11 en12 en13 en14 en15 en16 en17 en18 en19 en20 en21 h0 n0) (T126.setTop (mkF m 65 #[.val (.int p1), .val (.int ((p1 &&& (2147483647 : Int32)) % (22 : Int32))), .val (.ref en19), .val (.int (0 : Int32))] [(.int (0 : Int32))]))
    refine Go.step (fun _ k => XS.iloadN X126.here hx rfl (hb hby at_65) rfl k) ?_
    show Go FrameEnd p e below s 0 0 (Q0 Z p1 en0 en1 en2 en3 en4 en5 en6 en7 en8 en9 en10 en11 en12 en13 en14 en15 en16 en17 en18 en19 en20 en21 h0 n0) (T126.setTop (mkF m 66 #[.val (.int p1), .val (.int ((p1 &&& (2147483647 : Int32)) % (22 : Int32))), .val (.ref en19), .val (.int (0 : Int32))] [(.int (0 : Int32)), (.int (0 : Int32))]))
    refine Go.step (fun _ k => XS.icmpNo X126.here hx rfl (hb hby at_66) rfl (teq rfl).2 k) ?_
    show Go FrameEnd p e below s 0 0 (Q0 Z p1 en0 en1 en2 en3 en4 en5 en6 en7 en8 en9 en10 en11 en12 en13 en14 en15 en16 en17 en18 en19 en20 en21 h0 n0) (T126.setTop (mkF m 69 #[.val (.int p1), .val (.int ((p1 &&& (2147483647 : Int32)) % (22 : Int32))), .val (.ref en19), .val (.int (0 : Int32))] []))
    refine Go.step (fun _ k => XS.iconst X126.here hx rfl (hb hby at_69) k) ?_
    show Go FrameEnd p e below s 0 0 (Q0 Z p1 en0 en1 en2 en3 en4 en5 en6 en7 en8 en9 en10 en11 en12 en13 en14 en15 en16 en17 en18 en19 en20 en21 h0 n0) (T126.setTop (mkF m 70 #[.val (.int p1), .val (.int ((p1 &&& (2147483647 : Int32)) % (22 : Int32))), .val (.ref en19), .val (.int (0 : Int32))] [(.int (1 : Int32))]))
    refine Go.step (fun _ k => XS.goto X126.here hx rfl (pc0 := 70) (pc' := 74) rfl (hb hby at_70) (by decide) (by decide) k) ?_
    show Go FrameEnd p e below s 0 0 (Q0 Z p1 en0 en1 en2 en3 en4 en5 en6 en7 en8 en9 en10 en11 en12 en13 en14 en15 en16 en17 en18 en19 en20 en21 h0 n0) (T126.setTop (mkF m 74 #[.val (.int p1), .val (.int ((p1 &&& (2147483647 : Int32)) % (22 : Int32))), .val (.ref en19), .val (.int (0 : Int32))] [(.int (1 : Int32))]))
    refine Go.retN X126 hx (t := .boolean) Bd.returns (by simp) (by decide) (hb hby at_74) (BodyLoose.notSynchronized Bd) e126 (by decide) (by decide) ?_
    exact ⟨rfl, N126⟩
  · skip
    rw [q]
    obtain ⟨⟨S0, E0, F0, C0⟩, ⟨S1, E1, F1, C1⟩, ⟨S2, E2, F2, C2⟩, ⟨S3, E3, F3, C3⟩, ⟨S4, E4, F4, C4⟩, ⟨S5, E5, F5, C5⟩, ⟨S6, E6, F6, C6⟩, ⟨S7, E7, F7, C7⟩, ⟨S8, E8, F8, C8⟩, ⟨S9, E9, F9, C9⟩, ⟨S10, E10, F10, C10⟩, ⟨S11, E11, F11, C11⟩, ⟨S12, E12, F12, C12⟩, ⟨S13, E13, F13, C13⟩, ⟨S14, E14, F14, C14⟩, ⟨S15, E15, F15, C15⟩, ⟨S16, E16, F16, C16⟩, ⟨S17, E17, F17, C17⟩, ⟨S18, E18, F18, C18⟩, ⟨S19, E19, F19, C19⟩, ⟨S20, E20, F20, C20⟩, ⟨S21, E21, F21, C21⟩⟩ := hC
    show Go FrameEnd p e below s 0 0 (Q0 Z p1 en0 en1 en2 en3 en4 en5 en6 en7 en8 en9 en10 en11 en12 en13 en14 en15 en16 en17 en18 en19 en20 en21 h0 n0) (T1.setTop (mkF m 12 #[.val (.int p1), .val (.int ((p1 &&& (2147483647 : Int32)) % (22 : Int32))), .unset, .unset] [(.ref en20)]))
    refine Go.step (fun _ k => XS.astoreN X1.here hx rfl (hb hby at_12) rfl rfl (l' := #[.val (.int p1), .val (.int ((p1 &&& (2147483647 : Int32)) % (22 : Int32))), .val (.ref en20), .unset]) rfl k) ?_
    show Go FrameEnd p e below s 0 0 (Q0 Z p1 en0 en1 en2 en3 en4 en5 en6 en7 en8 en9 en10 en11 en12 en13 en14 en15 en16 en17 en18 en19 en20 en21 h0 n0) (T1.setTop (mkF m 13 #[.val (.int p1), .val (.int ((p1 &&& (2147483647 : Int32)) % (22 : Int32))), .val (.ref en20), .unset] []))
    refine Go.step (fun _ k => XS.aloadN X1.here hx rfl (hb hby at_13) rfl rfl k) ?_
    show Go FrameEnd p e below s 0 0 (Q0 Z p1 en0 en1 en2 en3 en4 en5 en6 en7 en8 en9 en10 en11 en12 en13 en14 en15 en16 en17 en18 en19 en20 en21 h0 n0) (T1.setTop (mkF m 14 #[.val (.int p1), .val (.int ((p1 &&& (2147483647 : Int32)) % (22 : Int32))), .val (.ref en20), .unset] [(.ref en20)]))
    obtain ⟨T127, X127, e127, st127⟩ := getS2 X1 hx hZ hown (host := "") (Or.inl (hw _ (List.mem_of_getElem? (i := 8) rfl))) Via.refl e1 S13 (g := (mkF m 14 #[.val (.int p1), .val (.int ((p1 &&& (2147483647 : Int32)) % (22 : Int32))), .val (.ref en20), .unset] [(.ref en20)])) rfl (hb hby at_14)
    refine Go.step st127 ?_
    show Go FrameEnd p e below s 0 0 (Q0 Z p1 en0 en1 en2 en3 en4 en5 en6 en7 en8 en9 en10 en11 en12 en13 en14 en15 en16 en17 en18 en19 en20 en21 h0 n0) (T127.setTop (mkF m 17 #[.val (.int p1), .val (.int ((p1 &&& (2147483647 : Int32)) % (22 : Int32))), .val (.ref en20), .unset] [(.ref en13), (.ref en20)]))
    refine Go.step (fun _ k => Jvm.RoadKit.acmp (g := (mkF m 17 #[.val (.int p1), .val (.int ((p1 &&& (2147483647 : Int32)) % (22 : Int32))), .val (.ref en20), .unset] [(.ref en13), (.ref en20)])) X127 hx rfl rfl rfl (pc0 := 17) (pc' := 20) (same := false) rfl (hb hby at_17) rfl (decide_eq_false fun q => (Ne.symm (Fld.ne F13 F20 (by decide))) (Value.ref.inj q)) (by decide) (by decide) k) ?_
    show Go FrameEnd p e below s 0 0 (Q0 Z p1 en0 en1 en2 en3 en4 en5 en6 en7 en8 en9 en10 en11 en12 en13 en14 en15 en16 en17 en18 en19 en20 en21 h0 n0) (T127.setTop (mkF m 20 #[.val (.int p1), .val (.int ((p1 &&& (2147483647 : Int32)) % (22 : Int32))), .val (.ref en20), .unset] []))
    refine Go.step (fun _ k => XS.aloadN X127.here hx rfl (hb hby at_20) rfl rfl k) ?_
    show Go FrameEnd p e below s 0 0 (Q0 Z p1 en0 en1 en2 en3 en4 en5 en6 en7 en8 en9 en10 en11 en12 en13 en14 en15 en16 en17 en18 en19 en20 en21 h0 n0) (T127.setTop (mkF m 21 #[.val (.int p1), .val (.int ((p1 &&& (2147483647 : Int32)) % (22 : Int32))), .val (.ref en20), .unset] [(.ref en20)]))
    obtain ⟨T128, X128, e128, st128⟩ := getS2 X127 hx hZ hown (host := "") (Or.inl (hw _ (List.mem_of_getElem? (i := 10) rfl))) Via.refl e127 S14 (g := (mkF m 21 #[.val (.int p1), .val (.int ((p1 &&& (2147483647 : Int32)) % (22 : Int32))), .val (.ref en20), .unset] [(.ref en20)])) rfl (hb hby at_21)
    refine Go.step st128 ?_
    show Go FrameEnd p e below s 0 0 (Q0 Z p1 en0 en1 en2 en3 en4 en5 en6 en7 en8 en9 en10 en11 en12 en13 en14 en15 en16 en17 en18 en19 en20 en21 h0 n0) (T128.setTop (mkF m 24 #[.val (.int p1), .val (.int ((p1 &&& (2147483647 : Int32)) % (22 : Int32))), .val (.ref en20), .unset] [(.ref en14), (.ref en20)]))
    refine Go.step (fun _ k => Jvm.RoadKit.acmp (g := (mkF m 24 #[.val (.int p1), .val (.int ((p1 &&& (2147483647 : Int32)) % (22 : Int32))), .val (.ref en20), .unset] [(.ref en14), (.ref en20)])) X128 hx rfl rfl rfl (pc0 := 24) (pc' := 27) (same := false) rfl (hb hby at_24) rfl (decide_eq_false fun q => (Ne.symm (Fld.ne F14 F20 (by decide))) (Value.ref.inj q)) (by decide) (by decide) k) ?_
    show Go FrameEnd p e below s 0 0 (Q0 Z p1 en0 en1 en2 en3 en4 en5 en6 en7 en8 en9 en10 en11 en12 en13 en14 en15 en16 en17 en18 en19 en20 en21 h0 n0) (T128.setTop (mkF m 27 #[.val (.int p1), .val (.int ((p1 &&& (2147483647 : Int32)) % (22 : Int32))), .val (.ref en20), .unset] []))
    refine Go.step (fun _ k => XS.aloadN X128.here hx rfl (hb hby at_27) rfl rfl k) ?_
    show Go FrameEnd p e below s 0 0 (Q0 Z p1 en0 en1 en2 en3 en4 en5 en6 en7 en8 en9 en10 en11 en12 en13 en14 en15 en16 en17 en18 en19 en20 en21 h0 n0) (T128.setTop (mkF m 28 #[.val (.int p1), .val (.int ((p1 &&& (2147483647 : Int32)) % (22 : Int32))), .val (.ref en20), .unset] [(.ref en20)]))
    obtain ⟨T129, X129, e129, st129⟩ := getS2 X128 hx hZ hown (host := "") (Or.inl (hw _ (List.mem_of_getElem? (i := 12) rfl))) Via.refl e128 S15 (g := (mkF m 28 #[.val (.int p1), .val (.int ((p1 &&& (2147483647 : Int32)) % (22 : Int32))), .val (.ref en20), .unset] [(.ref en20)])) rfl (hb hby at_28)
    refine Go.step st129 ?_
    show Go FrameEnd p e below s 0 0 (Q0 Z p1 en0 en1 en2 en3 en4 en5 en6 en7 en8 en9 en10 en11 en12 en13 en14 en15 en16 en17 en18 en19 en20 en21 h0 n0) (T129.setTop (mkF m 31 #[.val (.int p1), .val (.int ((p1 &&& (2147483647 : Int32)) % (22 : Int32))), .val (.ref en20), .unset] [(.ref en15), (.ref en20)]))
    refine Go.step (fun _ k => Jvm.RoadKit.acmp (g := (mkF m 31 #[.val (.int p1), .val (.int ((p1 &&& (2147483647 : Int32)) % (22 : Int32))), .val (.ref en20), .unset] [(.ref en15), (.ref en20)])) X129 hx rfl rfl rfl (pc0 := 31) (pc' := 34) (same := false) rfl (hb hby at_31) rfl (decide_eq_false fun q => (Ne.symm (Fld.ne F15 F20 (by decide))) (Value.ref.inj q)) (by decide) (by decide) k) ?_
    show Go FrameEnd p e below s 0 0 (Q0 Z p1 en0 en1 en2 en3 en4 en5 en6 en7 en8 en9 en10 en11 en12 en13 en14 en15 en16 en17 en18 en19 en20 en21 h0 n0) (T129.setTop (mkF m 34 #[.val (.int p1), .val (.int ((p1 &&& (2147483647 : Int32)) % (22 : Int32))), .val (.ref en20), .unset] []))
    refine Go.step (fun _ k => XS.aloadN X129.here hx rfl (hb hby at_34) rfl rfl k) ?_
    show Go FrameEnd p e below s 0 0 (Q0 Z p1 en0 en1 en2 en3 en4 en5 en6 en7 en8 en9 en10 en11 en12 en13 en14 en15 en16 en17 en18 en19 en20 en21 h0 n0) (T129.setTop (mkF m 35 #[.val (.int p1), .val (.int ((p1 &&& (2147483647 : Int32)) % (22 : Int32))), .val (.ref en20), .unset] [(.ref en20)]))
    obtain ⟨T130, X130, e130, st130⟩ := getS2 X129 hx hZ hown (host := "") (Or.inl (hw _ (List.mem_of_getElem? (i := 14) rfl))) Via.refl e129 S16 (g := (mkF m 35 #[.val (.int p1), .val (.int ((p1 &&& (2147483647 : Int32)) % (22 : Int32))), .val (.ref en20), .unset] [(.ref en20)])) rfl (hb hby at_35)
    refine Go.step st130 ?_
    show Go FrameEnd p e below s 0 0 (Q0 Z p1 en0 en1 en2 en3 en4 en5 en6 en7 en8 en9 en10 en11 en12 en13 en14 en15 en16 en17 en18 en19 en20 en21 h0 n0) (T130.setTop (mkF m 38 #[.val (.int p1), .val (.int ((p1 &&& (2147483647 : Int32)) % (22 : Int32))), .val (.ref en20), .unset] [(.ref en16), (.ref en20)]))
    refine Go.step (fun _ k => Jvm.RoadKit.acmp (g := (mkF m 38 #[.val (.int p1), .val (.int ((p1 &&& (2147483647 : Int32)) % (22 : Int32))), .val (.ref en20), .unset] [(.ref en16), (.ref en20)])) X130 hx rfl rfl rfl (pc0 := 38) (pc' := 41) (same := false) rfl (hb hby at_38) rfl (decide_eq_false fun q => (Ne.symm (Fld.ne F16 F20 (by decide))) (Value.ref.inj q)) (by decide) (by decide) k) ?_
    show Go FrameEnd p e below s 0 0 (Q0 Z p1 en0 en1 en2 en3 en4 en5 en6 en7 en8 en9 en10 en11 en12 en13 en14 en15 en16 en17 en18 en19 en20 en21 h0 n0) (T130.setTop (mkF m 41 #[.val (.int p1), .val (.int ((p1 &&& (2147483647 : Int32)) % (22 : Int32))), .val (.ref en20), .unset] []))
    refine Go.step (fun _ k => XS.aloadN X130.here hx rfl (hb hby at_41) rfl rfl k) ?_
    show Go FrameEnd p e below s 0 0 (Q0 Z p1 en0 en1 en2 en3 en4 en5 en6 en7 en8 en9 en10 en11 en12 en13 en14 en15 en16 en17 en18 en19 en20 en21 h0 n0) (T130.setTop (mkF m 42 #[.val (.int p1), .val (.int ((p1 &&& (2147483647 : Int32)) % (22 : Int32))), .val (.ref en20), .unset] [(.ref en20)]))
    obtain ⟨T131, X131, e131, st131⟩ := getS2 X130 hx hZ hown (host := "") (Or.inl (hw _ (List.mem_of_getElem? (i := 16) rfl))) Via.refl e130 S17 (g := (mkF m 42 #[.val (.int p1), .val (.int ((p1 &&& (2147483647 : Int32)) % (22 : Int32))), .val (.ref en20), .unset] [(.ref en20)])) rfl (hb hby at_42)
    refine Go.step st131 ?_
    show Go FrameEnd p e below s 0 0 (Q0 Z p1 en0 en1 en2 en3 en4 en5 en6 en7 en8 en9 en10 en11 en12 en13 en14 en15 en16 en17 en18 en19 en20 en21 h0 n0) (T131.setTop (mkF m 45 #[.val (.int p1), .val (.int ((p1 &&& (2147483647 : Int32)) % (22 : Int32))), .val (.ref en20), .unset] [(.ref en17), (.ref en20)]))
    refine Go.step (fun _ k => Jvm.RoadKit.acmp (g := (mkF m 45 #[.val (.int p1), .val (.int ((p1 &&& (2147483647 : Int32)) % (22 : Int32))), .val (.ref en20), .unset] [(.ref en17), (.ref en20)])) X131 hx rfl rfl rfl (pc0 := 45) (pc' := 48) (same := false) rfl (hb hby at_45) rfl (decide_eq_false fun q => (Ne.symm (Fld.ne F17 F20 (by decide))) (Value.ref.inj q)) (by decide) (by decide) k) ?_
    show Go FrameEnd p e below s 0 0 (Q0 Z p1 en0 en1 en2 en3 en4 en5 en6 en7 en8 en9 en10 en11 en12 en13 en14 en15 en16 en17 en18 en19 en20 en21 h0 n0) (T131.setTop (mkF m 48 #[.val (.int p1), .val (.int ((p1 &&& (2147483647 : Int32)) % (22 : Int32))), .val (.ref en20), .unset] []))
    refine Go.step (fun _ k => XS.aloadN X131.here hx rfl (hb hby at_48) rfl rfl k) ?_
    show Go FrameEnd p e below s 0 0 (Q0 Z p1 en0 en1 en2 en3 en4 en5 en6 en7 en8 en9 en10 en11 en12 en13 en14 en15 en16 en17 en18 en19 en20 en21 h0 n0) (T131.setTop (mkF m 49 #[.val (.int p1), .val (.int ((p1 &&& (2147483647 : Int32)) % (22 : Int32))), .val (.ref en20), .unset] [(.ref en20)]))
    obtain ⟨T132, X132, e132, st132⟩ := getS2 X131 hx hZ hown (host := "") (Or.inl (hw _ (List.mem_of_getElem? (i := 18) rfl))) Via.refl e131 S18 (g := (mkF m 49 #[.val (.int p1), .val (.int ((p1 &&& (2147483647 : Int32)) % (22 : Int32))), .val (.ref en20), .unset] [(.ref en20)])) rfl (hb hby at_49)
    refine Go.step st132 ?_
    show Go FrameEnd p e below s 0 0 (Q0 Z p1 en0 en1 en2 en3 en4 en5 en6 en7 en8 en9 en10 en11 en12 en13 en14 en15 en16 en17 en18 en19 en20 en21 h0 n0) (T132.setTop (mkF m 52 #[.val (.int p1), .val (.int ((p1 &&& (2147483647 : Int32)) % (22 : Int32))), .val (.ref en20), .unset] [(.ref en18), (.ref en20)]))
    refine Go.step (fun _ k => Jvm.RoadKit.acmp (g := (mkF m 52 #[.val (.int p1), .val (.int ((p1 &&& (2147483647 : Int32)) % (22 : Int32))), .val (.ref en20), .unset] [(.ref en18), (.ref en20)])) X132 hx rfl rfl rfl (pc0 := 52) (pc' := 59) (same := false) rfl (hb hby at_52) rfl (decide_eq_false fun q => (Ne.symm (Fld.ne F18 F20 (by decide))) (Value.ref.inj q)) (by decide) (by decide) k) ?_
    show Go FrameEnd p e below s 0 0 (Q0 Z p1 en0 en1 en2 en3 en4 en5 en6 en7 en8 en9 en10 en11 en12 en13 en14 en15 en16 en17 en18 en19 en20 en21 h0 n0) (T132.setTop (mkF m 59 #[.val (.int p1), .val (.int ((p1 &&& (2147483647 : Int32)) % (22 : Int32))), .val (.ref en20), .unset] []))
    refine Go.step (fun _ k => XS.iconst X132.here hx rfl (hb hby at_59) k) ?_
    show Go FrameEnd p e below s 0 0 (Q0 Z p1 en0 en1 en2 en3 en4 en5 en6 en7 en8 en9 en10 en11 en12 en13 en14 en15 en16 en17 en18 en19 en20 en21 h0 n0) (T132.setTop (mkF m 60 #[.val (.int p1), .val (.int ((p1 &&& (2147483647 : Int32)) % (22 : Int32))), .val (.ref en20), .unset] [(.int (0 : Int32))]))
    refine Go.step (fun _ k => XS.istoreN X132.here hx rfl (hb hby at_60) rfl (l' := #[.val (.int p1), .val (.int ((p1 &&& (2147483647 : Int32)) % (22 : Int32))), .val (.ref en20), .val (.int (0 : Int32))]) rfl k) ?_
    show Go FrameEnd p e below s 0 0 (Q0 Z p1 en0 en1 en2 en3 en4 en5 en6 en7 en8 en9 en10 en11 en12 en13 en14 en15 en16 en17 en18 en19 en20 en21 h0 n0) (T132.setTop (mkF m 61 #[.val (.int p1), .val (.int ((p1 &&& (2147483647 : Int32)) % (22 : Int32))), .val (.ref en20), .val (.int (0 : Int32))] []))
    refine Go.step (fun _ k => XS.aloadN X132.here hx rfl (hb hby at_61) rfl rfl k) ?_
    show Go FrameEnd p e below s 0 0 (Q0 Z p1 en0 en1 en2 en3 en4 en5 en6 en7 en8 en9 en10 en11 en12 en13 en14 en15 en16 en17 en18 en19 en20 en21 h0 n0) (T132.setTop (mkF m 62 #[.val (.int p1), .val (.int ((p1 &&& (2147483647 : Int32)) % (22 : Int32))), .val (.ref en20), .val (.int (0 : Int32))] [(.ref en20)]))
    obtain ⟨cq133, kq133, q133a, q133b, q133c⟩ := isOf hZ e132 E20
    obtain ⟨_, _, ⟨T133, L133, k133, n133⟩, -, X133, ⟨Lc133, hQ133, l133, y133, z133⟩, st133⟩ := X132.virtualBack hx (y := (⟨"deckmill/Card", "asksChoice", "()Z"⟩ : MethodName)) (z := (⟨"deckmill/Card", "asksChoice", "()Z"⟩ : MethodName)) hown (mvT hZ (hw _ (List.mem_of_getElem? (i := 20) rfl))) (mvT hZ (hw _ (List.mem_of_getElem? (i := 21) rfl))) (notFace_of_selects (args := #[]) (mvT hZ (hw _ (List.mem_of_getElem? (i := 23) rfl)))) (mvT hZ (hw _ (List.mem_of_getElem? (i := 23) rfl))) (mvT hZ (hw _ (List.mem_of_getElem? (i := 22) rfl))) (by decide) (backOf (W := 0) (rm2n l Z a0 hw [] en20  h0 C20) hZ (hw _ (List.mem_of_getElem? (i := 24) rfl)) (hw _ (List.mem_of_getElem? (i := 6) rfl)) (by decide) (by decide)) q133a q133c (g := (mkF m 62 #[.val (.int p1), .val (.int ((p1 &&& (2147483647 : Int32)) % (22 : Int32))), .val (.ref en20), .val (.int (0 : Int32))] [(.ref en20)])) rfl (by rw [hml]; rfl) (Steps.refl _) (argsL := []) (rest := []) (lenOf pd___Z rfl) rfl (by show 2 * 0 + _ ≤ _; exact Nat.le_of_eq rfl) (hb hby at_62) (fun _ _ => ⟨rfl, e132, (by decide : 0 + 0 ≤ _), (by decide : 0 + 0 ≤ _)⟩)
    dsimp only [Pt.U, Pt.locs, Pt.cells, Pt.slots] at X133 l133 y133 z133 st133 hQ133
    subst l133 y133 z133
    obtain ⟨rfl, rfl, e133⟩ := hQ133
    have N133 := Fr.app N1 (Fr.nil n0)
    refine Go.hop st133 ?_
    show Go FrameEnd p e below s 0 0 (Q0 Z p1 en0 en1 en2 en3 en4 en5 en6 en7 en8 en9 en10 en11 en12 en13 en14 en15 en16 en17 en18 en19 en20 en21 h0 n0) (T133.setTop (mkF m 65 #[.val (.int p1), .val (.int ((p1 &&& (2147483647 : Int32)) % (22 : Int32))), .val (.ref en20), .val (.int (0 : Int32))] [(.int (0 : Int32))]))
    refine Go.step (fun _ k => XS.iloadN X133.here hx rfl (hb hby at_65) rfl k) ?_
    show Go FrameEnd p e below s 0 0 (Q0 Z p1 en0 en1 en2 en3 en4 en5 en6 en7 en8 en9 en10 en11 en12 en13 en14 en15 en16 en17 en18 en19 en20 en21 h0 n0) (T133.setTop (mkF m 66 #[.val (.int p1), .val (.int ((p1 &&& (2147483647 : Int32)) % (22 : Int32))), .val (.ref en20), .val (.int (0 : Int32))] [(.int (0 : Int32)), (.int (0 : Int32))]))
    refine Go.step (fun _ k => XS.icmpNo X133.here hx rfl (hb hby at_66) rfl (teq rfl).2 k) ?_
    show Go FrameEnd p e below s 0 0 (Q0 Z p1 en0 en1 en2 en3 en4 en5 en6 en7 en8 en9 en10 en11 en12 en13 en14 en15 en16 en17 en18 en19 en20 en21 h0 n0) (T133.setTop (mkF m 69 #[.val (.int p1), .val (.int ((p1 &&& (2147483647 : Int32)) % (22 : Int32))), .val (.ref en20), .val (.int (0 : Int32))] []))
    refine Go.step (fun _ k => XS.iconst X133.here hx rfl (hb hby at_69) k) ?_
    show Go FrameEnd p e below s 0 0 (Q0 Z p1 en0 en1 en2 en3 en4 en5 en6 en7 en8 en9 en10 en11 en12 en13 en14 en15 en16 en17 en18 en19 en20 en21 h0 n0) (T133.setTop (mkF m 70 #[.val (.int p1), .val (.int ((p1 &&& (2147483647 : Int32)) % (22 : Int32))), .val (.ref en20), .val (.int (0 : Int32))] [(.int (1 : Int32))]))
    refine Go.step (fun _ k => XS.goto X133.here hx rfl (pc0 := 70) (pc' := 74) rfl (hb hby at_70) (by decide) (by decide) k) ?_
    show Go FrameEnd p e below s 0 0 (Q0 Z p1 en0 en1 en2 en3 en4 en5 en6 en7 en8 en9 en10 en11 en12 en13 en14 en15 en16 en17 en18 en19 en20 en21 h0 n0) (T133.setTop (mkF m 74 #[.val (.int p1), .val (.int ((p1 &&& (2147483647 : Int32)) % (22 : Int32))), .val (.ref en20), .val (.int (0 : Int32))] [(.int (1 : Int32))]))
    refine Go.retN X133 hx (t := .boolean) Bd.returns (by simp) (by decide) (hb hby at_74) (BodyLoose.notSynchronized Bd) e133 (by decide) (by decide) ?_
    exact ⟨rfl, N133⟩
  · skip
    rw [q]
    obtain ⟨⟨S0, E0, F0, C0⟩, ⟨S1, E1, F1, C1⟩, ⟨S2, E2, F2, C2⟩, ⟨S3, E3, F3, C3⟩, ⟨S4, E4, F4, C4⟩, ⟨S5, E5, F5, C5⟩, ⟨S6, E6, F6, C6⟩, ⟨S7, E7, F7, C7⟩, ⟨S8, E8, F8, C8⟩, ⟨S9, E9, F9, C9⟩, ⟨S10, E10, F10, C10⟩, ⟨S11, E11, F11, C11⟩, ⟨S12, E12, F12, C12⟩, ⟨S13, E13, F13, C13⟩, ⟨S14, E14, F14, C14⟩, ⟨S15, E15, F15, C15⟩, ⟨S16, E16, F16, C16⟩, ⟨S17, E17, F17, C17⟩, ⟨S18, E18, F18, C18⟩, ⟨S19, E19, F19, C19⟩, ⟨S20, E20, F20, C20⟩, ⟨S21, E21, F21, C21⟩⟩ := hC
    show Go FrameEnd p e below s 0 0 (Q0 Z p1 en0 en1 en2 en3 en4 en5 en6 en7 en8 en9 en10 en11 en12 en13 en14 en15 en16 en17 en18 en19 en20 en21 h0 n0) (T1.setTop (mkF m 12 #[.val (.int p1), .val (.int ((p1 &&& (2147483647 : Int32)) % (22 : Int32))), .unset, .unset] [(.ref en21)]))
    refine Go.step (fun _ k => XS.astoreN X1.here hx rfl (hb hby at_12) rfl rfl (l' := #[.val (.int p1), .val (.int ((p1 &&& (2147483647 : Int32)) % (22 : Int32))), .val (.ref en21), .unset]) rfl k) ?_
    show Go FrameEnd p e below s 0 0 (Q0 Z p1 en0 en1 en2 en3 en4 en5 en6 en7 en8 en9 en10 en11 en12 en13 en14 en15 en16 en17 en18 en19 en20 en21 h0 n0) (T1.setTop (mkF m 13 #[.val (.int p1), .val (.int ((p1 &&& (2147483647 : Int32)) % (22 : Int32))), .val (.ref en21), .unset] []))
    refine Go.step (fun _ k => XS.aloadN X1.here hx rfl (hb hby at_13) rfl rfl k) ?_
    show Go FrameEnd p e below s 0 0 (Q0 Z p1 en0 en1 en2 en3 en4 en5 en6 en7 en8 en9 en10 en11 en12 en13 en14 en15 en16 en17 en18 en19 en20 en21 h0 n0) (T1.setTop (mkF m 14 #[.val (.int p1), .val (.int ((p1 &&& (2147483647 : Int32)) % (22 : Int32))), .val (.ref en21), .unset] [(.ref en21)]))
    obtain ⟨T134, X134, e134, st134⟩ := getS2 X1 hx hZ hown (host := "") (Or.inl (hw _ (List.mem_of_getElem? (i := 8) rfl))) Via.refl e1 S13 (g := (mkF m 14 #[.val (.int p1), .val (.int ((p1 &&& (2147483647 : Int32)) % (22 : Int32))), .val (.ref en21), .unset] [(.ref en21)])) rfl (hb hby at_14)
    refine Go.step st134 ?_
    show Go FrameEnd p e below s 0 0 (Q0 Z p1 en0 en1 en2 en3 en4 en5 en6 en7 en8 en9 en10 en11 en12 en13 en14 en15 en16 en17 en18 en19 en20 en21 h0 n0) (T134.setTop (mkF m 17 #[.val (.int p1), .val (.int ((p1 &&& (2147483647 : Int32)) % (22 : Int32))), .val (.ref en21), .unset] [(.ref en13), (.ref en21)]))
    refine Go.step (fun _ k => Jvm.RoadKit.acmp (g := (mkF m 17 #[.val (.int p1), .val (.int ((p1 &&& (2147483647 : Int32)) % (22 : Int32))), .val (.ref en21), .unset] [(.ref en13), (.ref en21)])) X134 hx rfl rfl rfl (pc0 := 17) (pc' := 20) (same := false) rfl (hb hby at_17) rfl (decide_eq_false fun q => (Ne.symm (Fld.ne F13 F21 (by decide))) (Value.ref.inj q)) (by decide) (by decide) k) ?_
    show Go FrameEnd p e below s 0 0 (Q0 Z p1 en0 en1 en2 en3 en4 en5 en6 en7 en8 en9 en10 en11 en12 en13 en14 en15 en16 en17 en18 en19 en20 en21 h0 n0) (T134.setTop (mkF m 20 #[.val (.int p1), .val (.int ((p1 &&& (2147483647 : Int32)) % (22 : Int32))), .val (.ref en21), .unset] []))
    refine Go.step (fun _ k => XS.aloadN X134.here hx rfl (hb hby at_20) rfl rfl k) ?_
    show Go FrameEnd p e below s 0 0 (Q0 Z p1 en0 en1 en2 en3 en4 en5 en6 en7 en8 en9 en10 en11 en12 en13 en14 en15 en16 en17 en18 en19 en20 en21 h0 n0) (T134.setTop (mkF m 21 #[.val (.int p1), .val (.int ((p1 &&& (2147483647 : Int32)) % (22 : Int32))), .val (.ref en21), .unset] [(.ref en21)]))
    obtain ⟨T135, X135, e135, st135⟩ := getS2 X134 hx hZ hown (host := "") (Or.inl (hw _ (List.mem_of_getElem? (i := 10) rfl))) Via.refl e134 S14 (g := (mkF m 21 #[.val (.int p1), .val (.int ((p1 &&& (2147483647 : Int32)) % (22 : Int32))), .val (.ref en21), .unset] [(.ref en21)])) rfl (hb hby at_21)
    refine Go.step st135 ?_
    show Go FrameEnd p e below s 0 0 (Q0 Z p1 en0 en1 en2 en3 en4 en5 en6 en7 en8 en9 en10 en11 en12 en13 en14 en15 en16 en17 en18 en19 en20 en21 h0 n0) (T135.setTop (mkF m 24 #[.val (.int p1), .val (.int ((p1 &&& (2147483647 : Int32)) % (22 : Int32))), .val (.ref en21), .unset] [(.ref en14), (.ref en21)]))
    refine Go.step (fun _ k => Jvm.RoadKit.acmp (g := (mkF m 24 #[.val (.int p1), .val (.int ((p1 &&& (2147483647 : Int32)) % (22 : Int32))), .val (.ref en21), .unset] [(.ref en14), (.ref en21)])) X135 hx rfl rfl rfl (pc0 := 24) (pc' := 27) (same := false) rfl (hb hby at_24) rfl (decide_eq_false fun q => (Ne.symm (Fld.ne F14 F21 (by decide))) (Value.ref.inj q)) (by decide) (by decide) k) ?_
    show Go FrameEnd p e below s 0 0 (Q0 Z p1 en0 en1 en2 en3 en4 en5 en6 en7 en8 en9 en10 en11 en12 en13 en14 en15 en16 en17 en18 en19 en20 en21 h0 n0) (T135.setTop (mkF m 27 #[.val (.int p1), .val (.int ((p1 &&& (2147483647 : Int32)) % (22 : Int32))), .val (.ref en21), .unset] []))
    refine Go.step (fun _ k => XS.aloadN X135.here hx rfl (hb hby at_27) rfl rfl k) ?_
    show Go FrameEnd p e below s 0 0 (Q0 Z p1 en0 en1 en2 en3 en4 en5 en6 en7 en8 en9 en10 en11 en12 en13 en14 en15 en16 en17 en18 en19 en20 en21 h0 n0) (T135.setTop (mkF m 28 #[.val (.int p1), .val (.int ((p1 &&& (2147483647 : Int32)) % (22 : Int32))), .val (.ref en21), .unset] [(.ref en21)]))
    obtain ⟨T136, X136, e136, st136⟩ := getS2 X135 hx hZ hown (host := "") (Or.inl (hw _ (List.mem_of_getElem? (i := 12) rfl))) Via.refl e135 S15 (g := (mkF m 28 #[.val (.int p1), .val (.int ((p1 &&& (2147483647 : Int32)) % (22 : Int32))), .val (.ref en21), .unset] [(.ref en21)])) rfl (hb hby at_28)
    refine Go.step st136 ?_
    show Go FrameEnd p e below s 0 0 (Q0 Z p1 en0 en1 en2 en3 en4 en5 en6 en7 en8 en9 en10 en11 en12 en13 en14 en15 en16 en17 en18 en19 en20 en21 h0 n0) (T136.setTop (mkF m 31 #[.val (.int p1), .val (.int ((p1 &&& (2147483647 : Int32)) % (22 : Int32))), .val (.ref en21), .unset] [(.ref en15), (.ref en21)]))
    refine Go.step (fun _ k => Jvm.RoadKit.acmp (g := (mkF m 31 #[.val (.int p1), .val (.int ((p1 &&& (2147483647 : Int32)) % (22 : Int32))), .val (.ref en21), .unset] [(.ref en15), (.ref en21)])) X136 hx rfl rfl rfl (pc0 := 31) (pc' := 34) (same := false) rfl (hb hby at_31) rfl (decide_eq_false fun q => (Ne.symm (Fld.ne F15 F21 (by decide))) (Value.ref.inj q)) (by decide) (by decide) k) ?_
    show Go FrameEnd p e below s 0 0 (Q0 Z p1 en0 en1 en2 en3 en4 en5 en6 en7 en8 en9 en10 en11 en12 en13 en14 en15 en16 en17 en18 en19 en20 en21 h0 n0) (T136.setTop (mkF m 34 #[.val (.int p1), .val (.int ((p1 &&& (2147483647 : Int32)) % (22 : Int32))), .val (.ref en21), .unset] []))
    refine Go.step (fun _ k => XS.aloadN X136.here hx rfl (hb hby at_34) rfl rfl k) ?_
    show Go FrameEnd p e below s 0 0 (Q0 Z p1 en0 en1 en2 en3 en4 en5 en6 en7 en8 en9 en10 en11 en12 en13 en14 en15 en16 en17 en18 en19 en20 en21 h0 n0) (T136.setTop (mkF m 35 #[.val (.int p1), .val (.int ((p1 &&& (2147483647 : Int32)) % (22 : Int32))), .val (.ref en21), .unset] [(.ref en21)]))
    obtain ⟨T137, X137, e137, st137⟩ := getS2 X136 hx hZ hown (host := "") (Or.inl (hw _ (List.mem_of_getElem? (i := 14) rfl))) Via.refl e136 S16 (g := (mkF m 35 #[.val (.int p1), .val (.int ((p1 &&& (2147483647 : Int32)) % (22 : Int32))), .val (.ref en21), .unset] [(.ref en21)])) rfl (hb hby at_35)
    refine Go.step st137 ?_
    show Go FrameEnd p e below s 0 0 (Q0 Z p1 en0 en1 en2 en3 en4 en5 en6 en7 en8 en9 en10 en11 en12 en13 en14 en15 en16 en17 en18 en19 en20 en21 h0 n0) (T137.setTop (mkF m 38 #[.val (.int p1), .val (.int ((p1 &&& (2147483647 : Int32)) % (22 : Int32))), .val (.ref en21), .unset] [(.ref en16), (.ref en21)]))
    refine Go.step (fun _ k => Jvm.RoadKit.acmp (g := (mkF m 38 #[.val (.int p1), .val (.int ((p1 &&& (2147483647 : Int32)) % (22 : Int32))), .val (.ref en21), .unset] [(.ref en16), (.ref en21)])) X137 hx rfl rfl rfl (pc0 := 38) (pc' := 41) (same := false) rfl (hb hby at_38) rfl (decide_eq_false fun q => (Ne.symm (Fld.ne F16 F21 (by decide))) (Value.ref.inj q)) (by decide) (by decide) k) ?_
    show Go FrameEnd p e below s 0 0 (Q0 Z p1 en0 en1 en2 en3 en4 en5 en6 en7 en8 en9 en10 en11 en12 en13 en14 en15 en16 en17 en18 en19 en20 en21 h0 n0) (T137.setTop (mkF m 41 #[.val (.int p1), .val (.int ((p1 &&& (2147483647 : Int32)) % (22 : Int32))), .val (.ref en21), .unset] []))
    refine Go.step (fun _ k => XS.aloadN X137.here hx rfl (hb hby at_41) rfl rfl k) ?_
    show Go FrameEnd p e below s 0 0 (Q0 Z p1 en0 en1 en2 en3 en4 en5 en6 en7 en8 en9 en10 en11 en12 en13 en14 en15 en16 en17 en18 en19 en20 en21 h0 n0) (T137.setTop (mkF m 42 #[.val (.int p1), .val (.int ((p1 &&& (2147483647 : Int32)) % (22 : Int32))), .val (.ref en21), .unset] [(.ref en21)]))
    obtain ⟨T138, X138, e138, st138⟩ := getS2 X137 hx hZ hown (host := "") (Or.inl (hw _ (List.mem_of_getElem? (i := 16) rfl))) Via.refl e137 S17 (g := (mkF m 42 #[.val (.int p1), .val (.int ((p1 &&& (2147483647 : Int32)) % (22 : Int32))), .val (.ref en21), .unset] [(.ref en21)])) rfl (hb hby at_42)
    refine Go.step st138 ?_
    show Go FrameEnd p e below s 0 0 (Q0 Z p1 en0 en1 en2 en3 en4 en5 en6 en7 en8 en9 en10 en11 en12 en13 en14 en15 en16 en17 en18 en19 en20 en21 h0 n0) (T138.setTop (mkF m 45 #[.val (.int p1), .val (.int ((p1 &&& (2147483647 : Int32)) % (22 : Int32))), .val (.ref en21), .unset] [(.ref en17), (.ref en21)]))
    refine Go.step (fun _ k => Jvm.RoadKit.acmp (g := (mkF m 45 #[.val (.int p1), .val (.int ((p1 &&& (2147483647 : Int32)) % (22 : Int32))), .val (.ref en21), .unset] [(.ref en17), (.ref en21)])) X138 hx rfl rfl rfl (pc0 := 45) (pc' := 48) (same := false) rfl (hb hby at_45) rfl (decide_eq_false fun q => (Ne.symm (Fld.ne F17 F21 (by decide))) (Value.ref.inj q)) (by decide) (by decide) k) ?_
    show Go FrameEnd p e below s 0 0 (Q0 Z p1 en0 en1 en2 en3 en4 en5 en6 en7 en8 en9 en10 en11 en12 en13 en14 en15 en16 en17 en18 en19 en20 en21 h0 n0) (T138.setTop (mkF m 48 #[.val (.int p1), .val (.int ((p1 &&& (2147483647 : Int32)) % (22 : Int32))), .val (.ref en21), .unset] []))
    refine Go.step (fun _ k => XS.aloadN X138.here hx rfl (hb hby at_48) rfl rfl k) ?_
    show Go FrameEnd p e below s 0 0 (Q0 Z p1 en0 en1 en2 en3 en4 en5 en6 en7 en8 en9 en10 en11 en12 en13 en14 en15 en16 en17 en18 en19 en20 en21 h0 n0) (T138.setTop (mkF m 49 #[.val (.int p1), .val (.int ((p1 &&& (2147483647 : Int32)) % (22 : Int32))), .val (.ref en21), .unset] [(.ref en21)]))
    obtain ⟨T139, X139, e139, st139⟩ := getS2 X138 hx hZ hown (host := "") (Or.inl (hw _ (List.mem_of_getElem? (i := 18) rfl))) Via.refl e138 S18 (g := (mkF m 49 #[.val (.int p1), .val (.int ((p1 &&& (2147483647 : Int32)) % (22 : Int32))), .val (.ref en21), .unset] [(.ref en21)])) rfl (hb hby at_49)
    refine Go.step st139 ?_
    show Go FrameEnd p e below s 0 0 (Q0 Z p1 en0 en1 en2 en3 en4 en5 en6 en7 en8 en9 en10 en11 en12 en13 en14 en15 en16 en17 en18 en19 en20 en21 h0 n0) (T139.setTop (mkF m 52 #[.val (.int p1), .val (.int ((p1 &&& (2147483647 : Int32)) % (22 : Int32))), .val (.ref en21), .unset] [(.ref en18), (.ref en21)]))
    refine Go.step (fun _ k => Jvm.RoadKit.acmp (g := (mkF m 52 #[.val (.int p1), .val (.int ((p1 &&& (2147483647 : Int32)) % (22 : Int32))), .val (.ref en21), .unset] [(.ref en18), (.ref en21)])) X139 hx rfl rfl rfl (pc0 := 52) (pc' := 59) (same := false) rfl (hb hby at_52) rfl (decide_eq_false fun q => (Ne.symm (Fld.ne F18 F21 (by decide))) (Value.ref.inj q)) (by decide) (by decide) k) ?_
    show Go FrameEnd p e below s 0 0 (Q0 Z p1 en0 en1 en2 en3 en4 en5 en6 en7 en8 en9 en10 en11 en12 en13 en14 en15 en16 en17 en18 en19 en20 en21 h0 n0) (T139.setTop (mkF m 59 #[.val (.int p1), .val (.int ((p1 &&& (2147483647 : Int32)) % (22 : Int32))), .val (.ref en21), .unset] []))
    refine Go.step (fun _ k => XS.iconst X139.here hx rfl (hb hby at_59) k) ?_
    show Go FrameEnd p e below s 0 0 (Q0 Z p1 en0 en1 en2 en3 en4 en5 en6 en7 en8 en9 en10 en11 en12 en13 en14 en15 en16 en17 en18 en19 en20 en21 h0 n0) (T139.setTop (mkF m 60 #[.val (.int p1), .val (.int ((p1 &&& (2147483647 : Int32)) % (22 : Int32))), .val (.ref en21), .unset] [(.int (0 : Int32))]))
    refine Go.step (fun _ k => XS.istoreN X139.here hx rfl (hb hby at_60) rfl (l' := #[.val (.int p1), .val (.int ((p1 &&& (2147483647 : Int32)) % (22 : Int32))), .val (.ref en21), .val (.int (0 : Int32))]) rfl k) ?_
    show Go FrameEnd p e below s 0 0 (Q0 Z p1 en0 en1 en2 en3 en4 en5 en6 en7 en8 en9 en10 en11 en12 en13 en14 en15 en16 en17 en18 en19 en20 en21 h0 n0) (T139.setTop (mkF m 61 #[.val (.int p1), .val (.int ((p1 &&& (2147483647 : Int32)) % (22 : Int32))), .val (.ref en21), .val (.int (0 : Int32))] []))
    refine Go.step (fun _ k => XS.aloadN X139.here hx rfl (hb hby at_61) rfl rfl k) ?_
    show Go FrameEnd p e below s 0 0 (Q0 Z p1 en0 en1 en2 en3 en4 en5 en6 en7 en8 en9 en10 en11 en12 en13 en14 en15 en16 en17 en18 en19 en20 en21 h0 n0) (T139.setTop (mkF m 62 #[.val (.int p1), .val (.int ((p1 &&& (2147483647 : Int32)) % (22 : Int32))), .val (.ref en21), .val (.int (0 : Int32))] [(.ref en21)]))
    obtain ⟨cq140, kq140, q140a, q140b, q140c⟩ := isOf hZ e139 E21
    obtain ⟨_, _, ⟨T140, L140, k140, n140⟩, -, X140, ⟨Lc140, hQ140, l140, y140, z140⟩, st140⟩ := X139.virtualBack hx (y := (⟨"deckmill/Card", "asksChoice", "()Z"⟩ : MethodName)) (z := (⟨"deckmill/Card", "asksChoice", "()Z"⟩ : MethodName)) hown (mvT hZ (hw _ (List.mem_of_getElem? (i := 20) rfl))) (mvT hZ (hw _ (List.mem_of_getElem? (i := 21) rfl))) (notFace_of_selects (args := #[]) (mvT hZ (hw _ (List.mem_of_getElem? (i := 23) rfl)))) (mvT hZ (hw _ (List.mem_of_getElem? (i := 23) rfl))) (mvT hZ (hw _ (List.mem_of_getElem? (i := 22) rfl))) (by decide) (backOf (W := 0) (rm2n l Z a0 hw [] en21  h0 C21) hZ (hw _ (List.mem_of_getElem? (i := 24) rfl)) (hw _ (List.mem_of_getElem? (i := 6) rfl)) (by decide) (by decide)) q140a q140c (g := (mkF m 62 #[.val (.int p1), .val (.int ((p1 &&& (2147483647 : Int32)) % (22 : Int32))), .val (.ref en21), .val (.int (0 : Int32))] [(.ref en21)])) rfl (by rw [hml]; rfl) (Steps.refl _) (argsL := []) (rest := []) (lenOf pd___Z rfl) rfl (by show 2 * 0 + _ ≤ _; exact Nat.le_of_eq rfl) (hb hby at_62) (fun _ _ => ⟨rfl, e139, (by decide : 0 + 0 ≤ _), (by decide : 0 + 0 ≤ _)⟩)
    dsimp only [Pt.U, Pt.locs, Pt.cells, Pt.slots] at X140 l140 y140 z140 st140 hQ140
    subst l140 y140 z140
    obtain ⟨rfl, rfl, e140⟩ := hQ140
    have N140 := Fr.app N1 (Fr.nil n0)
    refine Go.hop st140 ?_
    show Go FrameEnd p e below s 0 0 (Q0 Z p1 en0 en1 en2 en3 en4 en5 en6 en7 en8 en9 en10 en11 en12 en13 en14 en15 en16 en17 en18 en19 en20 en21 h0 n0) (T140.setTop (mkF m 65 #[.val (.int p1), .val (.int ((p1 &&& (2147483647 : Int32)) % (22 : Int32))), .val (.ref en21), .val (.int (0 : Int32))] [(.int (0 : Int32))]))
    refine Go.step (fun _ k => XS.iloadN X140.here hx rfl (hb hby at_65) rfl k) ?_
    show Go FrameEnd p e below s 0 0 (Q0 Z p1 en0 en1 en2 en3 en4 en5 en6 en7 en8 en9 en10 en11 en12 en13 en14 en15 en16 en17 en18 en19 en20 en21 h0 n0) (T140.setTop (mkF m 66 #[.val (.int p1), .val (.int ((p1 &&& (2147483647 : Int32)) % (22 : Int32))), .val (.ref en21), .val (.int (0 : Int32))] [(.int (0 : Int32)), (.int (0 : Int32))]))
    refine Go.step (fun _ k => XS.icmpNo X140.here hx rfl (hb hby at_66) rfl (teq rfl).2 k) ?_
    show Go FrameEnd p e below s 0 0 (Q0 Z p1 en0 en1 en2 en3 en4 en5 en6 en7 en8 en9 en10 en11 en12 en13 en14 en15 en16 en17 en18 en19 en20 en21 h0 n0) (T140.setTop (mkF m 69 #[.val (.int p1), .val (.int ((p1 &&& (2147483647 : Int32)) % (22 : Int32))), .val (.ref en21), .val (.int (0 : Int32))] []))
    refine Go.step (fun _ k => XS.iconst X140.here hx rfl (hb hby at_69) k) ?_
    show Go FrameEnd p e below s 0 0 (Q0 Z p1 en0 en1 en2 en3 en4 en5 en6 en7 en8 en9 en10 en11 en12 en13 en14 en15 en16 en17 en18 en19 en20 en21 h0 n0) (T140.setTop (mkF m 70 #[.val (.int p1), .val (.int ((p1 &&& (2147483647 : Int32)) % (22 : Int32))), .val (.ref en21), .val (.int (0 : Int32))] [(.int (1 : Int32))]))
    refine Go.step (fun _ k => XS.goto X140.here hx rfl (pc0 := 70) (pc' := 74) rfl (hb hby at_70) (by decide) (by decide) k) ?_
    show Go FrameEnd p e below s 0 0 (Q0 Z p1 en0 en1 en2 en3 en4 en5 en6 en7 en8 en9 en10 en11 en12 en13 en14 en15 en16 en17 en18 en19 en20 en21 h0 n0) (T140.setTop (mkF m 74 #[.val (.int p1), .val (.int ((p1 &&& (2147483647 : Int32)) % (22 : Int32))), .val (.ref en21), .val (.int (0 : Int32))] [(.int (1 : Int32))]))
    refine Go.retN X140 hx (t := .boolean) Bd.returns (by simp) (by decide) (hb hby at_74) (BodyLoose.notSynchronized Bd) e140 (by decide) (by decide) ?_
    exact ⟨rfl, N140⟩
set_option maxRecDepth 65536 in
set_option maxHeartbeats 40000000 in
theorem comes_1 {Post : Tables → Env → Array Value → State → Outcome → State → Prop} (hpost : ∀ tb e args s v u, (limb_1_1.after args s (.returned v) u = true ∧ limb_1_2.after args s (.returned v) u = true ∧ True) → FrameEnd s (.returned v) u (Jvm.fieldLocs frame_1_writes args s ++ Jvm.arrayLocs frame_1_arrays args s ++ Jvm.staticLocs frame_1_statics s) 0 0 → Post tb e args s (.returned v) u) :
    ArmFor flags0 classFile x code maxLocals ret World_1 tables_1 room_1 Calls_1 rest_1 Pre_1 Post := by
  intro l hfl _ _ p e ha hc hk s m args below hf hA hF happ hP
  obtain ⟨hcalls, hrest, hpre⟩ := hP
  obtain ⟨-, -, -, hnamed, -, -, -, hat⟩ := (Spec.applies_iff hf).mp happ
  obtain ⟨hg, hn⟩ := and_e (Cond.before_iff.mp (show (Jvm.Cond.and given_1 narrow_1).before args s = true from hpre))
  obtain ⟨h1, h2⟩ := and_e hg
  obtain ⟨w0, rfl⟩ : ∃ w0 : Value, args = #[w0] := by
    have hs : args.size = 1 := by simpa [Cond.value, given_1] using h1
    obtain ⟨L⟩ := args
    match L, hs with
    | [w0], _ => exact ⟨w0, rfl⟩
  have hw := fun d (hd : d ∈ tables_1) => atoms_spec (ws := Jvm.Cond.code x code maxLocals ret :: tables_1) hat d (List.mem_cons_of_mem _ hd)
  have hfit : Fit s := fun {y c} hc i hi => by
    obtain ⟨ha, rfl⟩ := Array.getElem?_eq_some_iff.mp hc
    have q := List.all_eq_true.mp ((Array.all_eq_true_iff_forall_mem.mp hF) _ (Array.getElem_mem ha)) i (List.mem_range.mpr hi)
    simpa [Array.getElem?_eq_getElem hi] using q
  obtain ⟨i0, q0⟩ := is_v h2
  obtain rfl : w0 = (.int i0) := Option.some.inj q0
  obtain ⟨k0, m0⟩ := and_e hn
  obtain ⟨k1, m1⟩ := and_e m0
  obtain ⟨k2, m2⟩ := and_e m1
  obtain ⟨k3, m3⟩ := and_e m2
  obtain ⟨k4, m4⟩ := and_e m3
  obtain ⟨k5, m5⟩ := and_e m4
  obtain ⟨k6, m6⟩ := and_e m5
  obtain ⟨k7, m7⟩ := and_e m6
  obtain ⟨k8, m8⟩ := and_e m7
  obtain ⟨k9, m9⟩ := and_e m8
  obtain ⟨k10, m10⟩ := and_e m9
  obtain ⟨k11, m11⟩ := and_e m10
  obtain ⟨k12, m12⟩ := and_e m11
  obtain ⟨k13, m13⟩ := and_e m12
  obtain ⟨k14, m14⟩ := and_e m13
  obtain ⟨k15, m15⟩ := and_e m14
  obtain ⟨k16, m16⟩ := and_e m15
  obtain ⟨k17, m17⟩ := and_e m16
  obtain ⟨k18, m18⟩ := and_e m17
  obtain ⟨k19, m19⟩ := and_e m18
  obtain ⟨k20, m20⟩ := and_e m19
  obtain ⟨k21, m21⟩ := and_e m20
  obtain ⟨k22, m22⟩ := and_e m21
  obtain ⟨k23, m23⟩ := and_e m22
  obtain ⟨k24, m24⟩ := and_e m23
  obtain ⟨k25, m25⟩ := and_e m24
  obtain ⟨k26, m26⟩ := and_e m25
  obtain ⟨k27, m27⟩ := and_e m26
  obtain ⟨k28, m28⟩ := and_e m27
  obtain ⟨k29, m29⟩ := and_e m28
  obtain ⟨k30, m30⟩ := and_e m29
  obtain ⟨k31, m31⟩ := and_e m30
  obtain ⟨k32, m32⟩ := and_e m31
  obtain ⟨k33, m33⟩ := and_e m32
  obtain ⟨k34, m34⟩ := and_e m33
  obtain ⟨k35, m35⟩ := and_e m34
  obtain ⟨k36, m36⟩ := and_e m35
  obtain ⟨k37, m37⟩ := and_e m36
  obtain ⟨k38, m38⟩ := and_e m37
  obtain ⟨k39, m39⟩ := and_e m38
  obtain ⟨k40, m40⟩ := and_e m39
  obtain ⟨k41, m41⟩ := and_e m40
  obtain ⟨k42, m42⟩ := and_e m41
  obtain ⟨k43, m43⟩ := and_e m42
  obtain ⟨k44, m44⟩ := and_e m43
  obtain ⟨k45, m45⟩ := and_e m44
  obtain ⟨k46, m46⟩ := and_e m45
  obtain ⟨k47, m47⟩ := and_e m46
  obtain ⟨k48, m48⟩ := and_e m47
  obtain ⟨k49, m49⟩ := and_e m48
  obtain ⟨k50, m50⟩ := and_e m49
  obtain ⟨k51, m51⟩ := and_e m50
  obtain ⟨k52, m52⟩ := and_e m51
  obtain ⟨k53, m53⟩ := and_e m52
  obtain ⟨k54, m54⟩ := and_e m53
  obtain ⟨k55, m55⟩ := and_e m54
  obtain ⟨k56, m56⟩ := and_e m55
  obtain ⟨k57, m57⟩ := and_e m56
  obtain ⟨k58, m58⟩ := and_e m57
  obtain ⟨k59, m59⟩ := and_e m58
  obtain ⟨k60, m60⟩ := and_e m59
  obtain ⟨k61, m61⟩ := and_e m60
  obtain ⟨k62, m62⟩ := and_e m61
  obtain ⟨k63, m63⟩ := and_e m62
  obtain ⟨k64, m64⟩ := and_e m63
  obtain ⟨en0, t0, E0, F0⟩ := own_enum k0 k2
  have S0 := Sta.start t0 (Or.inr ⟨(hw _ (List.mem_of_getElem? (i := 6) rfl)), (hw _ (List.mem_of_getElem? (i := 7) rfl))⟩)
  obtain ⟨en1, t1, E1, F1⟩ := own_enum k33 k34
  have S1 := Sta.start t1 (Or.inr ⟨(hw _ (List.mem_of_getElem? (i := 6) rfl)), (hw _ (List.mem_of_getElem? (i := 40) rfl))⟩)
  obtain ⟨en2, t2, E2, F2⟩ := own_enum k24 k25
  have S2 := Sta.start t2 (Or.inr ⟨(hw _ (List.mem_of_getElem? (i := 6) rfl)), (hw _ (List.mem_of_getElem? (i := 34) rfl))⟩)
  obtain ⟨en3, t3, E3, F3⟩ := own_enum k15 k16
  have S3 := Sta.start t3 (Or.inr ⟨(hw _ (List.mem_of_getElem? (i := 6) rfl)), (hw _ (List.mem_of_getElem? (i := 28) rfl))⟩)
  obtain ⟨en4, t4, E4, F4⟩ := own_enum k51 k52
  have S4 := Sta.start t4 (Or.inr ⟨(hw _ (List.mem_of_getElem? (i := 6) rfl)), (hw _ (List.mem_of_getElem? (i := 50) rfl))⟩)
  obtain ⟨en5, t5, E5, F5⟩ := own_enum k39 k40
  have S5 := Sta.start t5 (Or.inr ⟨(hw _ (List.mem_of_getElem? (i := 6) rfl)), (hw _ (List.mem_of_getElem? (i := 44) rfl))⟩)
  obtain ⟨en6, t6, E6, F6⟩ := own_enum k43 k44
  have S6 := Sta.start t6 (Or.inr ⟨(hw _ (List.mem_of_getElem? (i := 6) rfl)), (hw _ (List.mem_of_getElem? (i := 46) rfl))⟩)
  obtain ⟨en7, t7, E7, F7⟩ := own_enum k18 k19
  have S7 := Sta.start t7 (Or.inr ⟨(hw _ (List.mem_of_getElem? (i := 6) rfl)), (hw _ (List.mem_of_getElem? (i := 30) rfl))⟩)
  obtain ⟨en8, t8, E8, F8⟩ := own_enum k21 k22
  have S8 := Sta.start t8 (Or.inr ⟨(hw _ (List.mem_of_getElem? (i := 6) rfl)), (hw _ (List.mem_of_getElem? (i := 32) rfl))⟩)
  obtain ⟨en9, t9, E9, F9⟩ := own_enum k36 k37
  have S9 := Sta.start t9 (Or.inr ⟨(hw _ (List.mem_of_getElem? (i := 6) rfl)), (hw _ (List.mem_of_getElem? (i := 42) rfl))⟩)
  obtain ⟨en10, t10, E10, F10⟩ := own_enum k30 k31
  have S10 := Sta.start t10 (Or.inr ⟨(hw _ (List.mem_of_getElem? (i := 6) rfl)), (hw _ (List.mem_of_getElem? (i := 38) rfl))⟩)
  obtain ⟨en11, t11, E11, F11⟩ := own_enum k27 k28
  have S11 := Sta.start t11 (Or.inr ⟨(hw _ (List.mem_of_getElem? (i := 6) rfl)), (hw _ (List.mem_of_getElem? (i := 36) rfl))⟩)
  obtain ⟨en12, t12, E12, F12⟩ := own_enum k58 k59
  have S12 := Sta.start t12 (Or.inr ⟨(hw _ (List.mem_of_getElem? (i := 6) rfl)), (hw _ (List.mem_of_getElem? (i := 54) rfl))⟩)
  obtain ⟨en13, t13, E13, F13⟩ := own_enum k1 k3
  have S13 := Sta.start t13 (Or.inr ⟨(hw _ (List.mem_of_getElem? (i := 6) rfl)), (hw _ (List.mem_of_getElem? (i := 9) rfl))⟩)
  obtain ⟨x13, y13⟩ := exa_v k61
  obtain ⟨en14, t14, E14, F14⟩ := own_enum k4 k5
  have S14 := Sta.start t14 (Or.inr ⟨(hw _ (List.mem_of_getElem? (i := 6) rfl)), (hw _ (List.mem_of_getElem? (i := 11) rfl))⟩)
  obtain ⟨x14, y14⟩ := exa_v k57
  obtain ⟨en15, t15, E15, F15⟩ := own_enum k6 k7
  have S15 := Sta.start t15 (Or.inr ⟨(hw _ (List.mem_of_getElem? (i := 6) rfl)), (hw _ (List.mem_of_getElem? (i := 13) rfl))⟩)
  obtain ⟨x15, y15⟩ := exa_v k50
  obtain ⟨en16, t16, E16, F16⟩ := own_enum k8 k9
  have S16 := Sta.start t16 (Or.inr ⟨(hw _ (List.mem_of_getElem? (i := 6) rfl)), (hw _ (List.mem_of_getElem? (i := 15) rfl))⟩)
  obtain ⟨x16, y16⟩ := exa_v k42
  obtain ⟨en17, t17, E17, F17⟩ := own_enum k10 k11
  have S17 := Sta.start t17 (Or.inr ⟨(hw _ (List.mem_of_getElem? (i := 6) rfl)), (hw _ (List.mem_of_getElem? (i := 17) rfl))⟩)
  obtain ⟨x17, y17⟩ := exa_v k62
  obtain ⟨en18, t18, E18, F18⟩ := own_enum k12 k13
  have S18 := Sta.start t18 (Or.inr ⟨(hw _ (List.mem_of_getElem? (i := 6) rfl)), (hw _ (List.mem_of_getElem? (i := 19) rfl))⟩)
  obtain ⟨x18, y18⟩ := exa_v k49
  obtain ⟨en19, t19, E19, F19⟩ := own_enum k46 k47
  have S19 := Sta.start t19 (Or.inr ⟨(hw _ (List.mem_of_getElem? (i := 6) rfl)), (hw _ (List.mem_of_getElem? (i := 48) rfl))⟩)
  obtain ⟨en20, t20, E20, F20⟩ := own_enum k63 k64
  have S20 := Sta.start t20 (Or.inr ⟨(hw _ (List.mem_of_getElem? (i := 6) rfl)), (hw _ (List.mem_of_getElem? (i := 56) rfl))⟩)
  obtain ⟨en21, t21, E21, F21⟩ := own_enum k54 k55
  have S21 := Sta.start t21 (Or.inr ⟨(hw _ (List.mem_of_getElem? (i := 6) rfl)), (hw _ (List.mem_of_getElem? (i := 52) rfl))⟩)
  have hC : Cards s s.heap en0 en1 en2 en3 en4 en5 en6 en7 en8 en9 en10 en11 en12 en13 en14 en15 en16 en17 en18 en19 en20 en21 := ⟨⟨S0, E0, F0, Fld.start (by rw [← fld_at t0]; exact null_v k14)⟩, ⟨S1, E1, F1, Fld.start (by rw [← fld_at t1]; exact null_v k35)⟩, ⟨S2, E2, F2, Fld.start (by rw [← fld_at t2]; exact null_v k26)⟩, ⟨S3, E3, F3, Fld.start (by rw [← fld_at t3]; exact null_v k17)⟩, ⟨S4, E4, F4, Fld.start (by rw [← fld_at t4]; exact null_v k53)⟩, ⟨S5, E5, F5, Fld.start (by rw [← fld_at t5]; exact null_v k41)⟩, ⟨S6, E6, F6, Fld.start (by rw [← fld_at t6]; exact null_v k45)⟩, ⟨S7, E7, F7, Fld.start (by rw [← fld_at t7]; exact null_v k20)⟩, ⟨S8, E8, F8, Fld.start (by rw [← fld_at t8]; exact null_v k23)⟩, ⟨S9, E9, F9, Fld.start (by rw [← fld_at t9]; exact null_v k38)⟩, ⟨S10, E10, F10, Fld.start (by rw [← fld_at t10]; exact null_v k32)⟩, ⟨S11, E11, F11, Fld.start (by rw [← fld_at t11]; exact null_v k29)⟩, ⟨S12, E12, F12, Fld.start (by rw [← fld_at t12]; exact null_v k60)⟩, ⟨S13, E13, F13, ⟨x13, Fld.start (by rw [← fld_at t13]; exact y13)⟩⟩, ⟨S14, E14, F14, ⟨x14, Fld.start (by rw [← fld_at t14]; exact y14)⟩⟩, ⟨S15, E15, F15, ⟨x15, Fld.start (by rw [← fld_at t15]; exact y15)⟩⟩, ⟨S16, E16, F16, ⟨x16, Fld.start (by rw [← fld_at t16]; exact y16)⟩⟩, ⟨S17, E17, F17, ⟨x17, Fld.start (by rw [← fld_at t17]; exact y17)⟩⟩, ⟨S18, E18, F18, ⟨x18, Fld.start (by rw [← fld_at t18]; exact y18)⟩⟩, ⟨S19, E19, F19, Fld.start (by rw [← fld_at t19]; exact null_v k48)⟩, ⟨S20, E20, F20, Fld.start (by rw [← fld_at t20]; exact null_v m64)⟩, ⟨S21, E21, F21, Fld.start (by rw [← fld_at t21]; exact null_v k56)⟩⟩
  obtain ⟨n, o, h1, h2, h3, _, L, rfl, ⟨rfl, N⟩, hq⟩ := rm0 l s _ hw tables_1 i0 en0 en1 en2 en3 en4 en5 en6 en7 en8 en9 en10 en11 en12 en13 en14 en15 en16 en17 en18 en19 en20 en21 s.heap s.heap.size (Nat.le_refl _) hC p e ha hc hk s m _ below hf ((Spec.applies_iff_loose hf).mp happ).1 ⟨rfl, State.Warmed39.refl s, rfl⟩ trivial
  refine ⟨n, _, h1, h2, h3, hpost _ _ _ _ _ _ ⟨Cond.after_iff.mpr rfl, Cond.after_iff.mpr (eq_i res_at (Term.int_eval (1)) rfl), trivial⟩ ⟨hq.1, hq.2.1, (hq.2.2.sift fun y hy => Or.inr (N y hy)).mono (by decide) (by decide)⟩⟩
theorem main_1_1 : Claimed_1_1 := comes_1 fun _ _ _ _ _ _ h hF => ⟨h.1, hF⟩
theorem main_1_2 : Claimed_1_2 := comes_1 fun _ _ _ _ _ _ h hF => ⟨h.2.1, hF⟩
end Jvm.Pilot.@@N@@
namespace Jvm.Pilot.@@N@@
open Jvm Jvm.ClassFile Sem Op Lib Jvm.Free Jvm.Stand Jvm.Pilot.@@N@@.Jvm.D
/-! MADE BY PROGRAM (witnessworld.py) out of the Statement's table words and the real class files: 14 classes; the members and pool entries that the words name. The judged class is class 1, her method 2. -/
namespace start1
open Jvm.ClassFile
def u (s : String) : CpInfo := .utf8 (stringToUtf16 s)
/-- a pool by its gaps: so many unusable entries, then the entry; so many at the end -/
def gap : Nat → List CpInfo → List CpInfo
  | 0, r => r
  | n + 1, r => .unusable :: gap n r
def poolList (es : List (Nat × CpInfo)) (last : Nat) : List CpInfo := es.foldr (fun e r => gap e.1 (e.2 :: r)) (gap last [])
def pool (es : List (Nat × CpInfo)) (last : Nat) : Array CpInfo := ⟨poolList es last⟩
def fileOf (pool : Array CpInfo) (this : Nat) (attrs : Array Attribute := #[]) (ms : Array MethodInfo := #[]) (fl : Nat := 33) (sup : Nat := 0) (ifs : Array Nat := #[]) (fds : Array FieldInfo := #[]) : ClassFile where
  minorVersion := 0
  majorVersion := 65
  constantPool := pool
  accessFlags := fl
  thisClass := this
  superClass := sup
  interfaces := ifs
  fields := fds
  methods := ms
  attributes := attrs
def plain (name : String) (sup : Option ClassId) : Class where
  name := name
  kind := .ordinary
  loader := none
  accessFlags := 33
  super := sup
  interfaces := #[]
  cf := none
  fields := #[]
  methods := #[]
  instanceTypes := #[]
  staticTypes := #[]
  resolved := #[]
  callSites := []
  init := .initialized
  statics := none
  mirror := none

def pool0 : Array CpInfo := pool [(5, u "<init>"), (0, u "()V"), (1, .class_ 10), (1, u "java/lang/Object")] 113

def k0m0 : Method := { name := "<init>", desc := "()V", sig := { parameters := [], returnType := none }, accessFlags := 1, code := none }
/-- java/lang/Object -/
def k0 : Class := { plain "java/lang/Object" none with
  accessFlags := 33
  interfaces := #[]
  cf := some (fileOf pool0 8 #[] #[{ accessFlags := 1, nameIndex := 5, descriptorIndex := 6, attributes := #[] }] 33 0 #[] #[])
  fields := #[]
  methods := #[k0m0]
  instanceTypes := #[]
  staticTypes := #[]
  resolved := Array.replicate 124 none
  statics := none }

def pool1 : Array CpInfo := pool [(2, .class_ 4), (1, u "java/lang/Object"), (0, u "<init>"), (0, u "()V"), (0, .fieldref 8 9), (0, .class_ 10), (0, .nameAndType 11 12), (0, u "deckmill/Card"), (0, u "COPPER"), (0, u "Ldeckmill/Card;"), (0, .fieldref 8 14), (0, .nameAndType 15 12), (0, u "SILVER"), (0, .fieldref 8 17), (0, .nameAndType 18 12), (0, u "GOLD"), (0, .fieldref 8 20), (0, .nameAndType 21 12), (0, u "ESTATE"), (0, .fieldref 8 23), (0, .nameAndType 24 12), (0, u "DUCHY"), (0, .fieldref 8 26), (0, .nameAndType 27 12), (0, u "PROVINCE"), (0, .fieldref 8 29), (0, .nameAndType 30 12), (0, u "CURSE"), (0, .fieldref 8 32), (0, .nameAndType 33 12), (0, u "VILLAGE"), (0, .fieldref 8 35), (0, .nameAndType 36 12), (0, u "SMITHY"), (0, .fieldref 8 38), (0, .nameAndType 39 12), (0, u "LABORATORY"), (0, .fieldref 8 41), (0, .nameAndType 42 12), (0, u "MARKET"), (0, .fieldref 8 44), (0, .nameAndType 45 12), (0, u "FESTIVAL"), (0, .fieldref 8 47), (0, .nameAndType 48 12), (0, u "COUNCIL_ROOM"), (0, .fieldref 8 50), (0, .nameAndType 51 12), (0, u "CELLAR"), (0, .fieldref 8 53), (0, .nameAndType 54 12), (0, u "CHAPEL"), (0, .fieldref 8 56), (0, .nameAndType 57 12), (0, u "WORKSHOP"), (0, .fieldref 8 59), (0, .nameAndType 60 12), (0, u "MONEYLENDER"), (0, .fieldref 8 62), (0, .nameAndType 63 12), (0, u "REMODEL"), (0, .fieldref 8 65), (0, .nameAndType 66 12), (0, u "MINE"), (0, .fieldref 8 68), (0, .nameAndType 69 12), (0, u "MILITIA"), (0, .fieldref 8 71), (0, .nameAndType 72 12), (0, u "WITCH"), (0, .fieldref 8 74), (0, .nameAndType 75 12), (0, u "MOAT"), (0, .integer 2147483647), (0, .methodref 78 79), (0, .class_ 80), (0, .nameAndType 81 82), (0, u "deckmill/CardAsksChoicePinLaw"), (0, u "pick"), (0, u "(I)Ldeckmill/Card;"), (0, .methodref 8 84), (0, .nameAndType 85 86), (0, u "asksChoice"), (0, u "()Z"), (3, u "law"), (0, u "(I)Z")] 2

def k1m0 : Method := { name := "<init>", desc := "()V", sig := { parameters := [], returnType := none }, accessFlags := 2, code := none }
def k1c1 : Code := { maxStack := 2, maxLocals := 1, code := method_2_code, exceptionTable := #[], attributes := #[] }
def k1m1 : Method := { name := "pick", desc := "(I)Ldeckmill/Card;", sig := { parameters := [.int], returnType := some (.object "deckmill/Card") }, accessFlags := 10, code := some k1c1 }
def k1c2 : Code := { maxStack := 2, maxLocals := 4, code := code, exceptionTable := #[], attributes := #[] }
def k1m2 : Method := { name := "law", desc := "(I)Z", sig := { parameters := [.int], returnType := some .boolean }, accessFlags := 9, code := some k1c2 }
/-- deckmill/CardAsksChoicePinLaw -/
def k1 : Class := { plain "deckmill/CardAsksChoicePinLaw" (some 0) with
  accessFlags := 49
  interfaces := #[]
  cf := some (fileOf pool1 78 #[] #[{ accessFlags := 2, nameIndex := 5, descriptorIndex := 6, attributes := #[] }, { accessFlags := 10, nameIndex := 81, descriptorIndex := 82, attributes := #[] }, { accessFlags := 9, nameIndex := 90, descriptorIndex := 91, attributes := #[] }] 49 2 #[] #[])
  fields := #[]
  methods := #[k1m0, k1m1, k1m2]
  instanceTypes := #[]
  staticTypes := #[]
  resolved := Array.replicate 94 none
  statics := none }

def pool2 : Array CpInfo := pool [(1, .class_ 2), (0, u "java/lang/constant/Constable"), (0, .class_ 4), (0, u "java/lang/Object")] 6

/-- java/lang/constant/Constable -/
def k2 : Class := { plain "java/lang/constant/Constable" (some 0) with
  accessFlags := 1537
  interfaces := #[]
  cf := some (fileOf pool2 1 #[] #[] 1537 3 #[] #[])
  fields := #[]
  methods := #[]
  instanceTypes := #[]
  staticTypes := #[]
  resolved := Array.replicate 11 none
  statics := none }

def pool3 : Array CpInfo := pool [(1, .class_ 2), (0, u "java/lang/Comparable"), (0, .class_ 4), (0, u "java/lang/Object")] 7

/-- java/lang/Comparable -/
def k3 : Class := { plain "java/lang/Comparable" (some 0) with
  accessFlags := 1537
  interfaces := #[]
  cf := some (fileOf pool3 1 #[] #[] 1537 3 #[] #[])
  fields := #[]
  methods := #[]
  instanceTypes := #[]
  staticTypes := #[]
  resolved := Array.replicate 12 none
  statics := none }

def pool4 : Array CpInfo := pool [(1, .class_ 2), (0, u "java/io/Serializable"), (0, .class_ 4), (0, u "java/lang/Object")] 2

/-- java/io/Serializable -/
def k4 : Class := { plain "java/io/Serializable" (some 0) with
  accessFlags := 1537
  interfaces := #[]
  cf := some (fileOf pool4 1 #[] #[] 1537 3 #[] #[])
  fields := #[]
  methods := #[]
  instanceTypes := #[]
  staticTypes := #[]
  resolved := Array.replicate 7 none
  statics := none }

def pool5 : Array CpInfo := pool [(2, .class_ 4), (1, u "java/lang/Enum"), (0, u "name"), (0, u "Ljava/lang/String;"), (2, u "ordinal"), (0, u "I"), (1, .class_ 14), (1, u "java/lang/Object"), (4, u "hash"), (86, .class_ 108), (1, u "java/lang/Enum$EnumDesc"), (2, .class_ 112), (0, u "java/lang/constant/Constable"), (0, .class_ 114), (0, u "java/lang/Comparable"), (0, .class_ 116), (0, u "java/io/Serializable")] 87

/-- java/lang/Enum -/
def k5 : Class := { plain "java/lang/Enum" (some 0) with
  accessFlags := 1057
  interfaces := #[2, 3, 4]
  cf := some (fileOf pool5 2 #[.nestMembers #[106]] #[] 1057 12 #[111, 113, 115] #[{ accessFlags := 18, nameIndex := 5, descriptorIndex := 6, attributes := #[] }, { accessFlags := 18, nameIndex := 9, descriptorIndex := 10, attributes := #[] }, { accessFlags := 2, nameIndex := 19, descriptorIndex := 10, attributes := #[] }])
  fields := #[{ name := "name", type := (.object "java/lang/String"), accessFlags := 18, slot := 0, constantValue := 0 }, { name := "ordinal", type := .int, accessFlags := 18, slot := 1, constantValue := 0 }, { name := "hash", type := .int, accessFlags := 2, slot := 2, constantValue := 0 }]
  methods := #[]
  instanceTypes := #[(.object "java/lang/String"), .int, .int]
  staticTypes := #[]
  resolved := Array.replicate 204 none
  statics := none }

def pool6 : Array CpInfo := pool [(1, .class_ 2), (0, u "deckmill/Card"), (2, u "COPPER"), (0, u "Ldeckmill/Card;"), (2, u "SILVER"), (2, u "GOLD"), (2, u "ESTATE"), (2, u "DUCHY"), (2, u "PROVINCE"), (2, u "CURSE"), (2, u "VILLAGE"), (2, u "SMITHY"), (2, u "LABORATORY"), (2, u "MARKET"), (2, u "FESTIVAL"), (2, u "COUNCIL_ROOM"), (2, u "CELLAR"), (2, u "CHAPEL"), (2, u "WORKSHOP"), (2, u "MONEYLENDER"), (2, u "REMODEL"), (2, u "MINE"), (2, u "MILITIA"), (2, u "WITCH"), (2, u "MOAT"), (2, u "$VALUES"), (0, u "[Ldeckmill/Card;"), (6, .class_ 82), (1, u "java/lang/Enum"), (3, .class_ 88), (1, u "deckmill/Card$Bonus"), (1, u "Ldeckmill/Card$Bonus;"), (1, .class_ 94), (1, u "deckmill/Card$Effect"), (0, u "Ldeckmill/Card$Effect;"), (11, .class_ 109), (1, u "deckmill/Card$Kind"), (1, u "Ldeckmill/Card$Kind;"), (5, u "kind"), (2, u "cost"), (0, u "I"), (2, u "coins"), (2, u "victoryPoints"), (2, u "pile"), (2, u "base"), (0, u "Z"), (2, u "bonus"), (2, u "effect"), (0, .fieldref 1 142), (0, .nameAndType 143 144), (0, u "choice"), (0, u "Ldeckmill/Card$Choice;"), (2, u "attack"), (0, u "Ldeckmill/Card$Attack;"), (2, u "reaction"), (0, u "Ldeckmill/Card$Reaction;"), (12, u "text"), (0, u "Ljava/lang/String;"), (2, u "BY_NAME"), (0, u "Ljava/util/Map;"), (29, u "()Z"), (4, .class_ 207), (1, u "deckmill/Card$Occasion"), (7, .class_ 217), (1, u "deckmill/Card$Choice"), (3, .class_ 222), (0, u "deckmill/Card$Attack"), (1, .class_ 225), (0, u "deckmill/Card$Reaction"), (10, .class_ 237), (0, u "deckmill/Card$1"), (67, .class_ 307), (1, u "deckmill/Card$View"), (28, .class_ 338), (1, u "deckmill/Card$Cards"), (23, u "CHEAPEST_FIRST"), (0, u "Ljava/util/Comparator;"), (29, .class_ 395), (1, u "deckmill/Card$Table"), (137, u "KINGDOM_PILE"), (2, u "CHAPEL_TRASHES"), (1, u "WORKSHOP_COST"), (0, u "MONEYLENDER_COINS"), (1, u "REMODEL_MORE"), (1, u "MINE_MORE"), (0, u "MILITIA_HAND"), (2, u "ATTACK"), (18, u "asksChoice"), (50, .class_ 618), (0, u "deckmill/Card$OrderedView")] 102

def k6c0 : Code := { maxStack := 1, maxLocals := 1, code := prog_1_method_19_code, exceptionTable := #[], attributes := #[] }
def k6m0 : Method := { name := "asksChoice", desc := "()Z", sig := { parameters := [], returnType := some .boolean }, accessFlags := 0, code := some k6c0 }
/-- deckmill/Card -/
def k6 : Class := { plain "deckmill/Card" (some 5) with
  accessFlags := 16433
  interfaces := #[]
  cf := some (fileOf pool6 1 #[.nestMembers #[224, 221, 215, 393, 336, 617, 305, 92, 205, 86, 107, 236]] #[{ accessFlags := 0, nameIndex := 566, descriptorIndex := 200, attributes := #[] }] 16433 80 #[] #[{ accessFlags := 16409, nameIndex := 5, descriptorIndex := 6, attributes := #[] }, { accessFlags := 16409, nameIndex := 9, descriptorIndex := 6, attributes := #[] }, { accessFlags := 16409, nameIndex := 12, descriptorIndex := 6, attributes := #[] }, { accessFlags := 16409, nameIndex := 15, descriptorIndex := 6, attributes := #[] }, { accessFlags := 16409, nameIndex := 18, descriptorIndex := 6, attributes := #[] }, { accessFlags := 16409, nameIndex := 21, descriptorIndex := 6, attributes := #[] }, { accessFlags := 16409, nameIndex := 24, descriptorIndex := 6, attributes := #[] }, { accessFlags := 16409, nameIndex := 27, descriptorIndex := 6, attributes := #[] }, { accessFlags := 16409, nameIndex := 30, descriptorIndex := 6, attributes := #[] }, { accessFlags := 16409, nameIndex := 33, descriptorIndex := 6, attributes := #[] }, { accessFlags := 16409, nameIndex := 36, descriptorIndex := 6, attributes := #[] }, { accessFlags := 16409, nameIndex := 39, descriptorIndex := 6, attributes := #[] }, { accessFlags := 16409, nameIndex := 42, descriptorIndex := 6, attributes := #[] }, { accessFlags := 16409, nameIndex := 45, descriptorIndex := 6, attributes := #[] }, { accessFlags := 16409, nameIndex := 48, descriptorIndex := 6, attributes := #[] }, { accessFlags := 16409, nameIndex := 51, descriptorIndex := 6, attributes := #[] }, { accessFlags := 16409, nameIndex := 54, descriptorIndex := 6, attributes := #[] }, { accessFlags := 16409, nameIndex := 57, descriptorIndex := 6, attributes := #[] }, { accessFlags := 16409, nameIndex := 60, descriptorIndex := 6, attributes := #[] }, { accessFlags := 16409, nameIndex := 63, descriptorIndex := 6, attributes := #[] }, { accessFlags := 16409, nameIndex := 66, descriptorIndex := 6, attributes := #[] }, { accessFlags := 16409, nameIndex := 69, descriptorIndex := 6, attributes := #[] }, { accessFlags := 26, nameIndex := 533, descriptorIndex := 121, attributes := #[] }, { accessFlags := 26, nameIndex := 536, descriptorIndex := 121, attributes := #[] }, { accessFlags := 26, nameIndex := 538, descriptorIndex := 121, attributes := #[] }, { accessFlags := 26, nameIndex := 539, descriptorIndex := 121, attributes := #[] }, { accessFlags := 26, nameIndex := 541, descriptorIndex := 121, attributes := #[] }, { accessFlags := 26, nameIndex := 543, descriptorIndex := 121, attributes := #[] }, { accessFlags := 26, nameIndex := 544, descriptorIndex := 121, attributes := #[] }, { accessFlags := 26, nameIndex := 362, descriptorIndex := 363, attributes := #[] }, { accessFlags := 26, nameIndex := 547, descriptorIndex := 166, attributes := #[] }, { accessFlags := 26, nameIndex := 169, descriptorIndex := 170, attributes := #[] }, { accessFlags := 18, nameIndex := 117, descriptorIndex := 111, attributes := #[] }, { accessFlags := 18, nameIndex := 120, descriptorIndex := 121, attributes := #[] }, { accessFlags := 18, nameIndex := 124, descriptorIndex := 121, attributes := #[] }, { accessFlags := 18, nameIndex := 127, descriptorIndex := 121, attributes := #[] }, { accessFlags := 18, nameIndex := 130, descriptorIndex := 121, attributes := #[] }, { accessFlags := 18, nameIndex := 133, descriptorIndex := 134, attributes := #[] }, { accessFlags := 18, nameIndex := 137, descriptorIndex := 90, attributes := #[] }, { accessFlags := 18, nameIndex := 140, descriptorIndex := 95, attributes := #[] }, { accessFlags := 18, nameIndex := 143, descriptorIndex := 144, attributes := #[] }, { accessFlags := 18, nameIndex := 147, descriptorIndex := 148, attributes := #[] }, { accessFlags := 18, nameIndex := 151, descriptorIndex := 152, attributes := #[] }, { accessFlags := 18, nameIndex := 165, descriptorIndex := 166, attributes := #[] }, { accessFlags := 4122, nameIndex := 72, descriptorIndex := 73, attributes := #[] }])
  fields := #[{ name := "COPPER", type := (.object "deckmill/Card"), accessFlags := 16409, slot := 0, constantValue := 0 }, { name := "SILVER", type := (.object "deckmill/Card"), accessFlags := 16409, slot := 1, constantValue := 0 }, { name := "GOLD", type := (.object "deckmill/Card"), accessFlags := 16409, slot := 2, constantValue := 0 }, { name := "ESTATE", type := (.object "deckmill/Card"), accessFlags := 16409, slot := 3, constantValue := 0 }, { name := "DUCHY", type := (.object "deckmill/Card"), accessFlags := 16409, slot := 4, constantValue := 0 }, { name := "PROVINCE", type := (.object "deckmill/Card"), accessFlags := 16409, slot := 5, constantValue := 0 }, { name := "CURSE", type := (.object "deckmill/Card"), accessFlags := 16409, slot := 6, constantValue := 0 }, { name := "VILLAGE", type := (.object "deckmill/Card"), accessFlags := 16409, slot := 7, constantValue := 0 }, { name := "SMITHY", type := (.object "deckmill/Card"), accessFlags := 16409, slot := 8, constantValue := 0 }, { name := "LABORATORY", type := (.object "deckmill/Card"), accessFlags := 16409, slot := 9, constantValue := 0 }, { name := "MARKET", type := (.object "deckmill/Card"), accessFlags := 16409, slot := 10, constantValue := 0 }, { name := "FESTIVAL", type := (.object "deckmill/Card"), accessFlags := 16409, slot := 11, constantValue := 0 }, { name := "COUNCIL_ROOM", type := (.object "deckmill/Card"), accessFlags := 16409, slot := 12, constantValue := 0 }, { name := "CELLAR", type := (.object "deckmill/Card"), accessFlags := 16409, slot := 13, constantValue := 0 }, { name := "CHAPEL", type := (.object "deckmill/Card"), accessFlags := 16409, slot := 14, constantValue := 0 }, { name := "WORKSHOP", type := (.object "deckmill/Card"), accessFlags := 16409, slot := 15, constantValue := 0 }, { name := "MONEYLENDER", type := (.object "deckmill/Card"), accessFlags := 16409, slot := 16, constantValue := 0 }, { name := "REMODEL", type := (.object "deckmill/Card"), accessFlags := 16409, slot := 17, constantValue := 0 }, { name := "MINE", type := (.object "deckmill/Card"), accessFlags := 16409, slot := 18, constantValue := 0 }, { name := "MILITIA", type := (.object "deckmill/Card"), accessFlags := 16409, slot := 19, constantValue := 0 }, { name := "WITCH", type := (.object "deckmill/Card"), accessFlags := 16409, slot := 20, constantValue := 0 }, { name := "MOAT", type := (.object "deckmill/Card"), accessFlags := 16409, slot := 21, constantValue := 0 }, { name := "KINGDOM_PILE", type := .int, accessFlags := 26, slot := 22, constantValue := 0 }, { name := "CHAPEL_TRASHES", type := .int, accessFlags := 26, slot := 23, constantValue := 0 }, { name := "WORKSHOP_COST", type := .int, accessFlags := 26, slot := 24, constantValue := 0 }, { name := "MONEYLENDER_COINS", type := .int, accessFlags := 26, slot := 25, constantValue := 0 }, { name := "REMODEL_MORE", type := .int, accessFlags := 26, slot := 26, constantValue := 0 }, { name := "MINE_MORE", type := .int, accessFlags := 26, slot := 27, constantValue := 0 }, { name := "MILITIA_HAND", type := .int, accessFlags := 26, slot := 28, constantValue := 0 }, { name := "CHEAPEST_FIRST", type := (.object "java/util/Comparator"), accessFlags := 26, slot := 29, constantValue := 0 }, { name := "ATTACK", type := (.object "java/lang/String"), accessFlags := 26, slot := 30, constantValue := 0 }, { name := "BY_NAME", type := (.object "java/util/Map"), accessFlags := 26, slot := 31, constantValue := 0 }, { name := "kind", type := (.object "deckmill/Card$Kind"), accessFlags := 18, slot := 3, constantValue := 0 }, { name := "cost", type := .int, accessFlags := 18, slot := 4, constantValue := 0 }, { name := "coins", type := .int, accessFlags := 18, slot := 5, constantValue := 0 }, { name := "victoryPoints", type := .int, accessFlags := 18, slot := 6, constantValue := 0 }, { name := "pile", type := .int, accessFlags := 18, slot := 7, constantValue := 0 }, { name := "base", type := .boolean, accessFlags := 18, slot := 8, constantValue := 0 }, { name := "bonus", type := (.object "deckmill/Card$Bonus"), accessFlags := 18, slot := 9, constantValue := 0 }, { name := "effect", type := (.object "deckmill/Card$Effect"), accessFlags := 18, slot := 10, constantValue := 0 }, { name := "choice", type := (.object "deckmill/Card$Choice"), accessFlags := 18, slot := 11, constantValue := 0 }, { name := "attack", type := (.object "deckmill/Card$Attack"), accessFlags := 18, slot := 12, constantValue := 0 }, { name := "reaction", type := (.object "deckmill/Card$Reaction"), accessFlags := 18, slot := 13, constantValue := 0 }, { name := "text", type := (.object "java/lang/String"), accessFlags := 18, slot := 14, constantValue := 0 }, { name := "$VALUES", type := (.array (.object "deckmill/Card")), accessFlags := 4122, slot := 32, constantValue := 0 }]
  methods := #[k6m0]
  instanceTypes := #[(.object "java/lang/String"), .int, .int, (.object "deckmill/Card$Kind"), .int, .int, .int, .int, .boolean, (.object "deckmill/Card$Bonus"), (.object "deckmill/Card$Effect"), (.object "deckmill/Card$Choice"), (.object "deckmill/Card$Attack"), (.object "deckmill/Card$Reaction"), (.object "java/lang/String")]
  staticTypes := #[(.object "deckmill/Card"), (.object "deckmill/Card"), (.object "deckmill/Card"), (.object "deckmill/Card"), (.object "deckmill/Card"), (.object "deckmill/Card"), (.object "deckmill/Card"), (.object "deckmill/Card"), (.object "deckmill/Card"), (.object "deckmill/Card"), (.object "deckmill/Card"), (.object "deckmill/Card"), (.object "deckmill/Card"), (.object "deckmill/Card"), (.object "deckmill/Card"), (.object "deckmill/Card"), (.object "deckmill/Card"), (.object "deckmill/Card"), (.object "deckmill/Card"), (.object "deckmill/Card"), (.object "deckmill/Card"), (.object "deckmill/Card"), .int, .int, .int, .int, .int, .int, .int, (.object "java/util/Comparator"), (.object "java/lang/String"), (.object "java/util/Map"), (.array (.object "deckmill/Card"))]
  resolved := Array.replicate 721 none
  statics := some 0 }

def pool7 : Array CpInfo := pool [(2, .class_ 4), (1, u "java/lang/Object"), (0, u "<init>"), (0, u "()V"), (0, .class_ 8), (0, u "java/lang/Record")] 13

def k7m0 : Method := { name := "<init>", desc := "()V", sig := { parameters := [], returnType := none }, accessFlags := 4, code := none }
/-- java/lang/Record -/
def k7 : Class := { plain "java/lang/Record" (some 0) with
  accessFlags := 1057
  interfaces := #[]
  cf := some (fileOf pool7 7 #[] #[{ accessFlags := 4, nameIndex := 5, descriptorIndex := 6, attributes := #[] }] 1057 2 #[] #[])
  fields := #[]
  methods := #[k7m0]
  instanceTypes := #[]
  staticTypes := #[]
  resolved := Array.replicate 22 none
  statics := none }

def pool8 : Array CpInfo := pool [(2, .class_ 4), (1, u "java/lang/Record"), (3, .class_ 10), (1, u "deckmill/Card$Choice"), (0, u "defaults"), (0, u "Ldeckmill/Options;"), (2, u "plan"), (0, u "Ljava/util/function/BiFunction;"), (65, .class_ 83), (0, u "deckmill/Card")] 47

/-- deckmill/Card$Choice -/
def k8 : Class := { plain "deckmill/Card$Choice" (some 7) with
  accessFlags := 48
  interfaces := #[]
  cf := some (fileOf pool8 8 #[.nestHost 82] #[] 48 2 #[] #[{ accessFlags := 18, nameIndex := 11, descriptorIndex := 12, attributes := #[] }, { accessFlags := 18, nameIndex := 15, descriptorIndex := 16, attributes := #[] }])
  fields := #[{ name := "defaults", type := (.object "deckmill/Options"), accessFlags := 18, slot := 0, constantValue := 0 }, { name := "plan", type := (.object "java/util/function/BiFunction"), accessFlags := 18, slot := 1, constantValue := 0 }]
  methods := #[]
  instanceTypes := #[(.object "deckmill/Options"), (.object "java/util/function/BiFunction")]
  staticTypes := #[]
  resolved := Array.replicate 131 none
  statics := none }

def pool9 : Array CpInfo := pool [(1, u "java/lang/Cloneable"), (0, .class_ 1), (0, u "java/lang/Object"), (0, .class_ 3)] 3

/-- java/lang/Cloneable -/
def k9 : Class := { plain "java/lang/Cloneable" (some 0) with
  accessFlags := 1537
  interfaces := #[]
  cf := some (fileOf pool9 2 #[] #[] 1537 4 #[] #[])
  fields := #[]
  methods := #[]
  instanceTypes := #[]
  staticTypes := #[]
  resolved := Array.replicate 8 none
  statics := none }

/-- the primitive byte -/
def k10 : Class := { plain "byte" none with kind := .primitive 'B', accessFlags := 0x411 }
/-- [B -/
def k11 : Class := { plain "[B" (some 0) with kind := .array 10 .byte, interfaces := #[9, 4], accessFlags := 1041 }

/-- the primitive int -/
def k12 : Class := { plain "int" none with kind := .primitive 'I', accessFlags := 0x411 }
/-- [I -/
def k13 : Class := { plain "[I" (some 0) with kind := .array 12 .int, interfaces := #[9, 4], accessFlags := 1041 }

def heap : Heap := #[{ cls := 6, slots := #[.ref 1, .ref 2, .ref 3, .ref 4, .ref 5, .ref 6, .ref 7, .ref 8, .ref 9, .ref 10, .ref 11, .ref 12, .ref 13, .ref 14, .ref 15, .ref 16, .ref 17, .ref 18, .ref 19, .ref 20, .ref 21, .ref 22, .int 0, .int 0, .int 0, .int 0, .int 0, .int 0, .int 0, .null, .null, .null, .null], vm := .statics 6 },
  { cls := 6, slots := #[.null, .int 0, .int 0, .null, .int 0, .int 0, .int 0, .int 0, .int 0, .null, .null, .null, .null, .null, .null], vm := .none },
  { cls := 6, slots := #[.null, .int 1, .int 0, .null, .int 0, .int 0, .int 0, .int 0, .int 0, .null, .null, .null, .null, .null, .null], vm := .none },
  { cls := 6, slots := #[.null, .int 2, .int 0, .null, .int 0, .int 0, .int 0, .int 0, .int 0, .null, .null, .null, .null, .null, .null], vm := .none },
  { cls := 6, slots := #[.null, .int 3, .int 0, .null, .int 0, .int 0, .int 0, .int 0, .int 0, .null, .null, .null, .null, .null, .null], vm := .none },
  { cls := 6, slots := #[.null, .int 4, .int 0, .null, .int 0, .int 0, .int 0, .int 0, .int 0, .null, .null, .null, .null, .null, .null], vm := .none },
  { cls := 6, slots := #[.null, .int 5, .int 0, .null, .int 0, .int 0, .int 0, .int 0, .int 0, .null, .null, .null, .null, .null, .null], vm := .none },
  { cls := 6, slots := #[.null, .int 6, .int 0, .null, .int 0, .int 0, .int 0, .int 0, .int 0, .null, .null, .null, .null, .null, .null], vm := .none },
  { cls := 6, slots := #[.null, .int 7, .int 0, .null, .int 0, .int 0, .int 0, .int 0, .int 0, .null, .null, .null, .null, .null, .null], vm := .none },
  { cls := 6, slots := #[.null, .int 8, .int 0, .null, .int 0, .int 0, .int 0, .int 0, .int 0, .null, .null, .null, .null, .null, .null], vm := .none },
  { cls := 6, slots := #[.null, .int 9, .int 0, .null, .int 0, .int 0, .int 0, .int 0, .int 0, .null, .null, .null, .null, .null, .null], vm := .none },
  { cls := 6, slots := #[.null, .int 10, .int 0, .null, .int 0, .int 0, .int 0, .int 0, .int 0, .null, .null, .null, .null, .null, .null], vm := .none },
  { cls := 6, slots := #[.null, .int 11, .int 0, .null, .int 0, .int 0, .int 0, .int 0, .int 0, .null, .null, .null, .null, .null, .null], vm := .none },
  { cls := 6, slots := #[.null, .int 12, .int 0, .null, .int 0, .int 0, .int 0, .int 0, .int 0, .null, .null, .null, .null, .null, .null], vm := .none },
  { cls := 6, slots := #[.null, .int 13, .int 0, .null, .int 0, .int 0, .int 0, .int 0, .int 0, .null, .null, .ref 23, .null, .null, .null], vm := .none },
  { cls := 6, slots := #[.null, .int 14, .int 0, .null, .int 0, .int 0, .int 0, .int 0, .int 0, .null, .null, .ref 23, .null, .null, .null], vm := .none },
  { cls := 6, slots := #[.null, .int 15, .int 0, .null, .int 0, .int 0, .int 0, .int 0, .int 0, .null, .null, .ref 23, .null, .null, .null], vm := .none },
  { cls := 6, slots := #[.null, .int 16, .int 0, .null, .int 0, .int 0, .int 0, .int 0, .int 0, .null, .null, .ref 23, .null, .null, .null], vm := .none },
  { cls := 6, slots := #[.null, .int 17, .int 0, .null, .int 0, .int 0, .int 0, .int 0, .int 0, .null, .null, .ref 23, .null, .null, .null], vm := .none },
  { cls := 6, slots := #[.null, .int 18, .int 0, .null, .int 0, .int 0, .int 0, .int 0, .int 0, .null, .null, .ref 23, .null, .null, .null], vm := .none },
  { cls := 6, slots := #[.null, .int 19, .int 0, .null, .int 0, .int 0, .int 0, .int 0, .int 0, .null, .null, .null, .null, .null, .null], vm := .none },
  { cls := 6, slots := #[.null, .int 20, .int 0, .null, .int 0, .int 0, .int 0, .int 0, .int 0, .null, .null, .null, .null, .null, .null], vm := .none },
  { cls := 6, slots := #[.null, .int 21, .int 0, .null, .int 0, .int 0, .int 0, .int 0, .int 0, .null, .null, .null, .null, .null, .null], vm := .none },
  { cls := 8, slots := #[.null, .null], vm := .none }]
def classes : Array Class := #[k0, k1, k2, k3, k4, k5, k6, k7, k8, k9, k10, k11, k12, k13]
def interned : List (Array UInt16 × Addr) := []
def slotsUsed : Nat := 365
def theMethod : MethodId := ⟨1, 2⟩
def args0 : Array Value := #[.int 5]
def aboutOver (below : List Frame) : State where
  vm := { classes := classes, interned := interned.toArray }
  heap := heap
  slotsUsed := slotsUsed
  threads := #[{ frames := .invoking theMethod args0 :: below }]
def below0 : List Frame := [.native { method := ⟨0, 0⟩, args := #[] }]
def about1 : State := aboutOver below0
def p0 : Program := .bare "" "" ""
def e0 : Env := launch0.env 0 0 0
theorem w_frames : about1.frames = Frame.invoking theMethod args0 :: below0 := rfl
set_option maxRecDepth 65536 in
theorem w_args : argsFit about1.vm theMethod args0 = true := by decide +kernel
set_option maxRecDepth 65536 in
theorem w_heap : heapFits about1 = true := by decide +kernel
set_option maxRecDepth 65536 in
theorem w_runnable : about1.curStatus? = some .runnable := by decide +kernel
set_option maxRecDepth 65536 in
theorem w_alone : about1.alone = true := by decide +kernel
set_option maxRecDepth 65536 in
theorem w_named : about1.methodNamed? x = some theMethod := by decide +kernel
set_option maxRecDepth 65536 in
theorem w_hears : about1.hears theMethod below0 = true := by decide +kernel
set_option maxRecDepth 65536 in
theorem w_ripe : about1.ripe theMethod args0 below0 = true := by decide +kernel
theorem w_running : about1.status = .running := rfl
set_option maxRecDepth 65536 in
theorem w_room : about1.hasRoom e0.platform room_1 = true :=
  launch0.hasRoom_least _ room_1 (by decide +kernel) (by decide +kernel) (by decide +kernel) (by decide +kernel) (by decide +kernel) (by decide +kernel)
theorem allAtoms_all (ts : List Jvm.Cond) (a : Array Jvm.Value) (st : Jvm.State) : (allAtoms ts).before a st = ts.all (fun c => c.before a st) := by
  induction ts with
  | nil => rfl
  | cons c t ih =>
    show (Jvm.Cond.and c (allAtoms t)).before a st = _
    rw [Jvm.Cond.before_and, ih, List.all_cons]
def words1 : List Jvm.Cond := Jvm.Cond.code x code maxLocals ret :: tables_1
/-- a 'code' word, met by the world's own term for the bytes: nothing is compared byte by byte -/
theorem code_word {y : MethodName} {bytes : ByteArray} {mx : Nat} {rt : Option FieldType} {a : Array Value} {s : State} {m : MethodId} {meth : Method} {c : Code} (h1 : s.methodNamed? y = some m) (h2 : s.vm.method? m = some meth) (h3 : meth.code = some c) (h4 : c.code = bytes)
    (h5 : (c.maxLocals == mx && c.exceptionTable.isEmpty && decide (c.maxStack ≤ mostOperands) && decide (meth.sig.returnType = rt) && !meth.locks && decide (parseMethodDescriptor y.desc = some meth.sig)) = true) : (Jvm.Cond.code y bytes mx rt).before a s = true := by
  simp only [Bool.and_eq_true, beq_iff_eq, Bool.not_eq_true', decide_eq_true_eq] at h5
  obtain ⟨⟨⟨⟨⟨g1, g2⟩, g3⟩, g4⟩, g5⟩, g6⟩ := h5
  simp [Cond.before, Cond.holds, Cond.value, h1, h2, h3, h4, g1, g2, g3, g4, g5, g6]
def isCode : Jvm.Cond → Bool
  | .code _ _ _ _ => true
  | _ => false
theorem all_split {L : List Jvm.Cond} {P : Jvm.Cond → Bool} (h1 : L.all (fun c => isCode c || P c) = true) (h2 : ∀ c ∈ L.filter isCode, P c = true) : L.all P = true := by
  refine List.all_eq_true.mpr fun c hc => ?_
  have h := List.all_eq_true.mp h1 c hc
  rcases Bool.eq_false_or_eq_true (isCode c) with hi | hi
  · exact h2 c (List.mem_filter.mpr ⟨hc, hi⟩)
  · simpa [hi] using h
set_option maxRecDepth 65536 in
theorem w_c0 : (Jvm.Cond.code x code maxLocals ret).before args0 about1 = true := code_word (m := ⟨1, 2⟩) (meth := k1m2) (c := k1c2) (by decide +kernel) rfl rfl rfl (by decide +kernel)
set_option maxRecDepth 65536 in
theorem w_c1 : (Jvm.Cond.code ({ cls := "deckmill/CardAsksChoicePinLaw", name := "pick", desc := "(I)Ldeckmill/Card;" } : Jvm.MethodName) method_2_code (1 : Nat) (Option.some (Jvm.ClassFile.FieldType.object "deckmill/Card"))).before args0 about1 = true := code_word (m := ⟨1, 1⟩) (meth := k1m1) (c := k1c1) (by decide +kernel) rfl rfl rfl (by decide +kernel)
set_option maxRecDepth 65536 in
theorem w_c2 : (Jvm.Cond.code ({ cls := "deckmill/Card", name := "asksChoice", desc := "()Z" } : Jvm.MethodName) prog_1_method_19_code (1 : Nat) (Option.some Jvm.ClassFile.FieldType.boolean)).before args0 about1 = true := code_word (m := ⟨6, 0⟩) (meth := k6m0) (c := k6c0) (by decide +kernel) rfl rfl rfl (by decide +kernel)
def codes1 : List Jvm.Cond := [Jvm.Cond.code x code maxLocals ret, Jvm.Cond.code ({ cls := "deckmill/CardAsksChoicePinLaw", name := "pick", desc := "(I)Ldeckmill/Card;" } : Jvm.MethodName) method_2_code (1 : Nat) (Option.some (Jvm.ClassFile.FieldType.object "deckmill/Card")), Jvm.Cond.code ({ cls := "deckmill/Card", name := "asksChoice", desc := "()Z" } : Jvm.MethodName) prog_1_method_19_code (1 : Nat) (Option.some Jvm.ClassFile.FieldType.boolean)]
set_option maxRecDepth 65536 in
theorem codes_eq : words1.filter isCode = codes1 := rfl
theorem w_codes : ∀ c ∈ words1.filter isCode, c.before args0 about1 = true := by
  rw [codes_eq]
  intro c hc
  simp only [codes1, List.mem_cons, List.not_mem_nil, or_false] at hc
  rcases hc with rfl | rfl | rfl
  · exact w_c0
  · exact w_c1
  · exact w_c2
set_option maxRecDepth 65536 in
theorem w_t1 : (words1.take 24).all (fun c => isCode c || c.before args0 about1) = true := by decide +kernel
set_option maxRecDepth 65536 in
theorem w_t2 : ((words1.drop 24).take 24).all (fun c => isCode c || c.before args0 about1) = true := by decide +kernel
set_option maxRecDepth 65536 in
theorem w_t3 : ((words1.drop 24).drop 24).all (fun c => isCode c || c.before args0 about1) = true := by decide +kernel
theorem w_tables : (allAtoms (Jvm.Cond.code x code maxLocals ret :: tables_1)).before args0 about1 = true := by
  rw [allAtoms_all]
  show words1.all (fun c => c.before args0 about1) = true
  refine all_split ?_ w_codes
  rw [← List.take_append_drop 24 words1, List.all_append, w_t1, ← List.take_append_drop 24 (words1.drop 24), List.all_append, w_t2, w_t3]
  rfl
set_option maxRecDepth 65536 in
theorem w_case : (Jvm.Cond.and given_1 narrow_1).before args0 about1 = true := by decide +kernel
theorem w_applies : (headSpec (Jvm.Cond.code x code maxLocals ret :: tables_1) room_1).applies x e0.platform about1 = true :=
  (Spec.applies_iff w_frames).mpr ⟨w_running, w_runnable, w_alone, w_named, w_hears, w_ripe, w_room, w_tables⟩
theorem atStart : AtStart classFile x code maxLocals ret World_1 tables_1 room_1 Calls_1 rest_1 Pre_1 launch0 p0 e0 about1 theMethod args0 below0 :=
  ⟨lists_1, trivial, launch0.admits_env _ _ _, launch0.least_env, fairChoices_fair.cas, fairChoices_fair.clock, w_frames, w_args, w_heap, w_applies, trivial, trivial, w_case⟩
end start1
theorem witness_1 : WitnessClaimed_1 := ⟨start1.p0, start1.e0, start1.about1, start1.theMethod, start1.args0, start1.below0, start1.atStart⟩
end Jvm.Pilot.@@N@@
