import JvmDerived
import JvmDerived.Pilot.@@N@@Statement
import JvmDerived.Pilot.@@N@@Code
set_option linter.unusedVariables false
set_option linter.unusedSimpArgs false
namespace Jvm.Pilot.@@N@@
open Jvm Jvm.ClassFile Sem Op Lib Jvm.Free Jvm.Stand Jvm.LawKit Jvm.RoadKit Bundle Jvm.Pilot.@@N@@.Jvm.D
section Own
variable {p : Program} {l : Launch} {e : Env} {R : Room} {s : State} {m : MethodId} {args : Array Value} {below : List Frame} {meth : Method} {c : Code} {T : State} {locs : List Loc} {cells slots : Nat}
/-- from the state A on the run comes to a return of the body that s was about to invoke, with Q of the value, the heap and the places written -/
def Go (En : State → Outcome → State → List Loc → Nat → Nat → Prop) (p : Program) (e : Env) (below : List Frame) (s : State) (C S : Nat) (Q : Option Value → Heap → List Loc → Prop) (A : State) : Prop :=
  ∃ s₂ o, Steps p.tables e below A s₂ ∧ s₂.status = .running ∧ Ended s₂ below o ∧ ∃ v L, o = .returned v ∧ Q v s₂.heap L ∧ En s o s₂ L C S
variable {En : State → Outcome → State → List Loc → Nat → Nat → Prop} {C S : Nat} {Q : Option Value → Heap → List Loc → Prop} {A B : State} {h : Heap}
theorem Go.step (h : ∀ t, Steps p.tables e below B t → Steps p.tables e below A t) (g : Go En p e below s C S Q B) : Go En p e below s C S Q A := by
  obtain ⟨s₂, o, h1, r⟩ := g
  exact ⟨s₂, o, h _ h1, r⟩
theorem Go.hop (h : Steps p.tables e below A B) (g : Go En p e below s C S Q B) : Go En p e below s C S Q A := Go.step (fun _ k => h.trans k) g
theorem Go.out (X : Stand p l e R s m args below meth c T locs cells slots) {v : Option Value} (hv : meth.sig.returnType = none → v = none) (hl : meth.locks = false) (eT : T.heap = h) (hc : cells ≤ C) (hs : slots ≤ S) (q : Q v h locs)
    (st : ∀ fs, (∀ (f : JFrame) (acts : List Action), f.method = m → f.locked = none → f.entered = [] → (doReturn e (T.setTop f) acts v).1 = T.setFrames fs) → Steps p.tables e below A (T.setFrames fs)) : Go FrameEnd p e below s C S Q A := by
  obtain ⟨fs, hr, hrun, hended, hW, hsame⟩ := X.leave (v := v) hv hl
  refine ⟨_, _, st fs hr, hrun, hended, _, _, rfl, ?_, ⟨_, rfl⟩, hW, hsame.mono hc hs⟩
  show Q v T.heap locs
  rw [eT]
  exact q
theorem Go.retN (X : Stand p l e R s m args below meth c T locs cells slots) (hx : p.tables.exec = Jvm.exec) {pc : Nat} {Ls : Array Slot} {z : Int32} {t : FieldType} {rest : List Value} (hret : meth.sig.returnType = some t) (ht : t = .boolean ∨ t = .byte ∨ t = .char ∨ t = .short)
    (hz : nar t z = z) (hd : decode c.code pc = .ok (.ireturn, 1)) (hl : meth.locks = false) (eT : T.heap = h) (hc : cells ≤ C) (hs : slots ≤ S) (q : Q (some (.int z)) h locs) : Go FrameEnd p e below s C S Q (T.setTop (mkF m pc Ls (.int z :: rest))) :=
  Go.out X (v := some (.int z)) (fun k => by rw [hret] at k; cases k) hl eT hc hs q fun fs hr => Jvm.RoadKit.retN X hx (t := t) hret ht hd (by rw [hz]; exact hr)
theorem Go.retI (X : Stand p l e R s m args below meth c T locs cells slots) (hx : p.tables.exec = Jvm.exec) {pc : Nat} {Ls : Array Slot} {z : Int32} {rest : List Value} (hret : meth.sig.returnType = some .int)
    (hd : decode c.code pc = .ok (.ireturn, 1)) (hl : meth.locks = false) (eT : T.heap = h) (hc : cells ≤ C) (hs : slots ≤ S) (q : Q (some (.int z)) h locs) : Go FrameEnd p e below s C S Q (T.setTop (mkF m pc Ls (.int z :: rest))) :=
  Go.out X (v := some (.int z)) (fun k => by rw [hret] at k; cases k) hl eT hc hs q fun fs hr => retOut X hx hret rfl (Or.inl ⟨rfl, Or.inl rfl, z, rfl⟩) hd hr
theorem Go.retJ (X : Stand p l e R s m args below meth c T locs cells slots) (hx : p.tables.exec = Jvm.exec) {pc : Nat} {Ls : Array Slot} {z : Int64} {rest : List Value} (hret : meth.sig.returnType = some .long)
    (hd : decode c.code pc = .ok (.lreturn, 1)) (hl : meth.locks = false) (eT : T.heap = h) (hc : cells ≤ C) (hs : slots ≤ S) (q : Q (some (.long z)) h locs) : Go FrameEnd p e below s C S Q (T.setTop (mkF m pc Ls (.long z :: rest))) :=
  Go.out X (v := some (.long z)) (fun k => by rw [hret] at k; cases k) hl eT hc hs q fun fs hr => retOut X hx hret rfl (Or.inr (Or.inl ⟨rfl, rfl, z, rfl⟩)) hd hr
theorem own_narR {t : FieldType} {v : Value} (hv : v.isRef = true) : narrow t v = v := by cases v <;> first | (cases hv; done) | (cases t <;> rfl)
theorem Go.retR (X : Stand p l e R s m args below meth c T locs cells slots) (hx : p.tables.exec = Jvm.exec) {pc : Nat} {Ls : Array Slot} {v : Value} {t : FieldType} {rest : List Value} (hret : meth.sig.returnType = some t) (ht : t.isReference = true) (hv : v.isRef = true)
    (hd : decode c.code pc = .ok (.areturn, 1)) (hl : meth.locks = false) (eT : T.heap = h) (hc : cells ≤ C) (hs : slots ≤ S) (q : Q (some v) h locs) : Go FrameEnd p e below s C S Q (T.setTop (mkF m pc Ls (v :: rest))) :=
  Go.out X (v := some v) (fun k => by rw [hret] at k; cases k) hl eT hc hs q fun fs hr => retOut X hx hret (own_narR hv) (Or.inr (Or.inr (Or.inr (Or.inr ⟨rfl, ht, hv⟩)))) hd hr
theorem Go.ret0 (X : Stand p l e R s m args below meth c T locs cells slots) (hx : p.tables.exec = Jvm.exec) {pc : Nat} {Ls : Array Slot} (hret : meth.sig.returnType = none)
    (hd : decode c.code pc = .ok (.return_, 1)) (hl : meth.locks = false) (eT : T.heap = h) (hc : cells ≤ C) (hs : slots ≤ S) (q : Q none h locs) : Go FrameEnd p e below s C S Q (T.setTop (mkF m pc Ls [])) :=
  Go.out X (v := none) (fun _ => rfl) hl eT hc hs q fun fs hr => X.returnOut hx hret hd hr
theorem Go.outW {vm0 : Vm} {k0 : Nat} (X : Stand p l e R (s.setVm vm0) m args below meth c T locs cells slots) (hS : s.Since vm0 k0) (hk : k0 ≤ h.size) {v : Option Value} (hv : meth.sig.returnType = none → v = none) (hl : meth.locks = false) (eT : T.heap = h) (hc : cells ≤ C) (hs : slots ≤ S) (q : Q v h locs)
    (st : ∀ fs, (∀ (f : JFrame) (acts : List Action), f.method = m → f.locked = none → f.entered = [] → (doReturn e (T.setTop f) acts v).1 = T.setFrames fs) → Steps p.tables e below A (T.setFrames fs)) : Go ReturnedEndW p e below s C S Q A := by
  obtain ⟨fs, hr, hrun, hended, hq1, hq2, hq3, hq4⟩ := X.leaveW hS (by rw [eT]; exact hk) (v := v) hv hl
  refine ⟨_, _, st fs hr, hrun, hended, _, _, rfl, ?_, hq1, hq2, hq3, hq4.mono hc hs⟩
  show Q v T.heap locs
  rw [eT]
  exact q
theorem Go.retNW {vm0 : Vm} {k0 : Nat} (X : Stand p l e R (s.setVm vm0) m args below meth c T locs cells slots) (hS : s.Since vm0 k0) (hk : k0 ≤ h.size) (hx : p.tables.exec = Jvm.exec) {pc : Nat} {Ls : Array Slot} {z : Int32} {t : FieldType} {rest : List Value} (hret : meth.sig.returnType = some t) (ht : t = .boolean ∨ t = .byte ∨ t = .char ∨ t = .short)
    (hz : nar t z = z) (hd : decode c.code pc = .ok (.ireturn, 1)) (hl : meth.locks = false) (eT : T.heap = h) (hc : cells ≤ C) (hs : slots ≤ S) (q : Q (some (.int z)) h locs) : Go ReturnedEndW p e below s C S Q (T.setTop (mkF m pc Ls (.int z :: rest))) :=
  Go.outW X hS hk (v := some (.int z)) (fun k => by rw [hret] at k; cases k) hl eT hc hs q fun fs hr => Jvm.RoadKit.retN X hx (t := t) hret ht hd (by rw [hz]; exact hr)
theorem Go.retIW {vm0 : Vm} {k0 : Nat} (X : Stand p l e R (s.setVm vm0) m args below meth c T locs cells slots) (hS : s.Since vm0 k0) (hk : k0 ≤ h.size) (hx : p.tables.exec = Jvm.exec) {pc : Nat} {Ls : Array Slot} {z : Int32} {rest : List Value} (hret : meth.sig.returnType = some .int)
    (hd : decode c.code pc = .ok (.ireturn, 1)) (hl : meth.locks = false) (eT : T.heap = h) (hc : cells ≤ C) (hs : slots ≤ S) (q : Q (some (.int z)) h locs) : Go ReturnedEndW p e below s C S Q (T.setTop (mkF m pc Ls (.int z :: rest))) :=
  Go.outW X hS hk (v := some (.int z)) (fun k => by rw [hret] at k; cases k) hl eT hc hs q fun fs hr => retOut X hx hret rfl (Or.inl ⟨rfl, Or.inl rfl, z, rfl⟩) hd hr
theorem Go.retJW {vm0 : Vm} {k0 : Nat} (X : Stand p l e R (s.setVm vm0) m args below meth c T locs cells slots) (hS : s.Since vm0 k0) (hk : k0 ≤ h.size) (hx : p.tables.exec = Jvm.exec) {pc : Nat} {Ls : Array Slot} {z : Int64} {rest : List Value} (hret : meth.sig.returnType = some .long)
    (hd : decode c.code pc = .ok (.lreturn, 1)) (hl : meth.locks = false) (eT : T.heap = h) (hc : cells ≤ C) (hs : slots ≤ S) (q : Q (some (.long z)) h locs) : Go ReturnedEndW p e below s C S Q (T.setTop (mkF m pc Ls (.long z :: rest))) :=
  Go.outW X hS hk (v := some (.long z)) (fun k => by rw [hret] at k; cases k) hl eT hc hs q fun fs hr => retOut X hx hret rfl (Or.inr (Or.inl ⟨rfl, rfl, z, rfl⟩)) hd hr
theorem Go.retRW {vm0 : Vm} {k0 : Nat} (X : Stand p l e R (s.setVm vm0) m args below meth c T locs cells slots) (hS : s.Since vm0 k0) (hk : k0 ≤ h.size) (hx : p.tables.exec = Jvm.exec) {pc : Nat} {Ls : Array Slot} {v : Value} {t : FieldType} {rest : List Value} (hret : meth.sig.returnType = some t) (ht : t.isReference = true) (hv : v.isRef = true)
    (hd : decode c.code pc = .ok (.areturn, 1)) (hl : meth.locks = false) (eT : T.heap = h) (hc : cells ≤ C) (hs : slots ≤ S) (q : Q (some v) h locs) : Go ReturnedEndW p e below s C S Q (T.setTop (mkF m pc Ls (v :: rest))) :=
  Go.outW X hS hk (v := some v) (fun k => by rw [hret] at k; cases k) hl eT hc hs q fun fs hr => retOut X hx hret (own_narR hv) (Or.inr (Or.inr (Or.inr (Or.inr ⟨rfl, ht, hv⟩)))) hd hr
theorem Go.ret0W {vm0 : Vm} {k0 : Nat} (X : Stand p l e R (s.setVm vm0) m args below meth c T locs cells slots) (hS : s.Since vm0 k0) (hk : k0 ≤ h.size) (hx : p.tables.exec = Jvm.exec) {pc : Nat} {Ls : Array Slot} (hret : meth.sig.returnType = none)
    (hd : decode c.code pc = .ok (.return_, 1)) (hl : meth.locks = false) (eT : T.heap = h) (hc : cells ≤ C) (hs : slots ≤ S) (q : Q none h locs) : Go ReturnedEndW p e below s C S Q (T.setTop (mkF m pc Ls [])) :=
  Go.outW X hS hk (v := none) (fun _ => rfl) hl eT hc hs q fun fs hr => X.returnOut hx hret hd hr
theorem own_lrem {g : JFrame} {target : State} (X : Stand p l e R s m args below meth c T locs cells slots) (hx : p.tables.exec = Jvm.exec) (hg : g.method = m) {x y : Int64} {rest : List Value} (hd : decode c.code g.pc = .ok (.lrem, 1)) (hs : g.stack = .long y :: .long x :: rest) (hy : y ≠ 0)
    (hr : Steps p.tables e below (T.setTop { g with pc := g.pc + 1, stack := .long (x % y) :: rest }) target) : Steps p.tables e below (T.setTop g) target := by
  have q : x - x / y * y = x % y := lrem_mod x y
  exact XS.lrem X.here hx hg hd hs hy (by rw [q]; exact hr)
theorem own_fitR {t : FieldType} {v : Value} (ht : t.isReference = true) (hv : v.isRef = true) : fits t v = true := by cases v <;> first | (cases hv; done) | (cases t <;> first | rfl | cases ht)
variable {Z : State} {h' : Heap} {a b : Addr} {ty : FieldType} {n i sl : Nat} {f : Nat → Value} {v w : Value} {cl : Cell} {j z : Int32} {k : ClassId} {ws : List Addr}
/-- the array at a has n places; place j holds f j -/
def Av (Z : State) (h : Heap) (a : Addr) (ty : FieldType) (n : Nat) (f : Nat → Value) : Prop := ∃ c : Cell, Arr Z h a c ty ∧ c.slots.size = n ∧ n < 2147483648 ∧ ∀ j, j < n → c.slots[j]? = some (f j)
def aset (f : Nat → Value) (i : Nat) (v : Value) : Nat → Value := fun j => if j = i then v else f j
theorem Av.lt (F : Av Z h a ty n f) : a < h.size := by obtain ⟨c, A, -⟩ := F; exact A.lt
theorem Av.ext (F : Av Z h a ty n f) (E : Ext h h') : Av Z h' a ty n f := by obtain ⟨c, A, r⟩ := F; exact ⟨c, A.ext E, r⟩
theorem Av.other (F : Av Z h b ty n f) (W : Wr h h' a sl v) (q : b ≠ a) : Av Z h' b ty n f := by obtain ⟨c, A, r⟩ := F; exact ⟨c, A.other W q, r⟩
theorem Av.keep (F : Av Z h a ty n f) (K : Keep h h' ws) (q : a ∉ ws) : Av Z h' a ty n f := by obtain ⟨c, A, r⟩ := F; exact ⟨c, ⟨K.2.1 a c A.1 q, A.2⟩, r⟩
theorem Av.eq (F : Av Z h a ty n f) {g : Nat → Value} (q : ∀ j, j < n → f j = g j) : Av Z h a ty n g := by obtain ⟨c, A, r1, r2, r3⟩ := F; exact ⟨c, A, r1, r2, fun j hj => by rw [← q j hj]; exact r3 j hj⟩
theorem own_clamp (q : ¬ z < 0) : z.toNatClampNeg < 2147483648 := (back32 q).2
theorem Av.new (A : Arr Z h a (newA k ty z) ty) (q : ¬ z < 0) (e : z.toNatClampNeg = n) : Av Z h a ty n (fun _ => defaultValue ty) := by
  refine ⟨_, A, by rw [sz_new, e], by rw [← e]; exact own_clamp q, fun j hj => ?_⟩
  have q2 : (newA k ty z).slots = Array.replicate z.toNatClampNeg (defaultValue ty) := rfl
  rw [q2, Array.getElem?_replicate, e, if_pos hj]
theorem own_in {c : Cell} (S : c.slots.size = n) (h0 : ¬ j < 0) (h : j.toNatClampNeg < n) : ¬ (j < 0 ∨ c.slots.size ≤ j.toNatClampNeg) := by
  rw [S]; exact fun q => q.elim h0 (Nat.not_le.mpr h)
theorem Av.at {c : Cell} (G : ∀ j, j < n → c.slots[j]? = some (f j)) (e : j.toNatClampNeg = i) (hi : i < n) (w : f i = v) : c.slots[j.toNatClampNeg]? = some v := by rw [e, G i hi, w]
theorem own_slots (c : Cell) (i : Nat) (v : Value) : (c.setSlot i v).slots = c.slots.setIfInBounds i v := rfl
theorem Av.set {c : Cell} (A : Arr Z h a c ty) (S : c.slots.size = n) (M : n < 2147483648) (G : ∀ j, j < n → c.slots[j]? = some (f j)) (W : Wr h h' a j.toNatClampNeg v) (e : j.toNatClampNeg = i) (hin : ¬ (j < 0 ∨ c.slots.size ≤ j.toNatClampNeg)) : Av Z h' a ty n (aset f i v) := by
  have hi : i < c.slots.size := by rw [← e]; exact Nat.lt_of_not_le fun q => hin (Or.inr q)
  refine ⟨_, A.same W, by rw [sz_set]; exact S, M, fun q hq => ?_⟩
  rw [own_slots, e, Array.getElem?_setIfInBounds]
  by_cases r : i = q
  · subst r
    rw [if_pos rfl, if_pos hi]; simp [aset]
  · rw [if_neg r, G q hq]
    show some (f q) = some (if q = i then v else f q)
    rw [if_neg (Ne.symm r)]
theorem own_int_v {aa : Array Value} {t : Term} {k : Int32} (he : (Cond.eq t (.int k)).value aa Z none Z [] = some true) : t.eval aa Z none [] Z = some (.int k) := by
  have hk : (Term.int k).eval aa Z none [] Z = some (.int k) := Term.int_eval k
  cases ht : t.eval aa Z none [] Z with
  | none => simp [Cond.value, ht] at he
  | some x => cases x <;> simp_all [Cond.value]
theorem own_enum {aa : Array Value} {t : Term} {C D n d : String} {k : Int32} (hx : (Cond.exactly t C).value aa Z none Z [] = some true) (he : (Cond.eq (.field t D n d) (.int k)).value aa Z none Z [] = some true) :
    ∃ x : Addr, t.eval aa Z none [] Z = some (.ref x) ∧ Exa Z Z.heap x C ∧ Fld Z Z.heap x D n d (.int k) := by
  obtain ⟨x, hv⟩ := exa_v hx
  exact ⟨x, hv, Exa.start hv hx, Fld.start (by rw [← fld_at hv]; exact own_int_v he)⟩
theorem own_self {y z : MethodName} (hz : (Cond.selects z.cls z z).before args s = true) (e : z.cls = y.cls) (hp : s.PrivateAt y) (hi : (Cond.instanceMethod y).before args s = true) (hy : y.cls ≠ "java/lang/invoke/MethodHandle" ∧ y.cls ≠ "java/lang/invoke/VarHandle") : (Cond.selects y.cls y y).before args s = true := by
  obtain ⟨c2, r2, m2, q1, -, q3, -, kP, hkP, hkPi⟩ := Cond.selects_spec hz
  have q := findClass_of_methodNamed q3
  rw [e] at q
  exact selects_self_of_private q hkP hkPi hp hi hy
theorem own_nar8 (a : Int32) : nar .byte a.toInt8.toInt32 = a.toInt8.toInt32 := by show a.toInt8.toInt32.toInt8.toInt32 = _; simp
theorem own_nar16 (a : Int32) : nar .char a.toUInt32.toUInt16.toUInt32.toInt32 = a.toUInt32.toUInt16.toUInt32.toInt32 := by
  show a.toUInt32.toUInt16.toUInt32.toInt32.toUInt32.toUInt16.toUInt32.toInt32 = _
  rw [show a.toUInt32.toUInt16.toUInt32.toInt32.toUInt32 = a.toUInt32.toUInt16.toUInt32 from rfl, UInt16.toUInt16_toUInt32]
theorem own_sta_keep {C d nm : String} (F : Sta Z h C nm d w) (K : Keep h h' []) : Sta Z h' C nm d w := by
  obtain ⟨cf, i, k, f, st, cell, h1, h2, h3, h4, h5, r⟩ := F
  exact ⟨cf, i, k, f, st, cell, h1, h2, h3, h4, K.2.1 _ _ h5 nin0, r⟩
theorem own_ext_keep (E : Ext h h') : Keep h h' [] := (Keep.refl h []).ext E
theorem own_keep_eq (e : h' = h) (ws : List Addr) : Keep h h' ws := by rw [e]; exact Keep.refl _ _
end Own
theorem pn_com_example_ledgertide_ledgertide_core_CopyFiles_Count : plainName "com/example/ledgertide/ledgertide/core/CopyFiles$Count" = true := by first | (simp [plainName, overriddenIn]; done) | decide +kernel
theorem d_prog_31_method_1_code_0 : decode prog_31_method_1_code 0 = .ok (.aload_n 0, 1) := by decide +kernel
theorem d_prog_31_method_1_code_1 : decode prog_31_method_1_code 1 = .ok (.invokespecial 1, 3) := by decide +kernel
theorem d_prog_31_method_1_code_4 : decode prog_31_method_1_code 4 = .ok (.return_, 1) := by decide +kernel
theorem d_prog_31_method_6_code_0 : decode prog_31_method_6_code 0 = .ok (.aload_n 0, 1) := by decide +kernel
theorem d_prog_31_method_6_code_1 : decode prog_31_method_6_code 1 = .ok (.getfield 7, 3) := by decide +kernel
theorem d_prog_31_method_6_code_4 : decode prog_31_method_6_code 4 = .ok (.lconst 0, 1) := by decide +kernel
theorem d_prog_31_method_6_code_5 : decode prog_31_method_6_code 5 = .ok (.lcmp, 1) := by decide +kernel
theorem d_prog_31_method_6_code_6 : decode prog_31_method_6_code 6 = .ok (.ifCond .lt 25, 3) := by decide +kernel
theorem d_prog_31_method_6_code_31 : decode prog_31_method_6_code 31 = .ok (.iconst 0, 1) := by decide +kernel
theorem d_prog_31_method_6_code_32 : decode prog_31_method_6_code 32 = .ok (.ireturn, 1) := by decide +kernel
theorem d_prog_31_method_6_code_9 : decode prog_31_method_6_code 9 = .ok (.aload_n 0, 1) := by decide +kernel
theorem d_prog_31_method_6_code_10 : decode prog_31_method_6_code 10 = .ok (.getfield 7, 3) := by decide +kernel
theorem d_prog_31_method_6_code_13 : decode prog_31_method_6_code 13 = .ok (.lload_n 1, 1) := by decide +kernel
theorem d_prog_31_method_6_code_14 : decode prog_31_method_6_code 14 = .ok (.lcmp, 1) := by decide +kernel
theorem d_prog_31_method_6_code_15 : decode prog_31_method_6_code 15 = .ok (.ifCond .gt 16, 3) := by decide +kernel
theorem d_prog_31_method_6_code_18 : decode prog_31_method_6_code 18 = .ok (.aload_n 0, 1) := by decide +kernel
theorem d_prog_31_method_6_code_19 : decode prog_31_method_6_code 19 = .ok (.getfield 13, 3) := by decide +kernel
theorem d_prog_31_method_6_code_22 : decode prog_31_method_6_code 22 = .ok (.lconst 0, 1) := by decide +kernel
theorem d_prog_31_method_6_code_23 : decode prog_31_method_6_code 23 = .ok (.lcmp, 1) := by decide +kernel
theorem d_prog_31_method_6_code_24 : decode prog_31_method_6_code 24 = .ok (.ifCond .lt 7, 3) := by decide +kernel
theorem d_prog_31_method_6_code_27 : decode prog_31_method_6_code 27 = .ok (.iconst 1, 1) := by decide +kernel
theorem d_prog_31_method_6_code_28 : decode prog_31_method_6_code 28 = .ok (.goto 4, 3) := by decide +kernel
theorem d_prog_31_method_4_code_0 : decode prog_31_method_4_code 0 = .ok (.aload_n 0, 1) := by decide +kernel
theorem d_prog_31_method_4_code_1 : decode prog_31_method_4_code 1 = .ok (.lload_n 1, 1) := by decide +kernel
theorem d_prog_31_method_4_code_2 : decode prog_31_method_4_code 2 = .ok (.putfield 7, 3) := by decide +kernel
theorem d_prog_31_method_4_code_5 : decode prog_31_method_4_code 5 = .ok (.aload_n 0, 1) := by decide +kernel
theorem d_prog_31_method_4_code_6 : decode prog_31_method_4_code 6 = .ok (.lload_n 3, 1) := by decide +kernel
theorem d_prog_31_method_4_code_7 : decode prog_31_method_4_code 7 = .ok (.putfield 13, 3) := by decide +kernel
theorem d_prog_31_method_4_code_10 : decode prog_31_method_4_code 10 = .ok (.return_, 1) := by decide +kernel
theorem d_prog_31_method_2_code_0 : decode prog_31_method_2_code 0 = .ok (.aload_n 0, 1) := by decide +kernel
theorem d_prog_31_method_2_code_1 : decode prog_31_method_2_code 1 = .ok (.getfield 7, 3) := by decide +kernel
theorem d_prog_31_method_2_code_4 : decode prog_31_method_2_code 4 = .ok (.lreturn, 1) := by decide +kernel
theorem d_prog_31_method_3_code_0 : decode prog_31_method_3_code 0 = .ok (.aload_n 0, 1) := by decide +kernel
theorem d_prog_31_method_3_code_1 : decode prog_31_method_3_code 1 = .ok (.getfield 13, 3) := by decide +kernel
theorem d_prog_31_method_3_code_4 : decode prog_31_method_3_code 4 = .ok (.lreturn, 1) := by decide +kernel
theorem pn_com_example_ledgertide_ledgertide_core_CountFitsPinLaw : plainName "com/example/ledgertide/ledgertide/core/CountFitsPinLaw" = true := by first | (simp [plainName, overriddenIn]; done) | decide +kernel
theorem d_method_2_code_0 : decode method_2_code 0 = .ok (.lload_n 0, 1) := by decide +kernel
theorem d_method_2_code_1 : decode method_2_code 1 = .ok (.lconst 0, 1) := by decide +kernel
theorem d_method_2_code_2 : decode method_2_code 2 = .ok (.lcmp, 1) := by decide +kernel
theorem d_method_2_code_3 : decode method_2_code 3 = .ok (.ifCond .ge 9, 3) := by decide +kernel
theorem d_method_2_code_6 : decode method_2_code 6 = .ok (.iconst 0, 1) := by decide +kernel
theorem d_method_2_code_7 : decode method_2_code 7 = .ok (.istore 6, 2) := by decide +kernel
theorem d_method_2_code_9 : decode method_2_code 9 = .ok (.goto 31, 3) := by decide +kernel
theorem d_method_2_code_40 : decode method_2_code 40 = .ok (.iload 6, 2) := by decide +kernel
theorem d_method_2_code_42 : decode method_2_code 42 = .ok (.ireturn, 1) := by decide +kernel
theorem d_method_2_code_12 : decode method_2_code 12 = .ok (.lload_n 2, 1) := by decide +kernel
theorem d_method_2_code_13 : decode method_2_code 13 = .ok (.lconst 0, 1) := by decide +kernel
theorem d_method_2_code_14 : decode method_2_code 14 = .ok (.lcmp, 1) := by decide +kernel
theorem d_method_2_code_15 : decode method_2_code 15 = .ok (.ifCond .ge 9, 3) := by decide +kernel
theorem d_method_2_code_18 : decode method_2_code 18 = .ok (.iconst 0, 1) := by decide +kernel
theorem d_method_2_code_19 : decode method_2_code 19 = .ok (.istore 6, 2) := by decide +kernel
theorem d_method_2_code_21 : decode method_2_code 21 = .ok (.goto 19, 3) := by decide +kernel
theorem d_method_2_code_24 : decode method_2_code 24 = .ok (.lload_n 0, 1) := by decide +kernel
theorem d_method_2_code_25 : decode method_2_code 25 = .ok (.lload 4, 2) := by decide +kernel
theorem d_method_2_code_27 : decode method_2_code 27 = .ok (.lcmp, 1) := by decide +kernel
theorem d_method_2_code_28 : decode method_2_code 28 = .ok (.ifCond .le 9, 3) := by decide +kernel
theorem d_method_2_code_31 : decode method_2_code 31 = .ok (.iconst 0, 1) := by decide +kernel
theorem d_method_2_code_32 : decode method_2_code 32 = .ok (.istore 6, 2) := by decide +kernel
theorem d_method_2_code_34 : decode method_2_code 34 = .ok (.goto 6, 3) := by decide +kernel
theorem d_method_2_code_37 : decode method_2_code 37 = .ok (.iconst 1, 1) := by decide +kernel
theorem d_method_2_code_38 : decode method_2_code 38 = .ok (.istore 6, 2) := by decide +kernel
theorem pd___V : parseMethodDescriptor "()V" = some ⟨[], none⟩ := by decide +kernel
theorem pd__J_Z : parseMethodDescriptor "(J)Z" = some ⟨[.long], some .boolean⟩ := by decide +kernel
theorem pd__JJ_V : parseMethodDescriptor "(JJ)V" = some ⟨[.long, .long], none⟩ := by decide +kernel
theorem pd___J : parseMethodDescriptor "()J" = some ⟨[], some .long⟩ := by decide +kernel
theorem pd__JJJ_Z : parseMethodDescriptor "(JJJ)Z" = some ⟨[.long, .long, .long], some .boolean⟩ := by decide +kernel

def fitsF (a b q : Int64) : Int32 := if a < 0 then 0 else if q < a then 0 else if b < 0 then 0 else 1
def expF (a b q : Int64) : Int32 := if a < 0 then 0 else if b < 0 then 0 else if q < a then 0 else 1
theorem own_fit_exp (a b q : Int64) : fitsF a b q = expF a b q := by
  unfold fitsF expF
  by_cases h1 : a < 0
  · simp [h1]
  · by_cases h2 : b < 0 <;> by_cases h3 : q < a <;> simp [h1, h2, h3]
theorem own_fresh_neg {q : Int64} (h : q < 0) : fitsF 0 0 q = 0 := by simp [fitsF, h]
theorem own_fresh_pos {q : Int64} (h : ¬ q < 0) : fitsF 0 0 q = 1 := by simp [fitsF, h]

def Q1 (Z : State) (a1 : Addr) (h0 : Heap) (v : Option Value) (h : Heap) (L : List Loc) : Prop := v = none ∧ L = [] ∧ h = h0
theorem ef_1 (m : MethodId) (a1 : Addr) : entryFrame m #[(.ref a1)] 1 = mkF m 0 #[.val (.ref a1)] [] := by first | (simp [entryFrame, mkF, argsToLocals, Value.category]; done) | rfl
set_option maxRecDepth 65536 in
set_option maxHeartbeats 40000000 in
theorem rm1 (l : Launch) (Z : State) (a0 : Array Value) (hw : ∀ d ∈ tables_1, d.before a0 Z = true) (ws : List Jvm.Cond) (a1 : Addr) (h0 : Heap) :
    MetFree l (⟨"com/example/ledgertide/ledgertide/core/CopyFiles$Count", "<init>", "()V"⟩ : MethodName) (head1 (Jvm.Cond.code (⟨"com/example/ledgertide/ledgertide/core/CopyFiles$Count", "<init>", "()V"⟩ : MethodName) prog_31_method_1_code 1 none :: ws) ({ frames := 1, cells := 0, slots := 0, locals := 12 } : Room)) (fun a U => a = #[(.ref a1)] ∧ Z.Warmed39 U.vm ∧ U.heap = h0) (fun _ _ _ _ _ => True) (fun _ U o U' => ∃ v L, o = .returned v ∧ (Q1 Z a1 h0) v U'.heap L ∧ FrameEnd U o U' L 0 0) := by
  refine MetFree.of_bodySF (plainFor_of_name pn_com_example_ledgertide_ledgertide_core_CopyFiles_Count) hisR ?_
  intro p e s m args below meth c s₁ Bd hml0 hP hK
  obtain ⟨rfl, hZ, hh⟩ := hP
  have hx := Bd.exec
  have hby := Bd.bytes
  have hml : c.maxLocals = 1 := hml0
  have hown : s.vm.findClass "com/example/ledgertide/ledgertide/core/CopyFiles$Count" = some m.cls := findClass_of_methodNamed Bd.named
  have hnm := (name_of_methodNamed Bd.named Bd.method).1
  have X0 : Stand p l e ({ frames := 1, cells := 0, slots := 0, locals := 12 } : Room) s m #[(.ref a1)] below meth c s₁ [] 0 0 := Stand.of_body Bd
  have e0 : s₁.heap = h0 := by rw [← hh, Bd.state]; rfl
  show Go FrameEnd p e below s 0 0 (Q1 Z a1 h0) _
  refine Go.step (fun _ k => castTop (ef_1 m a1) k) ?_
  show Go FrameEnd p e below s 0 0 (Q1 Z a1 h0) (s₁.setTop (mkF m 0 #[.val (.ref a1)] []))
  refine Go.step (fun _ k => XS.aloadN X0.here hx rfl (hb hby d_prog_31_method_1_code_0) rfl rfl k) ?_
  show Go FrameEnd p e below s 0 0 (Q1 Z a1 h0) (s₁.setTop (mkF m 1 #[.val (.ref a1)] [(.ref a1)]))
  obtain ⟨T1, X1, e1, st1⟩ := initO X0 hx hZ hown (hw _ (List.mem_of_getElem? (i := 7) rfl)) (hw _ (List.mem_of_getElem? (i := 8) rfl)) (hw _ (List.mem_of_getElem? (i := 9) rfl)) e0 (g := (mkF m 1 #[.val (.ref a1)] [(.ref a1)])) rfl (by rw [hml]; rfl) rfl (hb hby d_prog_31_method_1_code_1) (by decide) (W := 0) (by show 2 * 0 + _ ≤ _; exact Nat.le_of_eq rfl) (by decide)
  refine Go.step st1 ?_
  show Go FrameEnd p e below s 0 0 (Q1 Z a1 h0) (T1.setTop (mkF m 4 #[.val (.ref a1)] []))
  refine Go.ret0 X1 hx Bd.returns (hb hby d_prog_31_method_1_code_4) (BodyLoose.notSynchronized Bd) e1 (by decide) (by decide) ?_
  exact ⟨rfl, rfl, rfl⟩
def Q2 (Z : State) (a1 : Addr) (q2 : Int64) (u1 : Int64) (u2 : Int64) (h0 : Heap) (v : Option Value) (h : Heap) (L : List Loc) : Prop := v = some (.int (fitsF u1 u2 q2)) ∧ L = [] ∧ h = h0
theorem ef_2 (m : MethodId) (a1 : Addr) (q2 : Int64) : entryFrame m #[(.ref a1), (.long q2)] 3 = mkF m 0 #[.val (.ref a1), .val (.long q2), .second] [] := by first | (simp [entryFrame, mkF, argsToLocals, Value.category]; done) | rfl
set_option maxRecDepth 65536 in
set_option maxHeartbeats 40000000 in
theorem rm2 (l : Launch) (Z : State) (a0 : Array Value) (hw : ∀ d ∈ tables_1, d.before a0 Z = true) (ws : List Jvm.Cond) (a1 : Addr) (q2 : Int64) (u1 : Int64) (u2 : Int64) (h0 : Heap) (F_length_a1 : Fld Z h0 a1 "com/example/ledgertide/ledgertide/core/CopyFiles$Count" "length" "J" (.long u1)) (F_lines_a1 : Fld Z h0 a1 "com/example/ledgertide/ledgertide/core/CopyFiles$Count" "lines" "J" (.long u2)) :
    MetFree l (⟨"com/example/ledgertide/ledgertide/core/CopyFiles$Count", "fits", "(J)Z"⟩ : MethodName) (head1 (Jvm.Cond.code (⟨"com/example/ledgertide/ledgertide/core/CopyFiles$Count", "fits", "(J)Z"⟩ : MethodName) prog_31_method_6_code 3 (some .boolean) :: ws) ({ frames := 0, cells := 0, slots := 0, locals := 0 } : Room)) (fun a U => a = #[(.ref a1), (.long q2)] ∧ Z.Warmed39 U.vm ∧ U.heap = h0) (fun _ _ _ _ _ => True) (fun _ U o U' => ∃ v L, o = .returned v ∧ (Q2 Z a1 q2 u1 u2 h0) v U'.heap L ∧ FrameEnd U o U' L 0 0) := by
  refine MetFree.of_bodySF (plainFor_of_name pn_com_example_ledgertide_ledgertide_core_CopyFiles_Count) hisR ?_
  intro p e s m args below meth c s₁ Bd hml0 hP hK
  obtain ⟨rfl, hZ, hh⟩ := hP
  have hx := Bd.exec
  have hby := Bd.bytes
  have hml : c.maxLocals = 3 := hml0
  have hown : s.vm.findClass "com/example/ledgertide/ledgertide/core/CopyFiles$Count" = some m.cls := findClass_of_methodNamed Bd.named
  have hnm := (name_of_methodNamed Bd.named Bd.method).1
  have X0 : Stand p l e ({ frames := 0, cells := 0, slots := 0, locals := 0 } : Room) s m #[(.ref a1), (.long q2)] below meth c s₁ [] 0 0 := Stand.of_body Bd
  have e0 : s₁.heap = h0 := by rw [← hh, Bd.state]; rfl
  show Go FrameEnd p e below s 0 0 (Q2 Z a1 q2 u1 u2 h0) _
  refine Go.step (fun _ k => castTop (ef_2 m a1 q2) k) ?_
  show Go FrameEnd p e below s 0 0 (Q2 Z a1 q2 u1 u2 h0) (s₁.setTop (mkF m 0 #[.val (.ref a1), .val (.long q2), .second] []))
  refine Go.step (fun _ k => XS.aloadN X0.here hx rfl (hb hby d_prog_31_method_6_code_0) rfl rfl k) ?_
  show Go FrameEnd p e below s 0 0 (Q2 Z a1 q2 u1 u2 h0) (s₁.setTop (mkF m 1 #[.val (.ref a1), .val (.long q2), .second] [(.ref a1)]))
  obtain ⟨T1, X1, e1, st1⟩ := getF X0 hx hZ hown (host := "") (Or.inl (hw _ (List.mem_of_getElem? (i := 15) rfl))) Via.refl e0 F_length_a1 (g := (mkF m 1 #[.val (.ref a1), .val (.long q2), .second] [(.ref a1)])) rfl rfl (hb hby d_prog_31_method_6_code_1)
  refine Go.step st1 ?_
  show Go FrameEnd p e below s 0 0 (Q2 Z a1 q2 u1 u2 h0) (T1.setTop (mkF m 4 #[.val (.ref a1), .val (.long q2), .second] [(.long u1)]))
  refine Go.step (fun _ k => XS.lconst X1.here hx rfl (hb hby d_prog_31_method_6_code_4) k) ?_
  show Go FrameEnd p e below s 0 0 (Q2 Z a1 q2 u1 u2 h0) (T1.setTop (mkF m 5 #[.val (.ref a1), .val (.long q2), .second] [(.long (0 : Int64)), (.long u1)]))
  refine Go.step (fun _ k => XS.lcmp X1.here hx rfl (hb hby d_prog_31_method_6_code_5) rfl k) ?_
  show Go FrameEnd p e below s 0 0 (Q2 Z a1 q2 u1 u2 h0) (T1.setTop (mkF m 6 #[.val (.ref a1), .val (.long q2), .second] [(.int (lcmpW u1 (0 : Int64)))]))
  by_cases h1 : u1 < (0 : Int64)
  · skip
    refine Go.step (fun _ k => XS.ifYes X1.here hx rfl (pc0 := 6) (pc' := 31) rfl (hb hby d_prog_31_method_6_code_6) rfl ((if0 _ _).trans (tlt ((lw_lt _ _).mpr h1)).1) (by decide) (by decide) k) ?_
    show Go FrameEnd p e below s 0 0 (Q2 Z a1 q2 u1 u2 h0) (T1.setTop (mkF m 31 #[.val (.ref a1), .val (.long q2), .second] []))
    refine Go.step (fun _ k => XS.iconst X1.here hx rfl (hb hby d_prog_31_method_6_code_31) k) ?_
    show Go FrameEnd p e below s 0 0 (Q2 Z a1 q2 u1 u2 h0) (T1.setTop (mkF m 32 #[.val (.ref a1), .val (.long q2), .second] [(.int (0 : Int32))]))
    refine Go.retN X1 hx (t := .boolean) Bd.returns (by simp) (by decide) (hb hby d_prog_31_method_6_code_32) (BodyLoose.notSynchronized Bd) e1 (by decide) (by decide) ?_
    exact ⟨by simp [fitsF, *], rfl, rfl⟩
  · skip
    refine Go.step (fun _ k => XS.ifNo X1.here hx rfl (hb hby d_prog_31_method_6_code_6) rfl ((if0 _ _).trans (flt (mt (lw_lt _ _).mp h1)).1) k) ?_
    show Go FrameEnd p e below s 0 0 (Q2 Z a1 q2 u1 u2 h0) (T1.setTop (mkF m 9 #[.val (.ref a1), .val (.long q2), .second] []))
    refine Go.step (fun _ k => XS.aloadN X1.here hx rfl (hb hby d_prog_31_method_6_code_9) rfl rfl k) ?_
    show Go FrameEnd p e below s 0 0 (Q2 Z a1 q2 u1 u2 h0) (T1.setTop (mkF m 10 #[.val (.ref a1), .val (.long q2), .second] [(.ref a1)]))
    obtain ⟨T2, X2, e2, st2⟩ := getF X1 hx hZ hown (host := "") (Or.inl (hw _ (List.mem_of_getElem? (i := 15) rfl))) Via.refl e1 F_length_a1 (g := (mkF m 10 #[.val (.ref a1), .val (.long q2), .second] [(.ref a1)])) rfl rfl (hb hby d_prog_31_method_6_code_10)
    refine Go.step st2 ?_
    show Go FrameEnd p e below s 0 0 (Q2 Z a1 q2 u1 u2 h0) (T2.setTop (mkF m 13 #[.val (.ref a1), .val (.long q2), .second] [(.long u1)]))
    refine Go.step (fun _ k => XS.lloadN X2.here hx rfl (hb hby d_prog_31_method_6_code_13) rfl k) ?_
    show Go FrameEnd p e below s 0 0 (Q2 Z a1 q2 u1 u2 h0) (T2.setTop (mkF m 14 #[.val (.ref a1), .val (.long q2), .second] [(.long q2), (.long u1)]))
    refine Go.step (fun _ k => XS.lcmp X2.here hx rfl (hb hby d_prog_31_method_6_code_14) rfl k) ?_
    show Go FrameEnd p e below s 0 0 (Q2 Z a1 q2 u1 u2 h0) (T2.setTop (mkF m 15 #[.val (.ref a1), .val (.long q2), .second] [(.int (lcmpW u1 q2))]))
    by_cases h2 : q2 < u1
    · skip
      refine Go.step (fun _ k => XS.ifYes X2.here hx rfl (pc0 := 15) (pc' := 31) rfl (hb hby d_prog_31_method_6_code_15) rfl ((if0 _ _).trans (tlt ((lw_gt _ _).mpr h2)).2.2.1) (by decide) (by decide) k) ?_
      show Go FrameEnd p e below s 0 0 (Q2 Z a1 q2 u1 u2 h0) (T2.setTop (mkF m 31 #[.val (.ref a1), .val (.long q2), .second] []))
      refine Go.step (fun _ k => XS.iconst X2.here hx rfl (hb hby d_prog_31_method_6_code_31) k) ?_
      show Go FrameEnd p e below s 0 0 (Q2 Z a1 q2 u1 u2 h0) (T2.setTop (mkF m 32 #[.val (.ref a1), .val (.long q2), .second] [(.int (0 : Int32))]))
      refine Go.retN X2 hx (t := .boolean) Bd.returns (by simp) (by decide) (hb hby d_prog_31_method_6_code_32) (BodyLoose.notSynchronized Bd) e2 (by decide) (by decide) ?_
      exact ⟨by simp [fitsF, *], rfl, rfl⟩
    · skip
      refine Go.step (fun _ k => XS.ifNo X2.here hx rfl (hb hby d_prog_31_method_6_code_15) rfl ((if0 _ _).trans (flt (mt (lw_gt _ _).mp h2)).2.2.1) k) ?_
      show Go FrameEnd p e below s 0 0 (Q2 Z a1 q2 u1 u2 h0) (T2.setTop (mkF m 18 #[.val (.ref a1), .val (.long q2), .second] []))
      refine Go.step (fun _ k => XS.aloadN X2.here hx rfl (hb hby d_prog_31_method_6_code_18) rfl rfl k) ?_
      show Go FrameEnd p e below s 0 0 (Q2 Z a1 q2 u1 u2 h0) (T2.setTop (mkF m 19 #[.val (.ref a1), .val (.long q2), .second] [(.ref a1)]))
      obtain ⟨T3, X3, e3, st3⟩ := getF X2 hx hZ hown (host := "") (Or.inl (hw _ (List.mem_of_getElem? (i := 17) rfl))) Via.refl e2 F_lines_a1 (g := (mkF m 19 #[.val (.ref a1), .val (.long q2), .second] [(.ref a1)])) rfl rfl (hb hby d_prog_31_method_6_code_19)
      refine Go.step st3 ?_
      show Go FrameEnd p e below s 0 0 (Q2 Z a1 q2 u1 u2 h0) (T3.setTop (mkF m 22 #[.val (.ref a1), .val (.long q2), .second] [(.long u2)]))
      refine Go.step (fun _ k => XS.lconst X3.here hx rfl (hb hby d_prog_31_method_6_code_22) k) ?_
      show Go FrameEnd p e below s 0 0 (Q2 Z a1 q2 u1 u2 h0) (T3.setTop (mkF m 23 #[.val (.ref a1), .val (.long q2), .second] [(.long (0 : Int64)), (.long u2)]))
      refine Go.step (fun _ k => XS.lcmp X3.here hx rfl (hb hby d_prog_31_method_6_code_23) rfl k) ?_
      show Go FrameEnd p e below s 0 0 (Q2 Z a1 q2 u1 u2 h0) (T3.setTop (mkF m 24 #[.val (.ref a1), .val (.long q2), .second] [(.int (lcmpW u2 (0 : Int64)))]))
      by_cases h3 : u2 < (0 : Int64)
      · skip
        refine Go.step (fun _ k => XS.ifYes X3.here hx rfl (pc0 := 24) (pc' := 31) rfl (hb hby d_prog_31_method_6_code_24) rfl ((if0 _ _).trans (tlt ((lw_lt _ _).mpr h3)).1) (by decide) (by decide) k) ?_
        show Go FrameEnd p e below s 0 0 (Q2 Z a1 q2 u1 u2 h0) (T3.setTop (mkF m 31 #[.val (.ref a1), .val (.long q2), .second] []))
        refine Go.step (fun _ k => XS.iconst X3.here hx rfl (hb hby d_prog_31_method_6_code_31) k) ?_
        show Go FrameEnd p e below s 0 0 (Q2 Z a1 q2 u1 u2 h0) (T3.setTop (mkF m 32 #[.val (.ref a1), .val (.long q2), .second] [(.int (0 : Int32))]))
        refine Go.retN X3 hx (t := .boolean) Bd.returns (by simp) (by decide) (hb hby d_prog_31_method_6_code_32) (BodyLoose.notSynchronized Bd) e3 (by decide) (by decide) ?_
        exact ⟨by simp [fitsF, *], rfl, rfl⟩
      · skip
        refine Go.step (fun _ k => XS.ifNo X3.here hx rfl (hb hby d_prog_31_method_6_code_24) rfl ((if0 _ _).trans (flt (mt (lw_lt _ _).mp h3)).1) k) ?_
        show Go FrameEnd p e below s 0 0 (Q2 Z a1 q2 u1 u2 h0) (T3.setTop (mkF m 27 #[.val (.ref a1), .val (.long q2), .second] []))
        refine Go.step (fun _ k => XS.iconst X3.here hx rfl (hb hby d_prog_31_method_6_code_27) k) ?_
        show Go FrameEnd p e below s 0 0 (Q2 Z a1 q2 u1 u2 h0) (T3.setTop (mkF m 28 #[.val (.ref a1), .val (.long q2), .second] [(.int (1 : Int32))]))
        refine Go.step (fun _ k => XS.goto X3.here hx rfl (pc0 := 28) (pc' := 32) rfl (hb hby d_prog_31_method_6_code_28) (by decide) (by decide) k) ?_
        show Go FrameEnd p e below s 0 0 (Q2 Z a1 q2 u1 u2 h0) (T3.setTop (mkF m 32 #[.val (.ref a1), .val (.long q2), .second] [(.int (1 : Int32))]))
        refine Go.retN X3 hx (t := .boolean) Bd.returns (by simp) (by decide) (hb hby d_prog_31_method_6_code_32) (BodyLoose.notSynchronized Bd) e3 (by decide) (by decide) ?_
        exact ⟨by simp [fitsF, *], rfl, rfl⟩
def Q3 (Z : State) (a1 : Addr) (q1 : Int64) (q2 : Int64) (u1 : Int64) (u2 : Int64) (h0 : Heap) (n0 : Nat) (v : Option Value) (h : Heap) (L : List Loc) : Prop := v = none ∧ Fr n0 L ∧ (Keep h0 h [a1]) ∧ (Exa Z h a1 "com/example/ledgertide/ledgertide/core/CopyFiles$Count") ∧ (Fld Z h a1 "com/example/ledgertide/ledgertide/core/CopyFiles$Count" "length" "J" (.long q1)) ∧ (Fld Z h a1 "com/example/ledgertide/ledgertide/core/CopyFiles$Count" "lines" "J" (.long q2))
theorem ef_3 (m : MethodId) (a1 : Addr) (q1 : Int64) (q2 : Int64) : entryFrame m #[(.ref a1), (.long q1), (.long q2)] 5 = mkF m 0 #[.val (.ref a1), .val (.long q1), .second, .val (.long q2), .second] [] := by first | (simp [entryFrame, mkF, argsToLocals, Value.category]; done) | rfl
set_option maxRecDepth 65536 in
set_option maxHeartbeats 40000000 in
theorem rm3 (l : Launch) (Z : State) (a0 : Array Value) (hw : ∀ d ∈ tables_1, d.before a0 Z = true) (ws : List Jvm.Cond) (a1 : Addr) (q1 : Int64) (q2 : Int64) (u1 : Int64) (u2 : Int64) (h0 : Heap) (n0 : Nat) (Z0 : n0 ≤ h0.size) (E_a1 : Exa Z h0 a1 "com/example/ledgertide/ledgertide/core/CopyFiles$Count") (F_length_a1 : Fld Z h0 a1 "com/example/ledgertide/ledgertide/core/CopyFiles$Count" "length" "J" (.long u1)) (F_lines_a1 : Fld Z h0 a1 "com/example/ledgertide/ledgertide/core/CopyFiles$Count" "lines" "J" (.long u2)) (g_a1 : n0 ≤ a1) :
    MetFree l (⟨"com/example/ledgertide/ledgertide/core/CopyFiles$Count", "countTo", "(JJ)V"⟩ : MethodName) (head1 (Jvm.Cond.code (⟨"com/example/ledgertide/ledgertide/core/CopyFiles$Count", "countTo", "(JJ)V"⟩ : MethodName) prog_31_method_4_code 5 none :: ws) ({ frames := 0, cells := 0, slots := 0, locals := 0 } : Room)) (fun a U => a = #[(.ref a1), (.long q1), (.long q2)] ∧ Z.Warmed39 U.vm ∧ U.heap = h0) (fun _ _ _ _ _ => True) (fun _ U o U' => ∃ v L, o = .returned v ∧ (Q3 Z a1 q1 q2 u1 u2 h0 n0) v U'.heap L ∧ FrameEnd U o U' L 0 0) := by
  refine MetFree.of_bodySF (plainFor_of_name pn_com_example_ledgertide_ledgertide_core_CopyFiles_Count) hisR ?_
  intro p e s m args below meth c s₁ Bd hml0 hP hK
  obtain ⟨rfl, hZ, hh⟩ := hP
  have hx := Bd.exec
  have hby := Bd.bytes
  have hml : c.maxLocals = 5 := hml0
  have hown : s.vm.findClass "com/example/ledgertide/ledgertide/core/CopyFiles$Count" = some m.cls := findClass_of_methodNamed Bd.named
  have hnm := (name_of_methodNamed Bd.named Bd.method).1
  have X0 : Stand p l e ({ frames := 0, cells := 0, slots := 0, locals := 0 } : Room) s m #[(.ref a1), (.long q1), (.long q2)] below meth c s₁ [] 0 0 := Stand.of_body Bd
  have e0 : s₁.heap = h0 := by rw [← hh, Bd.state]; rfl
  have N0 := Fr.nil n0
  show Go FrameEnd p e below s 0 0 (Q3 Z a1 q1 q2 u1 u2 h0 n0) _
  refine Go.step (fun _ k => castTop (ef_3 m a1 q1 q2) k) ?_
  show Go FrameEnd p e below s 0 0 (Q3 Z a1 q1 q2 u1 u2 h0 n0) (s₁.setTop (mkF m 0 #[.val (.ref a1), .val (.long q1), .second, .val (.long q2), .second] []))
  refine Go.step (fun _ k => XS.aloadN X0.here hx rfl (hb hby d_prog_31_method_4_code_0) rfl rfl k) ?_
  show Go FrameEnd p e below s 0 0 (Q3 Z a1 q1 q2 u1 u2 h0 n0) (s₁.setTop (mkF m 1 #[.val (.ref a1), .val (.long q1), .second, .val (.long q2), .second] [(.ref a1)]))
  refine Go.step (fun _ k => XS.lloadN X0.here hx rfl (hb hby d_prog_31_method_4_code_1) rfl k) ?_
  show Go FrameEnd p e below s 0 0 (Q3 Z a1 q1 q2 u1 u2 h0 n0) (s₁.setTop (mkF m 2 #[.val (.ref a1), .val (.long q1), .second, .val (.long q2), .second] [(.long q1), (.ref a1)]))
  obtain ⟨T1, h1, X1, e1, W1, st1⟩ := putF X0 hx hZ hown (host := "") (Or.inl (hw _ (List.mem_of_getElem? (i := 15) rfl))) Via.refl e0 F_length_a1 E_a1 (Or.inl (hw _ (List.mem_of_getElem? (i := 16) rfl))) (hw _ (List.mem_of_getElem? (i := 2) rfl)) (ty := .long) (by decide) rfl rfl (g := (mkF m 2 #[.val (.ref a1), .val (.long q1), .second, .val (.long q2), .second] [(.long q1), (.ref a1)])) rfl rfl (hb hby d_prog_31_method_4_code_2)
  refine Go.step st1 ?_
  have N1 := Fr.snoc X1 N0 g_a1
  have Z1 : n0 ≤ h1.size := Nat.le_trans Z0 (Keep.of_wr W1).1
  have K01 : Keep h0 h1 [a1] := (Keep.refl h0 [a1]).wr W1 (Or.inl (List.mem_of_getElem? (i := 0) rfl))
  have F1 := F_length_a1.same W1
  show Go FrameEnd p e below s 0 0 (Q3 Z a1 q1 q2 u1 u2 h0 n0) (T1.setTop (mkF m 5 #[.val (.ref a1), .val (.long q1), .second, .val (.long q2), .second] []))
  refine Go.step (fun _ k => XS.aloadN X1.here hx rfl (hb hby d_prog_31_method_4_code_5) rfl rfl k) ?_
  show Go FrameEnd p e below s 0 0 (Q3 Z a1 q1 q2 u1 u2 h0 n0) (T1.setTop (mkF m 6 #[.val (.ref a1), .val (.long q1), .second, .val (.long q2), .second] [(.ref a1)]))
  refine Go.step (fun _ k => XS.lloadN X1.here hx rfl (hb hby d_prog_31_method_4_code_6) rfl k) ?_
  show Go FrameEnd p e below s 0 0 (Q3 Z a1 q1 q2 u1 u2 h0 n0) (T1.setTop (mkF m 7 #[.val (.ref a1), .val (.long q1), .second, .val (.long q2), .second] [(.long q2), (.ref a1)]))
  have f_2 := (F_lines_a1.other W1 (Or.inr (slot_ne (Or.inl (hw _ (List.mem_of_getElem? (i := 18) rfl))) (Or.inl (hw _ (List.mem_of_getElem? (i := 16) rfl))) (by decide) (t := .long) (t' := .long) (by decide) (by decide))))
  obtain ⟨T3, h3, X3, e3, W3, st3⟩ := putF X1 hx hZ hown (host := "") (Or.inl (hw _ (List.mem_of_getElem? (i := 17) rfl))) Via.refl e1 f_2 (E_a1.wr W1) (Or.inl (hw _ (List.mem_of_getElem? (i := 18) rfl))) (hw _ (List.mem_of_getElem? (i := 2) rfl)) (ty := .long) (by decide) rfl rfl (g := (mkF m 7 #[.val (.ref a1), .val (.long q1), .second, .val (.long q2), .second] [(.long q2), (.ref a1)])) rfl rfl (hb hby d_prog_31_method_4_code_7)
  refine Go.step st3 ?_
  have N3 := Fr.snoc X3 N1 g_a1
  have Z3 : n0 ≤ h3.size := Nat.le_trans Z1 (Keep.of_wr W3).1
  have K03 : Keep h0 h3 [a1] := K01.wr W3 (Or.inl (List.mem_of_getElem? (i := 0) rfl))
  have F3 := f_2.same W3
  show Go FrameEnd p e below s 0 0 (Q3 Z a1 q1 q2 u1 u2 h0 n0) (T3.setTop (mkF m 10 #[.val (.ref a1), .val (.long q1), .second, .val (.long q2), .second] []))
  refine Go.ret0 X3 hx Bd.returns (hb hby d_prog_31_method_4_code_10) (BodyLoose.notSynchronized Bd) e3 (by decide) (by decide) ?_
  have f_4 := ((E_a1.wr W1).wr W3)
  have f_5 := (F1.other W3 (Or.inr (slot_ne (Or.inl (hw _ (List.mem_of_getElem? (i := 16) rfl))) (Or.inl (hw _ (List.mem_of_getElem? (i := 18) rfl))) (by decide) (t := .long) (t' := .long) (by decide) (by decide))))
  exact ⟨rfl, N3, K03, f_4, f_5, F3⟩
def Q4 (Z : State) (a1 : Addr) (u1 : Int64) (h0 : Heap) (v : Option Value) (h : Heap) (L : List Loc) : Prop := v = some (.long u1) ∧ L = [] ∧ h = h0
theorem ef_4 (m : MethodId) (a1 : Addr) : entryFrame m #[(.ref a1)] 1 = mkF m 0 #[.val (.ref a1)] [] := by first | (simp [entryFrame, mkF, argsToLocals, Value.category]; done) | rfl
set_option maxRecDepth 65536 in
set_option maxHeartbeats 40000000 in
theorem rm4 (l : Launch) (Z : State) (a0 : Array Value) (hw : ∀ d ∈ tables_1, d.before a0 Z = true) (ws : List Jvm.Cond) (a1 : Addr) (u1 : Int64) (h0 : Heap) (F_length_a1 : Fld Z h0 a1 "com/example/ledgertide/ledgertide/core/CopyFiles$Count" "length" "J" (.long u1)) :
    MetFree l (⟨"com/example/ledgertide/ledgertide/core/CopyFiles$Count", "length", "()J"⟩ : MethodName) (head1 (Jvm.Cond.code (⟨"com/example/ledgertide/ledgertide/core/CopyFiles$Count", "length", "()J"⟩ : MethodName) prog_31_method_2_code 1 (some .long) :: ws) ({ frames := 0, cells := 0, slots := 0, locals := 0 } : Room)) (fun a U => a = #[(.ref a1)] ∧ Z.Warmed39 U.vm ∧ U.heap = h0) (fun _ _ _ _ _ => True) (fun _ U o U' => ∃ v L, o = .returned v ∧ (Q4 Z a1 u1 h0) v U'.heap L ∧ FrameEnd U o U' L 0 0) := by
  refine MetFree.of_bodySF (plainFor_of_name pn_com_example_ledgertide_ledgertide_core_CopyFiles_Count) hisR ?_
  intro p e s m args below meth c s₁ Bd hml0 hP hK
  obtain ⟨rfl, hZ, hh⟩ := hP
  have hx := Bd.exec
  have hby := Bd.bytes
  have hml : c.maxLocals = 1 := hml0
  have hown : s.vm.findClass "com/example/ledgertide/ledgertide/core/CopyFiles$Count" = some m.cls := findClass_of_methodNamed Bd.named
  have hnm := (name_of_methodNamed Bd.named Bd.method).1
  have X0 : Stand p l e ({ frames := 0, cells := 0, slots := 0, locals := 0 } : Room) s m #[(.ref a1)] below meth c s₁ [] 0 0 := Stand.of_body Bd
  have e0 : s₁.heap = h0 := by rw [← hh, Bd.state]; rfl
  show Go FrameEnd p e below s 0 0 (Q4 Z a1 u1 h0) _
  refine Go.step (fun _ k => castTop (ef_4 m a1) k) ?_
  show Go FrameEnd p e below s 0 0 (Q4 Z a1 u1 h0) (s₁.setTop (mkF m 0 #[.val (.ref a1)] []))
  refine Go.step (fun _ k => XS.aloadN X0.here hx rfl (hb hby d_prog_31_method_2_code_0) rfl rfl k) ?_
  show Go FrameEnd p e below s 0 0 (Q4 Z a1 u1 h0) (s₁.setTop (mkF m 1 #[.val (.ref a1)] [(.ref a1)]))
  obtain ⟨T1, X1, e1, st1⟩ := getF X0 hx hZ hown (host := "") (Or.inl (hw _ (List.mem_of_getElem? (i := 15) rfl))) Via.refl e0 F_length_a1 (g := (mkF m 1 #[.val (.ref a1)] [(.ref a1)])) rfl rfl (hb hby d_prog_31_method_2_code_1)
  refine Go.step st1 ?_
  show Go FrameEnd p e below s 0 0 (Q4 Z a1 u1 h0) (T1.setTop (mkF m 4 #[.val (.ref a1)] [(.long u1)]))
  refine Go.retJ X1 hx Bd.returns (hb hby d_prog_31_method_2_code_4) (BodyLoose.notSynchronized Bd) e1 (by decide) (by decide) ?_
  exact ⟨rfl, rfl, rfl⟩
def Q5 (Z : State) (a1 : Addr) (u1 : Int64) (h0 : Heap) (v : Option Value) (h : Heap) (L : List Loc) : Prop := v = some (.long u1) ∧ L = [] ∧ h = h0
theorem ef_5 (m : MethodId) (a1 : Addr) : entryFrame m #[(.ref a1)] 1 = mkF m 0 #[.val (.ref a1)] [] := by first | (simp [entryFrame, mkF, argsToLocals, Value.category]; done) | rfl
set_option maxRecDepth 65536 in
set_option maxHeartbeats 40000000 in
theorem rm5 (l : Launch) (Z : State) (a0 : Array Value) (hw : ∀ d ∈ tables_1, d.before a0 Z = true) (ws : List Jvm.Cond) (a1 : Addr) (u1 : Int64) (h0 : Heap) (F_lines_a1 : Fld Z h0 a1 "com/example/ledgertide/ledgertide/core/CopyFiles$Count" "lines" "J" (.long u1)) :
    MetFree l (⟨"com/example/ledgertide/ledgertide/core/CopyFiles$Count", "lines", "()J"⟩ : MethodName) (head1 (Jvm.Cond.code (⟨"com/example/ledgertide/ledgertide/core/CopyFiles$Count", "lines", "()J"⟩ : MethodName) prog_31_method_3_code 1 (some .long) :: ws) ({ frames := 0, cells := 0, slots := 0, locals := 0 } : Room)) (fun a U => a = #[(.ref a1)] ∧ Z.Warmed39 U.vm ∧ U.heap = h0) (fun _ _ _ _ _ => True) (fun _ U o U' => ∃ v L, o = .returned v ∧ (Q5 Z a1 u1 h0) v U'.heap L ∧ FrameEnd U o U' L 0 0) := by
  refine MetFree.of_bodySF (plainFor_of_name pn_com_example_ledgertide_ledgertide_core_CopyFiles_Count) hisR ?_
  intro p e s m args below meth c s₁ Bd hml0 hP hK
  obtain ⟨rfl, hZ, hh⟩ := hP
  have hx := Bd.exec
  have hby := Bd.bytes
  have hml : c.maxLocals = 1 := hml0
  have hown : s.vm.findClass "com/example/ledgertide/ledgertide/core/CopyFiles$Count" = some m.cls := findClass_of_methodNamed Bd.named
  have hnm := (name_of_methodNamed Bd.named Bd.method).1
  have X0 : Stand p l e ({ frames := 0, cells := 0, slots := 0, locals := 0 } : Room) s m #[(.ref a1)] below meth c s₁ [] 0 0 := Stand.of_body Bd
  have e0 : s₁.heap = h0 := by rw [← hh, Bd.state]; rfl
  show Go FrameEnd p e below s 0 0 (Q5 Z a1 u1 h0) _
  refine Go.step (fun _ k => castTop (ef_5 m a1) k) ?_
  show Go FrameEnd p e below s 0 0 (Q5 Z a1 u1 h0) (s₁.setTop (mkF m 0 #[.val (.ref a1)] []))
  refine Go.step (fun _ k => XS.aloadN X0.here hx rfl (hb hby d_prog_31_method_3_code_0) rfl rfl k) ?_
  show Go FrameEnd p e below s 0 0 (Q5 Z a1 u1 h0) (s₁.setTop (mkF m 1 #[.val (.ref a1)] [(.ref a1)]))
  obtain ⟨T1, X1, e1, st1⟩ := getF X0 hx hZ hown (host := "") (Or.inl (hw _ (List.mem_of_getElem? (i := 17) rfl))) Via.refl e0 F_lines_a1 (g := (mkF m 1 #[.val (.ref a1)] [(.ref a1)])) rfl rfl (hb hby d_prog_31_method_3_code_1)
  refine Go.step st1 ?_
  show Go FrameEnd p e below s 0 0 (Q5 Z a1 u1 h0) (T1.setTop (mkF m 4 #[.val (.ref a1)] [(.long u1)]))
  refine Go.retJ X1 hx Bd.returns (hb hby d_prog_31_method_3_code_4) (BodyLoose.notSynchronized Bd) e1 (by decide) (by decide) ?_
  exact ⟨rfl, rfl, rfl⟩
def Q6 (Z : State) (q1 : Int64) (q2 : Int64) (q3 : Int64) (h0 : Heap) (v : Option Value) (h : Heap) (L : List Loc) : Prop := v = some (.int (expF q1 q2 q3)) ∧ L = [] ∧ h = h0
theorem ef_6 (m : MethodId) (q1 : Int64) (q2 : Int64) (q3 : Int64) : entryFrame m #[(.long q1), (.long q2), (.long q3)] 7 = mkF m 0 #[.val (.long q1), .second, .val (.long q2), .second, .val (.long q3), .second, .unset] [] := by first | (simp [entryFrame, mkF, argsToLocals, Value.category]; done) | rfl
set_option maxRecDepth 65536 in
set_option maxHeartbeats 40000000 in
theorem rm6 (l : Launch) (Z : State) (a0 : Array Value) (hw : ∀ d ∈ tables_1, d.before a0 Z = true) (ws : List Jvm.Cond) (q1 : Int64) (q2 : Int64) (q3 : Int64) (h0 : Heap) :
    MetFree l (⟨"com/example/ledgertide/ledgertide/core/CountFitsPinLaw", "expected", "(JJJ)Z"⟩ : MethodName) (head1 (Jvm.Cond.code (⟨"com/example/ledgertide/ledgertide/core/CountFitsPinLaw", "expected", "(JJJ)Z"⟩ : MethodName) method_2_code 7 (some .boolean) :: ws) ({ frames := 0, cells := 0, slots := 0, locals := 0 } : Room)) (fun a U => a = #[(.long q1), (.long q2), (.long q3)] ∧ Z.Warmed39 U.vm ∧ U.heap = h0) (fun _ _ _ _ _ => True) (fun _ U o U' => ∃ v L, o = .returned v ∧ (Q6 Z q1 q2 q3 h0) v U'.heap L ∧ FrameEnd U o U' L 0 0) := by
  refine MetFree.of_bodySF (plainFor_of_name pn_com_example_ledgertide_ledgertide_core_CountFitsPinLaw) hisR ?_
  intro p e s m args below meth c s₁ Bd hml0 hP hK
  obtain ⟨rfl, hZ, hh⟩ := hP
  have hx := Bd.exec
  have hby := Bd.bytes
  have hml : c.maxLocals = 7 := hml0
  have hown : s.vm.findClass "com/example/ledgertide/ledgertide/core/CountFitsPinLaw" = some m.cls := findClass_of_methodNamed Bd.named
  have hnm := (name_of_methodNamed Bd.named Bd.method).1
  have X0 : Stand p l e ({ frames := 0, cells := 0, slots := 0, locals := 0 } : Room) s m #[(.long q1), (.long q2), (.long q3)] below meth c s₁ [] 0 0 := Stand.of_body Bd
  have e0 : s₁.heap = h0 := by rw [← hh, Bd.state]; rfl
  show Go FrameEnd p e below s 0 0 (Q6 Z q1 q2 q3 h0) _
  refine Go.step (fun _ k => castTop (ef_6 m q1 q2 q3) k) ?_
  show Go FrameEnd p e below s 0 0 (Q6 Z q1 q2 q3 h0) (s₁.setTop (mkF m 0 #[.val (.long q1), .second, .val (.long q2), .second, .val (.long q3), .second, .unset] []))
  refine Go.step (fun _ k => XS.lloadN X0.here hx rfl (hb hby d_method_2_code_0) rfl k) ?_
  show Go FrameEnd p e below s 0 0 (Q6 Z q1 q2 q3 h0) (s₁.setTop (mkF m 1 #[.val (.long q1), .second, .val (.long q2), .second, .val (.long q3), .second, .unset] [(.long q1)]))
  refine Go.step (fun _ k => XS.lconst X0.here hx rfl (hb hby d_method_2_code_1) k) ?_
  show Go FrameEnd p e below s 0 0 (Q6 Z q1 q2 q3 h0) (s₁.setTop (mkF m 2 #[.val (.long q1), .second, .val (.long q2), .second, .val (.long q3), .second, .unset] [(.long (0 : Int64)), (.long q1)]))
  refine Go.step (fun _ k => XS.lcmp X0.here hx rfl (hb hby d_method_2_code_2) rfl k) ?_
  show Go FrameEnd p e below s 0 0 (Q6 Z q1 q2 q3 h0) (s₁.setTop (mkF m 3 #[.val (.long q1), .second, .val (.long q2), .second, .val (.long q3), .second, .unset] [(.int (lcmpW q1 (0 : Int64)))]))
  by_cases h1 : q1 < (0 : Int64)
  · skip
    refine Go.step (fun _ k => XS.ifNo X0.here hx rfl (hb hby d_method_2_code_3) rfl ((if0 _ _).trans (tlt ((lw_lt _ _).mpr h1)).2.1) k) ?_
    show Go FrameEnd p e below s 0 0 (Q6 Z q1 q2 q3 h0) (s₁.setTop (mkF m 6 #[.val (.long q1), .second, .val (.long q2), .second, .val (.long q3), .second, .unset] []))
    refine Go.step (fun _ k => XS.iconst X0.here hx rfl (hb hby d_method_2_code_6) k) ?_
    show Go FrameEnd p e below s 0 0 (Q6 Z q1 q2 q3 h0) (s₁.setTop (mkF m 7 #[.val (.long q1), .second, .val (.long q2), .second, .val (.long q3), .second, .unset] [(.int (0 : Int32))]))
    refine Go.step (fun _ k => XS.istore X0.here hx rfl (hb hby d_method_2_code_7) rfl (l' := #[.val (.long q1), .second, .val (.long q2), .second, .val (.long q3), .second, .val (.int (0 : Int32))]) rfl k) ?_
    show Go FrameEnd p e below s 0 0 (Q6 Z q1 q2 q3 h0) (s₁.setTop (mkF m 9 #[.val (.long q1), .second, .val (.long q2), .second, .val (.long q3), .second, .val (.int (0 : Int32))] []))
    refine Go.step (fun _ k => XS.goto X0.here hx rfl (pc0 := 9) (pc' := 40) rfl (hb hby d_method_2_code_9) (by decide) (by decide) k) ?_
    show Go FrameEnd p e below s 0 0 (Q6 Z q1 q2 q3 h0) (s₁.setTop (mkF m 40 #[.val (.long q1), .second, .val (.long q2), .second, .val (.long q3), .second, .val (.int (0 : Int32))] []))
    refine Go.step (fun _ k => XS.iload X0.here hx rfl (hb hby d_method_2_code_40) rfl k) ?_
    show Go FrameEnd p e below s 0 0 (Q6 Z q1 q2 q3 h0) (s₁.setTop (mkF m 42 #[.val (.long q1), .second, .val (.long q2), .second, .val (.long q3), .second, .val (.int (0 : Int32))] [(.int (0 : Int32))]))
    refine Go.retN X0 hx (t := .boolean) Bd.returns (by simp) (by decide) (hb hby d_method_2_code_42) (BodyLoose.notSynchronized Bd) e0 (by decide) (by decide) ?_
    exact ⟨by simp [expF, *], rfl, rfl⟩
  · skip
    refine Go.step (fun _ k => XS.ifYes X0.here hx rfl (pc0 := 3) (pc' := 12) rfl (hb hby d_method_2_code_3) rfl ((if0 _ _).trans (flt (mt (lw_lt _ _).mp h1)).2.1) (by decide) (by decide) k) ?_
    show Go FrameEnd p e below s 0 0 (Q6 Z q1 q2 q3 h0) (s₁.setTop (mkF m 12 #[.val (.long q1), .second, .val (.long q2), .second, .val (.long q3), .second, .unset] []))
    refine Go.step (fun _ k => XS.lloadN X0.here hx rfl (hb hby d_method_2_code_12) rfl k) ?_
    show Go FrameEnd p e below s 0 0 (Q6 Z q1 q2 q3 h0) (s₁.setTop (mkF m 13 #[.val (.long q1), .second, .val (.long q2), .second, .val (.long q3), .second, .unset] [(.long q2)]))
    refine Go.step (fun _ k => XS.lconst X0.here hx rfl (hb hby d_method_2_code_13) k) ?_
    show Go FrameEnd p e below s 0 0 (Q6 Z q1 q2 q3 h0) (s₁.setTop (mkF m 14 #[.val (.long q1), .second, .val (.long q2), .second, .val (.long q3), .second, .unset] [(.long (0 : Int64)), (.long q2)]))
    refine Go.step (fun _ k => XS.lcmp X0.here hx rfl (hb hby d_method_2_code_14) rfl k) ?_
    show Go FrameEnd p e below s 0 0 (Q6 Z q1 q2 q3 h0) (s₁.setTop (mkF m 15 #[.val (.long q1), .second, .val (.long q2), .second, .val (.long q3), .second, .unset] [(.int (lcmpW q2 (0 : Int64)))]))
    by_cases h2 : q2 < (0 : Int64)
    · skip
      refine Go.step (fun _ k => XS.ifNo X0.here hx rfl (hb hby d_method_2_code_15) rfl ((if0 _ _).trans (tlt ((lw_lt _ _).mpr h2)).2.1) k) ?_
      show Go FrameEnd p e below s 0 0 (Q6 Z q1 q2 q3 h0) (s₁.setTop (mkF m 18 #[.val (.long q1), .second, .val (.long q2), .second, .val (.long q3), .second, .unset] []))
      refine Go.step (fun _ k => XS.iconst X0.here hx rfl (hb hby d_method_2_code_18) k) ?_
      show Go FrameEnd p e below s 0 0 (Q6 Z q1 q2 q3 h0) (s₁.setTop (mkF m 19 #[.val (.long q1), .second, .val (.long q2), .second, .val (.long q3), .second, .unset] [(.int (0 : Int32))]))
      refine Go.step (fun _ k => XS.istore X0.here hx rfl (hb hby d_method_2_code_19) rfl (l' := #[.val (.long q1), .second, .val (.long q2), .second, .val (.long q3), .second, .val (.int (0 : Int32))]) rfl k) ?_
      show Go FrameEnd p e below s 0 0 (Q6 Z q1 q2 q3 h0) (s₁.setTop (mkF m 21 #[.val (.long q1), .second, .val (.long q2), .second, .val (.long q3), .second, .val (.int (0 : Int32))] []))
      refine Go.step (fun _ k => XS.goto X0.here hx rfl (pc0 := 21) (pc' := 40) rfl (hb hby d_method_2_code_21) (by decide) (by decide) k) ?_
      show Go FrameEnd p e below s 0 0 (Q6 Z q1 q2 q3 h0) (s₁.setTop (mkF m 40 #[.val (.long q1), .second, .val (.long q2), .second, .val (.long q3), .second, .val (.int (0 : Int32))] []))
      refine Go.step (fun _ k => XS.iload X0.here hx rfl (hb hby d_method_2_code_40) rfl k) ?_
      show Go FrameEnd p e below s 0 0 (Q6 Z q1 q2 q3 h0) (s₁.setTop (mkF m 42 #[.val (.long q1), .second, .val (.long q2), .second, .val (.long q3), .second, .val (.int (0 : Int32))] [(.int (0 : Int32))]))
      refine Go.retN X0 hx (t := .boolean) Bd.returns (by simp) (by decide) (hb hby d_method_2_code_42) (BodyLoose.notSynchronized Bd) e0 (by decide) (by decide) ?_
      exact ⟨by simp [expF, *], rfl, rfl⟩
    · skip
      refine Go.step (fun _ k => XS.ifYes X0.here hx rfl (pc0 := 15) (pc' := 24) rfl (hb hby d_method_2_code_15) rfl ((if0 _ _).trans (flt (mt (lw_lt _ _).mp h2)).2.1) (by decide) (by decide) k) ?_
      show Go FrameEnd p e below s 0 0 (Q6 Z q1 q2 q3 h0) (s₁.setTop (mkF m 24 #[.val (.long q1), .second, .val (.long q2), .second, .val (.long q3), .second, .unset] []))
      refine Go.step (fun _ k => XS.lloadN X0.here hx rfl (hb hby d_method_2_code_24) rfl k) ?_
      show Go FrameEnd p e below s 0 0 (Q6 Z q1 q2 q3 h0) (s₁.setTop (mkF m 25 #[.val (.long q1), .second, .val (.long q2), .second, .val (.long q3), .second, .unset] [(.long q1)]))
      refine Go.step (fun _ k => XS.lload X0.here hx rfl (hb hby d_method_2_code_25) rfl k) ?_
      show Go FrameEnd p e below s 0 0 (Q6 Z q1 q2 q3 h0) (s₁.setTop (mkF m 27 #[.val (.long q1), .second, .val (.long q2), .second, .val (.long q3), .second, .unset] [(.long q3), (.long q1)]))
      refine Go.step (fun _ k => XS.lcmp X0.here hx rfl (hb hby d_method_2_code_27) rfl k) ?_
      show Go FrameEnd p e below s 0 0 (Q6 Z q1 q2 q3 h0) (s₁.setTop (mkF m 28 #[.val (.long q1), .second, .val (.long q2), .second, .val (.long q3), .second, .unset] [(.int (lcmpW q1 q3))]))
      by_cases h3 : q3 < q1
      · skip
        refine Go.step (fun _ k => XS.ifNo X0.here hx rfl (hb hby d_method_2_code_28) rfl ((if0 _ _).trans (tlt ((lw_gt _ _).mpr h3)).2.2.2) k) ?_
        show Go FrameEnd p e below s 0 0 (Q6 Z q1 q2 q3 h0) (s₁.setTop (mkF m 31 #[.val (.long q1), .second, .val (.long q2), .second, .val (.long q3), .second, .unset] []))
        refine Go.step (fun _ k => XS.iconst X0.here hx rfl (hb hby d_method_2_code_31) k) ?_
        show Go FrameEnd p e below s 0 0 (Q6 Z q1 q2 q3 h0) (s₁.setTop (mkF m 32 #[.val (.long q1), .second, .val (.long q2), .second, .val (.long q3), .second, .unset] [(.int (0 : Int32))]))
        refine Go.step (fun _ k => XS.istore X0.here hx rfl (hb hby d_method_2_code_32) rfl (l' := #[.val (.long q1), .second, .val (.long q2), .second, .val (.long q3), .second, .val (.int (0 : Int32))]) rfl k) ?_
        show Go FrameEnd p e below s 0 0 (Q6 Z q1 q2 q3 h0) (s₁.setTop (mkF m 34 #[.val (.long q1), .second, .val (.long q2), .second, .val (.long q3), .second, .val (.int (0 : Int32))] []))
        refine Go.step (fun _ k => XS.goto X0.here hx rfl (pc0 := 34) (pc' := 40) rfl (hb hby d_method_2_code_34) (by decide) (by decide) k) ?_
        show Go FrameEnd p e below s 0 0 (Q6 Z q1 q2 q3 h0) (s₁.setTop (mkF m 40 #[.val (.long q1), .second, .val (.long q2), .second, .val (.long q3), .second, .val (.int (0 : Int32))] []))
        refine Go.step (fun _ k => XS.iload X0.here hx rfl (hb hby d_method_2_code_40) rfl k) ?_
        show Go FrameEnd p e below s 0 0 (Q6 Z q1 q2 q3 h0) (s₁.setTop (mkF m 42 #[.val (.long q1), .second, .val (.long q2), .second, .val (.long q3), .second, .val (.int (0 : Int32))] [(.int (0 : Int32))]))
        refine Go.retN X0 hx (t := .boolean) Bd.returns (by simp) (by decide) (hb hby d_method_2_code_42) (BodyLoose.notSynchronized Bd) e0 (by decide) (by decide) ?_
        exact ⟨by simp [expF, *], rfl, rfl⟩
      · skip
        refine Go.step (fun _ k => XS.ifYes X0.here hx rfl (pc0 := 28) (pc' := 37) rfl (hb hby d_method_2_code_28) rfl ((if0 _ _).trans (flt (mt (lw_gt _ _).mp h3)).2.2.2) (by decide) (by decide) k) ?_
        show Go FrameEnd p e below s 0 0 (Q6 Z q1 q2 q3 h0) (s₁.setTop (mkF m 37 #[.val (.long q1), .second, .val (.long q2), .second, .val (.long q3), .second, .unset] []))
        refine Go.step (fun _ k => XS.iconst X0.here hx rfl (hb hby d_method_2_code_37) k) ?_
        show Go FrameEnd p e below s 0 0 (Q6 Z q1 q2 q3 h0) (s₁.setTop (mkF m 38 #[.val (.long q1), .second, .val (.long q2), .second, .val (.long q3), .second, .unset] [(.int (1 : Int32))]))
        refine Go.step (fun _ k => XS.istore X0.here hx rfl (hb hby d_method_2_code_38) rfl (l' := #[.val (.long q1), .second, .val (.long q2), .second, .val (.long q3), .second, .val (.int (1 : Int32))]) rfl k) ?_
        show Go FrameEnd p e below s 0 0 (Q6 Z q1 q2 q3 h0) (s₁.setTop (mkF m 40 #[.val (.long q1), .second, .val (.long q2), .second, .val (.long q3), .second, .val (.int (1 : Int32))] []))
        refine Go.step (fun _ k => XS.iload X0.here hx rfl (hb hby d_method_2_code_40) rfl k) ?_
        show Go FrameEnd p e below s 0 0 (Q6 Z q1 q2 q3 h0) (s₁.setTop (mkF m 42 #[.val (.long q1), .second, .val (.long q2), .second, .val (.long q3), .second, .val (.int (1 : Int32))] [(.int (1 : Int32))]))
        refine Go.retN X0 hx (t := .boolean) Bd.returns (by simp) (by decide) (hb hby d_method_2_code_42) (BodyLoose.notSynchronized Bd) e0 (by decide) (by decide) ?_
        exact ⟨by simp [expF, *], rfl, rfl⟩
def Q0 (Z : State) (q1 : Int64) (q2 : Int64) (q3 : Int64) (p4 : Int32) (h0 : Heap) (n0 : Nat) (v : Option Value) (h : Heap) (L : List Loc) : Prop := v = some (.int 1) ∧ Fr n0 L
theorem ef_0 (m : MethodId) (q1 : Int64) (q2 : Int64) (q3 : Int64) (p4 : Int32) : entryFrame m #[(.long q1), (.long q2), (.long q3), (.int p4)] maxLocals = mkF m 0 #[.val (.long q1), .second, .val (.long q2), .second, .val (.long q3), .second, .val (.int p4), .unset, .unset, .unset, .unset, .unset, .unset, .unset] [] := by first | (simp [entryFrame, mkF, argsToLocals, Value.category, maxLocals]; done) | rfl
set_option maxRecDepth 65536 in
set_option maxHeartbeats 40000000 in
theorem rm0 (l : Launch) (Z : State) (a0 : Array Value) (hw : ∀ d ∈ tables_1, d.before a0 Z = true) (ws : List Jvm.Cond) (q1 : Int64) (q2 : Int64) (q3 : Int64) (p4 : Int32) (h0 : Heap) (n0 : Nat) (Z0 : n0 ≤ h0.size) :
    MetFree l x (head1 (Jvm.Cond.code x code maxLocals ret :: ws) room_1) (fun a U => a = #[(.long q1), (.long q2), (.long q3), (.int p4)] ∧ Z.Warmed39 U.vm ∧ U.heap = h0) (fun _ _ _ _ _ => True) (fun _ U o U' => ∃ v L, o = .returned v ∧ (Q0 Z q1 q2 q3 p4 h0 n0) v U'.heap L ∧ FrameEnd U o U' L 16 128) := by
  refine MetFree.of_bodySF (plainFor_of_name pn_com_example_ledgertide_ledgertide_core_CountFitsPinLaw) hisR ?_
  intro p e s m args below meth c s₁ Bd hml0 hP hK
  obtain ⟨rfl, hZ, hh⟩ := hP
  have hx := Bd.exec
  have hby := Bd.bytes
  have hml : c.maxLocals = 14 := hml0
  have hown : s.vm.findClass "com/example/ledgertide/ledgertide/core/CountFitsPinLaw" = some m.cls := findClass_of_methodNamed Bd.named
  have hnm := (name_of_methodNamed Bd.named Bd.method).1
  have X0 : Stand p l e room_1 s m #[(.long q1), (.long q2), (.long q3), (.int p4)] below meth c s₁ [] 0 0 := Stand.of_body Bd
  have e0 : s₁.heap = h0 := by rw [← hh, Bd.state]; rfl
  have N0 := Fr.nil n0
  show Go FrameEnd p e below s 16 128 (Q0 Z q1 q2 q3 p4 h0 n0) _
  refine Go.step (fun _ k => castTop (ef_0 m q1 q2 q3 p4) k) ?_
  show Go FrameEnd p e below s 16 128 (Q0 Z q1 q2 q3 p4 h0 n0) (s₁.setTop (mkF m 0 #[.val (.long q1), .second, .val (.long q2), .second, .val (.long q3), .second, .val (.int p4), .unset, .unset, .unset, .unset, .unset, .unset, .unset] []))
  refine Go.step (fun _ k => XS.iload X0.here hx rfl (hb hby at_0) rfl k) ?_
  show Go FrameEnd p e below s 16 128 (Q0 Z q1 q2 q3 p4 h0 n0) (s₁.setTop (mkF m 2 #[.val (.long q1), .second, .val (.long q2), .second, .val (.long q3), .second, .val (.int p4), .unset, .unset, .unset, .unset, .unset, .unset, .unset] [(.int p4)]))
  refine Go.step (fun _ k => XS.iconst X0.here hx rfl (hb hby at_2) k) ?_
  show Go FrameEnd p e below s 16 128 (Q0 Z q1 q2 q3 p4 h0 n0) (s₁.setTop (mkF m 3 #[.val (.long q1), .second, .val (.long q2), .second, .val (.long q3), .second, .val (.int p4), .unset, .unset, .unset, .unset, .unset, .unset, .unset] [(.int (1 : Int32)), (.int p4)]))
  refine Go.step (fun _ k => XS.iand X0.here hx rfl (hb hby at_3) rfl k) ?_
  show Go FrameEnd p e below s 16 128 (Q0 Z q1 q2 q3 p4 h0 n0) (s₁.setTop (mkF m 4 #[.val (.long q1), .second, .val (.long q2), .second, .val (.long q3), .second, .val (.int p4), .unset, .unset, .unset, .unset, .unset, .unset, .unset] [(.int (p4 &&& (1 : Int32)))]))
  have J25_1 : ∀ (q : Int64), Go FrameEnd p e below s 16 128 (Q0 Z q1 q2 q3 p4 h0 n0) (s₁.setTop (mkF m 25 #[.val (.long q1), .second, .val (.long q2), .second, .val (.long q3), .second, .val (.int p4), .unset, .unset, .unset, .unset, .unset, .unset, .unset] [(.long q)])) := by
    intro q
    show Go FrameEnd p e below s 16 128 (Q0 Z q1 q2 q3 p4 h0 n0) (s₁.setTop (mkF m 25 #[.val (.long q1), .second, .val (.long q2), .second, .val (.long q3), .second, .val (.int p4), .unset, .unset, .unset, .unset, .unset, .unset, .unset] [(.long q)]))
    refine Go.step (fun _ k => XS.lstore X0.here hx rfl (hb hby at_25) rfl (l' := #[.val (.long q1), .second, .val (.long q2), .second, .val (.long q3), .second, .val (.int p4), .val (.long q), .second, .unset, .unset, .unset, .unset, .unset]) rfl k) ?_
    show Go FrameEnd p e below s 16 128 (Q0 Z q1 q2 q3 p4 h0 n0) (s₁.setTop (mkF m 27 #[.val (.long q1), .second, .val (.long q2), .second, .val (.long q3), .second, .val (.int p4), .val (.long q), .second, .unset, .unset, .unset, .unset, .unset] []))
    obtain ⟨T2, h2, X2, e2, E2, A2, D2, -, st2⟩ := newO X0 hx hZ hown (hw _ (List.mem_of_getElem? (i := 1) rfl)) (hw _ (List.mem_of_getElem? (i := 2) rfl)) (hw _ (List.mem_of_getElem? (i := 3) rfl)) e0 (g := (mkF m 27 #[.val (.long q1), .second, .val (.long q2), .second, .val (.long q3), .second, .val (.int p4), .val (.long q), .second, .unset, .unset, .unset, .unset, .unset] [])) rfl (hb hby at_27) (by decide) (by decide)
    refine Go.step st2 ?_
    obtain ⟨b2, g2⟩ : ∃ z, z = h0.size := ⟨_, rfl⟩
    rw [← g2] at A2 D2 ⊢
    have g_b2 : n0 ≤ b2 := Nat.le_trans Z0 (Nat.le_of_eq g2.symm)
    have Z2 : n0 ≤ h2.size := Nat.le_trans Z0 E2.1
    have F2_length : Fld Z h2 b2 "com/example/ledgertide/ledgertide/core/CopyFiles$Count" "length" "J" (.long (0 : Int64)) := D2 (Or.inl (hw _ (List.mem_of_getElem? (i := 16) rfl))) (ty := .long) (by decide)
    have F2_lines : Fld Z h2 b2 "com/example/ledgertide/ledgertide/core/CopyFiles$Count" "lines" "J" (.long (0 : Int64)) := D2 (Or.inl (hw _ (List.mem_of_getElem? (i := 18) rfl))) (ty := .long) (by decide)
    show Go FrameEnd p e below s 16 128 (Q0 Z q1 q2 q3 p4 h0 n0) (T2.setTop (mkF m 30 #[.val (.long q1), .second, .val (.long q2), .second, .val (.long q3), .second, .val (.int p4), .val (.long q), .second, .unset, .unset, .unset, .unset, .unset] [(.ref b2)]))
    refine Go.step (fun _ k => XS.dup X2.here hx rfl (hb hby at_30) rfl rfl k) ?_
    show Go FrameEnd p e below s 16 128 (Q0 Z q1 q2 q3 p4 h0 n0) (T2.setTop (mkF m 31 #[.val (.long q1), .second, .val (.long q2), .second, .val (.long q3), .second, .val (.int p4), .val (.long q), .second, .unset, .unset, .unset, .unset, .unset] [(.ref b2), (.ref b2)]))
    obtain ⟨_, _, ⟨T3, L3, k3, n3⟩, -, X3, ⟨Lc3, hQ3, l3, y3, z3⟩, st3⟩ := X2.specialBack hx (y := (⟨"com/example/ledgertide/ledgertide/core/CopyFiles$Count", "<init>", "()V"⟩ : MethodName)) rfl hown (mvT hZ (hw _ (List.mem_of_getElem? (i := 4) rfl))) (mvT hZ (hw _ (List.mem_of_getElem? (i := 5) rfl))) (mvT hZ (hw _ (List.mem_of_getElem? (i := 6) rfl))) (by decide) (backOf (W := 1) (rm1 l Z a0 hw [] b2  h2 ) hZ (hw _ (List.mem_of_getElem? (i := 6) rfl)) (hw _ (List.mem_of_getElem? (i := 3) rfl)) (by decide) (by decide)) (g := (mkF m 31 #[.val (.long q1), .second, .val (.long q2), .second, .val (.long q3), .second, .val (.int p4), .val (.long q), .second, .unset, .unset, .unset, .unset, .unset] [(.ref b2), (.ref b2)])) rfl (by rw [hml]; rfl) (Steps.refl _) (a := b2) (argsL := []) (rest := [(.ref b2)]) (lenOf pd___V rfl) rfl (by show 2 * 0 + _ ≤ _; exact Nat.le_of_eq rfl) (hb hby at_31) (fun _ _ => ⟨rfl, e2, (by decide : 1 + 0 ≤ _), (by decide : 2 + 0 ≤ _)⟩)
    dsimp only [Pt.U, Pt.locs, Pt.cells, Pt.slots] at X3 l3 y3 z3 st3 hQ3
    subst l3 y3 z3
    obtain ⟨rfl, rfl, e3⟩ := hQ3
    have N3 := Fr.app N0 (Fr.nil n0)
    refine Go.hop st3 ?_
    show Go FrameEnd p e below s 16 128 (Q0 Z q1 q2 q3 p4 h0 n0) (T3.setTop (mkF m 34 #[.val (.long q1), .second, .val (.long q2), .second, .val (.long q3), .second, .val (.int p4), .val (.long q), .second, .unset, .unset, .unset, .unset, .unset] [(.ref b2)]))
    refine Go.step (fun _ k => XS.astore X3.here hx rfl (hb hby at_34) rfl rfl (l' := #[.val (.long q1), .second, .val (.long q2), .second, .val (.long q3), .second, .val (.int p4), .val (.long q), .second, .val (.ref b2), .unset, .unset, .unset, .unset]) rfl k) ?_
    show Go FrameEnd p e below s 16 128 (Q0 Z q1 q2 q3 p4 h0 n0) (T3.setTop (mkF m 36 #[.val (.long q1), .second, .val (.long q2), .second, .val (.long q3), .second, .val (.int p4), .val (.long q), .second, .val (.ref b2), .unset, .unset, .unset, .unset] []))
    refine Go.step (fun _ k => XS.aload X3.here hx rfl (hb hby at_36) rfl rfl k) ?_
    show Go FrameEnd p e below s 16 128 (Q0 Z q1 q2 q3 p4 h0 n0) (T3.setTop (mkF m 38 #[.val (.long q1), .second, .val (.long q2), .second, .val (.long q3), .second, .val (.int p4), .val (.long q), .second, .val (.ref b2), .unset, .unset, .unset, .unset] [(.ref b2)]))
    refine Go.step (fun _ k => XS.lload X3.here hx rfl (hb hby at_38) rfl k) ?_
    show Go FrameEnd p e below s 16 128 (Q0 Z q1 q2 q3 p4 h0 n0) (T3.setTop (mkF m 40 #[.val (.long q1), .second, .val (.long q2), .second, .val (.long q3), .second, .val (.int p4), .val (.long q), .second, .val (.ref b2), .unset, .unset, .unset, .unset] [(.long q), (.ref b2)]))
    obtain ⟨cq4, kq4, q4a, q4b, q4c⟩ := isOf hZ e3 A2
    obtain ⟨_, _, ⟨T4, L4, k4, n4⟩, -, X4, ⟨Lc4, hQ4, l4, y4, z4⟩, st4⟩ := X3.virtualBack hx (y := (⟨"com/example/ledgertide/ledgertide/core/CopyFiles$Count", "fits", "(J)Z"⟩ : MethodName)) (z := (⟨"com/example/ledgertide/ledgertide/core/CopyFiles$Count", "fits", "(J)Z"⟩ : MethodName)) hown (mvT hZ (hw _ (List.mem_of_getElem? (i := 10) rfl))) (mvT hZ (hw _ (List.mem_of_getElem? (i := 11) rfl))) (notFace_of_selects (args := #[]) (mvT hZ (hw _ (List.mem_of_getElem? (i := 13) rfl)))) (mvT hZ (hw _ (List.mem_of_getElem? (i := 13) rfl))) (mvT hZ (hw _ (List.mem_of_getElem? (i := 12) rfl))) (by decide) (backOf (W := 0) (rm2 l Z a0 hw [] b2 q (0 : Int64) (0 : Int64) h2 F2_length F2_lines) hZ (hw _ (List.mem_of_getElem? (i := 14) rfl)) (hw _ (List.mem_of_getElem? (i := 3) rfl)) (by decide) (by decide)) q4a q4c (g := (mkF m 40 #[.val (.long q1), .second, .val (.long q2), .second, .val (.long q3), .second, .val (.int p4), .val (.long q), .second, .val (.ref b2), .unset, .unset, .unset, .unset] [(.long q), (.ref b2)])) rfl (by rw [hml]; rfl) (Steps.refl _) (argsL := [(.long q)]) (rest := []) (lenOf pd__J_Z rfl) rfl (by show 2 * 0 + _ ≤ _; exact Nat.le_of_eq rfl) (hb hby at_40) (fun _ _ => ⟨rfl, e3, (by decide : 1 + 0 ≤ _), (by decide : 2 + 0 ≤ _)⟩)
    dsimp only [Pt.U, Pt.locs, Pt.cells, Pt.slots] at X4 l4 y4 z4 st4 hQ4
    subst l4 y4 z4
    obtain ⟨rfl, rfl, e4⟩ := hQ4
    have N4 := Fr.app N3 (Fr.nil n0)
    refine Go.hop st4 ?_
    show Go FrameEnd p e below s 16 128 (Q0 Z q1 q2 q3 p4 h0 n0) (T4.setTop (mkF m 43 #[.val (.long q1), .second, .val (.long q2), .second, .val (.long q3), .second, .val (.int p4), .val (.long q), .second, .val (.ref b2), .unset, .unset, .unset, .unset] [(.int (fitsF (0 : Int64) (0 : Int64) q))]))
    refine Go.step (fun _ k => XS.istore X4.here hx rfl (hb hby at_43) rfl (l' := #[.val (.long q1), .second, .val (.long q2), .second, .val (.long q3), .second, .val (.int p4), .val (.long q), .second, .val (.ref b2), .val (.int (fitsF (0 : Int64) (0 : Int64) q)), .unset, .unset, .unset]) rfl k) ?_
    show Go FrameEnd p e below s 16 128 (Q0 Z q1 q2 q3 p4 h0 n0) (T4.setTop (mkF m 45 #[.val (.long q1), .second, .val (.long q2), .second, .val (.long q3), .second, .val (.int p4), .val (.long q), .second, .val (.ref b2), .val (.int (fitsF (0 : Int64) (0 : Int64) q)), .unset, .unset, .unset] []))
    refine Go.step (fun _ k => XS.iload X4.here hx rfl (hb hby at_45) rfl k) ?_
    show Go FrameEnd p e below s 16 128 (Q0 Z q1 q2 q3 p4 h0 n0) (T4.setTop (mkF m 47 #[.val (.long q1), .second, .val (.long q2), .second, .val (.long q3), .second, .val (.int p4), .val (.long q), .second, .val (.ref b2), .val (.int (fitsF (0 : Int64) (0 : Int64) q)), .unset, .unset, .unset] [(.int (fitsF (0 : Int64) (0 : Int64) q))]))
    refine Go.step (fun _ k => XS.lload X4.here hx rfl (hb hby at_47) rfl k) ?_
    show Go FrameEnd p e below s 16 128 (Q0 Z q1 q2 q3 p4 h0 n0) (T4.setTop (mkF m 49 #[.val (.long q1), .second, .val (.long q2), .second, .val (.long q3), .second, .val (.int p4), .val (.long q), .second, .val (.ref b2), .val (.int (fitsF (0 : Int64) (0 : Int64) q)), .unset, .unset, .unset] [(.long q), (.int (fitsF (0 : Int64) (0 : Int64) q))]))
    refine Go.step (fun _ k => XS.lconst X4.here hx rfl (hb hby at_49) k) ?_
    show Go FrameEnd p e below s 16 128 (Q0 Z q1 q2 q3 p4 h0 n0) (T4.setTop (mkF m 50 #[.val (.long q1), .second, .val (.long q2), .second, .val (.long q3), .second, .val (.int p4), .val (.long q), .second, .val (.ref b2), .val (.int (fitsF (0 : Int64) (0 : Int64) q)), .unset, .unset, .unset] [(.long (0 : Int64)), (.long q), (.int (fitsF (0 : Int64) (0 : Int64) q))]))
    refine Go.step (fun _ k => XS.lcmp X4.here hx rfl (hb hby at_50) rfl k) ?_
    show Go FrameEnd p e below s 16 128 (Q0 Z q1 q2 q3 p4 h0 n0) (T4.setTop (mkF m 51 #[.val (.long q1), .second, .val (.long q2), .second, .val (.long q3), .second, .val (.int p4), .val (.long q), .second, .val (.ref b2), .val (.int (fitsF (0 : Int64) (0 : Int64) q)), .unset, .unset, .unset] [(.int (lcmpW q (0 : Int64))), (.int (fitsF (0 : Int64) (0 : Int64) q))]))
    have J67_5 : Go FrameEnd p e below s 16 128 (Q0 Z q1 q2 q3 p4 h0 n0) (T4.setTop (mkF m 67 #[.val (.long q1), .second, .val (.long q2), .second, .val (.long q3), .second, .val (.int p4), .val (.long q), .second, .val (.ref b2), .val (.int (fitsF (0 : Int64) (0 : Int64) q)), .unset, .unset, .unset] [(.int (1 : Int32))])) := by
      skip
      show Go FrameEnd p e below s 16 128 (Q0 Z q1 q2 q3 p4 h0 n0) (T4.setTop (mkF m 67 #[.val (.long q1), .second, .val (.long q2), .second, .val (.long q3), .second, .val (.int p4), .val (.long q), .second, .val (.ref b2), .val (.int (fitsF (0 : Int64) (0 : Int64) q)), .unset, .unset, .unset] [(.int (1 : Int32))]))
      refine Go.step (fun _ k => XS.istore X4.here hx rfl (hb hby at_67) rfl (l' := #[.val (.long q1), .second, .val (.long q2), .second, .val (.long q3), .second, .val (.int p4), .val (.long q), .second, .val (.ref b2), .val (.int (fitsF (0 : Int64) (0 : Int64) q)), .val (.int (1 : Int32)), .unset, .unset]) rfl k) ?_
      show Go FrameEnd p e below s 16 128 (Q0 Z q1 q2 q3 p4 h0 n0) (T4.setTop (mkF m 69 #[.val (.long q1), .second, .val (.long q2), .second, .val (.long q3), .second, .val (.int p4), .val (.long q), .second, .val (.ref b2), .val (.int (fitsF (0 : Int64) (0 : Int64) q)), .val (.int (1 : Int32)), .unset, .unset] []))
      refine Go.step (fun _ k => XS.aload X4.here hx rfl (hb hby at_69) rfl rfl k) ?_
      show Go FrameEnd p e below s 16 128 (Q0 Z q1 q2 q3 p4 h0 n0) (T4.setTop (mkF m 71 #[.val (.long q1), .second, .val (.long q2), .second, .val (.long q3), .second, .val (.int p4), .val (.long q), .second, .val (.ref b2), .val (.int (fitsF (0 : Int64) (0 : Int64) q)), .val (.int (1 : Int32)), .unset, .unset] [(.ref b2)]))
      refine Go.step (fun _ k => XS.lloadN X4.here hx rfl (hb hby at_71) rfl k) ?_
      show Go FrameEnd p e below s 16 128 (Q0 Z q1 q2 q3 p4 h0 n0) (T4.setTop (mkF m 72 #[.val (.long q1), .second, .val (.long q2), .second, .val (.long q3), .second, .val (.int p4), .val (.long q), .second, .val (.ref b2), .val (.int (fitsF (0 : Int64) (0 : Int64) q)), .val (.int (1 : Int32)), .unset, .unset] [(.long q1), (.ref b2)]))
      refine Go.step (fun _ k => XS.lloadN X4.here hx rfl (hb hby at_72) rfl k) ?_
      show Go FrameEnd p e below s 16 128 (Q0 Z q1 q2 q3 p4 h0 n0) (T4.setTop (mkF m 73 #[.val (.long q1), .second, .val (.long q2), .second, .val (.long q3), .second, .val (.int p4), .val (.long q), .second, .val (.ref b2), .val (.int (fitsF (0 : Int64) (0 : Int64) q)), .val (.int (1 : Int32)), .unset, .unset] [(.long q2), (.long q1), (.ref b2)]))
      obtain ⟨cq6, kq6, q6a, q6b, q6c⟩ := isOf hZ e4 A2
      obtain ⟨_, _, ⟨T6, L6, k6, n6⟩, -, X6, ⟨Lc6, hQ6, l6, y6, z6⟩, st6⟩ := X4.virtualBack hx (y := (⟨"com/example/ledgertide/ledgertide/core/CopyFiles$Count", "countTo", "(JJ)V"⟩ : MethodName)) (z := (⟨"com/example/ledgertide/ledgertide/core/CopyFiles$Count", "countTo", "(JJ)V"⟩ : MethodName)) hown (mvT hZ (hw _ (List.mem_of_getElem? (i := 19) rfl))) (mvT hZ (hw _ (List.mem_of_getElem? (i := 20) rfl))) (notFace_of_selects (args := #[]) (mvT hZ (hw _ (List.mem_of_getElem? (i := 22) rfl)))) (mvT hZ (hw _ (List.mem_of_getElem? (i := 22) rfl))) (mvT hZ (hw _ (List.mem_of_getElem? (i := 21) rfl))) (by decide) (backOf (W := 0) (rm3 l Z a0 hw [] b2 q1 q2 (0 : Int64) (0 : Int64) h2 n0 Z2 A2 F2_length F2_lines g_b2) hZ (hw _ (List.mem_of_getElem? (i := 23) rfl)) (hw _ (List.mem_of_getElem? (i := 3) rfl)) (by decide) (by decide)) q6a q6c (g := (mkF m 73 #[.val (.long q1), .second, .val (.long q2), .second, .val (.long q3), .second, .val (.int p4), .val (.long q), .second, .val (.ref b2), .val (.int (fitsF (0 : Int64) (0 : Int64) q)), .val (.int (1 : Int32)), .unset, .unset] [(.long q2), (.long q1), (.ref b2)])) rfl (by rw [hml]; rfl) (Steps.refl _) (argsL := [(.long q1), (.long q2)]) (rest := []) (lenOf pd__JJ_V rfl) rfl (by show 2 * 0 + _ ≤ _; exact Nat.le_of_eq rfl) (hb hby at_73) (fun _ _ => ⟨rfl, e4, (by decide : 1 + 0 ≤ _), (by decide : 2 + 0 ≤ _)⟩)
      dsimp only [Pt.U, Pt.locs, Pt.cells, Pt.slots] at X6 l6 y6 z6 st6 hQ6
      subst l6 y6 z6
      obtain ⟨rfl, N6q, K6_0, xE6_1, xF6_2, xF6_3⟩ := hQ6
      have N6 := Fr.app N4 N6q
      have Z6 : n0 ≤ T6.heap.size := Nat.le_trans Z2 K6_0.1
      refine Go.hop st6 ?_
      show Go FrameEnd p e below s 16 128 (Q0 Z q1 q2 q3 p4 h0 n0) (T6.setTop (mkF m 76 #[.val (.long q1), .second, .val (.long q2), .second, .val (.long q3), .second, .val (.int p4), .val (.long q), .second, .val (.ref b2), .val (.int (fitsF (0 : Int64) (0 : Int64) q)), .val (.int (1 : Int32)), .unset, .unset] []))
      refine Go.step (fun _ k => XS.aload X6.here hx rfl (hb hby at_76) rfl rfl k) ?_
      show Go FrameEnd p e below s 16 128 (Q0 Z q1 q2 q3 p4 h0 n0) (T6.setTop (mkF m 78 #[.val (.long q1), .second, .val (.long q2), .second, .val (.long q3), .second, .val (.int p4), .val (.long q), .second, .val (.ref b2), .val (.int (fitsF (0 : Int64) (0 : Int64) q)), .val (.int (1 : Int32)), .unset, .unset] [(.ref b2)]))
      refine Go.step (fun _ k => XS.lload X6.here hx rfl (hb hby at_78) rfl k) ?_
      show Go FrameEnd p e below s 16 128 (Q0 Z q1 q2 q3 p4 h0 n0) (T6.setTop (mkF m 80 #[.val (.long q1), .second, .val (.long q2), .second, .val (.long q3), .second, .val (.int p4), .val (.long q), .second, .val (.ref b2), .val (.int (fitsF (0 : Int64) (0 : Int64) q)), .val (.int (1 : Int32)), .unset, .unset] [(.long q), (.ref b2)]))
      obtain ⟨cq7, kq7, q7a, q7b, q7c⟩ := isOf hZ rfl xE6_1
      obtain ⟨_, _, ⟨T7, L7, k7, n7⟩, -, X7, ⟨Lc7, hQ7, l7, y7, z7⟩, st7⟩ := X6.virtualBack hx (y := (⟨"com/example/ledgertide/ledgertide/core/CopyFiles$Count", "fits", "(J)Z"⟩ : MethodName)) (z := (⟨"com/example/ledgertide/ledgertide/core/CopyFiles$Count", "fits", "(J)Z"⟩ : MethodName)) hown (mvT hZ (hw _ (List.mem_of_getElem? (i := 10) rfl))) (mvT hZ (hw _ (List.mem_of_getElem? (i := 11) rfl))) (notFace_of_selects (args := #[]) (mvT hZ (hw _ (List.mem_of_getElem? (i := 13) rfl)))) (mvT hZ (hw _ (List.mem_of_getElem? (i := 13) rfl))) (mvT hZ (hw _ (List.mem_of_getElem? (i := 12) rfl))) (by decide) (backOf (W := 0) (rm2 l Z a0 hw [] b2 q q1 q2 T6.heap xF6_2 xF6_3) hZ (hw _ (List.mem_of_getElem? (i := 14) rfl)) (hw _ (List.mem_of_getElem? (i := 3) rfl)) (by decide) (by decide)) q7a q7c (g := (mkF m 80 #[.val (.long q1), .second, .val (.long q2), .second, .val (.long q3), .second, .val (.int p4), .val (.long q), .second, .val (.ref b2), .val (.int (fitsF (0 : Int64) (0 : Int64) q)), .val (.int (1 : Int32)), .unset, .unset] [(.long q), (.ref b2)])) rfl (by rw [hml]; rfl) (Steps.refl _) (argsL := [(.long q)]) (rest := []) (lenOf pd__J_Z rfl) rfl (by show 2 * 0 + _ ≤ _; exact Nat.le_of_eq rfl) (hb hby at_80) (fun _ _ => ⟨rfl, rfl, (by decide : 1 + 0 ≤ _), (by decide : 2 + 0 ≤ _)⟩)
      dsimp only [Pt.U, Pt.locs, Pt.cells, Pt.slots] at X7 l7 y7 z7 st7 hQ7
      subst l7 y7 z7
      obtain ⟨rfl, rfl, e7⟩ := hQ7
      have N7 := Fr.app N6 (Fr.nil n0)
      refine Go.hop st7 ?_
      show Go FrameEnd p e below s 16 128 (Q0 Z q1 q2 q3 p4 h0 n0) (T7.setTop (mkF m 83 #[.val (.long q1), .second, .val (.long q2), .second, .val (.long q3), .second, .val (.int p4), .val (.long q), .second, .val (.ref b2), .val (.int (fitsF (0 : Int64) (0 : Int64) q)), .val (.int (1 : Int32)), .unset, .unset] [(.int (fitsF q1 q2 q))]))
      refine Go.step (fun _ k => XS.istore X7.here hx rfl (hb hby at_83) rfl (l' := #[.val (.long q1), .second, .val (.long q2), .second, .val (.long q3), .second, .val (.int p4), .val (.long q), .second, .val (.ref b2), .val (.int (fitsF (0 : Int64) (0 : Int64) q)), .val (.int (1 : Int32)), .val (.int (fitsF q1 q2 q)), .unset]) rfl k) ?_
      show Go FrameEnd p e below s 16 128 (Q0 Z q1 q2 q3 p4 h0 n0) (T7.setTop (mkF m 85 #[.val (.long q1), .second, .val (.long q2), .second, .val (.long q3), .second, .val (.int p4), .val (.long q), .second, .val (.ref b2), .val (.int (fitsF (0 : Int64) (0 : Int64) q)), .val (.int (1 : Int32)), .val (.int (fitsF q1 q2 q)), .unset] []))
      refine Go.step (fun _ k => XS.aload X7.here hx rfl (hb hby at_85) rfl rfl k) ?_
      show Go FrameEnd p e below s 16 128 (Q0 Z q1 q2 q3 p4 h0 n0) (T7.setTop (mkF m 87 #[.val (.long q1), .second, .val (.long q2), .second, .val (.long q3), .second, .val (.int p4), .val (.long q), .second, .val (.ref b2), .val (.int (fitsF (0 : Int64) (0 : Int64) q)), .val (.int (1 : Int32)), .val (.int (fitsF q1 q2 q)), .unset] [(.ref b2)]))
      obtain ⟨cq8, kq8, q8a, q8b, q8c⟩ := isOf hZ e7 xE6_1
      obtain ⟨_, _, ⟨T8, L8, k8, n8⟩, -, X8, ⟨Lc8, hQ8, l8, y8, z8⟩, st8⟩ := X7.virtualBack hx (y := (⟨"com/example/ledgertide/ledgertide/core/CopyFiles$Count", "length", "()J"⟩ : MethodName)) (z := (⟨"com/example/ledgertide/ledgertide/core/CopyFiles$Count", "length", "()J"⟩ : MethodName)) hown (mvT hZ (hw _ (List.mem_of_getElem? (i := 24) rfl))) (mvT hZ (hw _ (List.mem_of_getElem? (i := 25) rfl))) (notFace_of_selects (args := #[]) (mvT hZ (hw _ (List.mem_of_getElem? (i := 27) rfl)))) (mvT hZ (hw _ (List.mem_of_getElem? (i := 27) rfl))) (mvT hZ (hw _ (List.mem_of_getElem? (i := 26) rfl))) (by decide) (backOf (W := 0) (rm4 l Z a0 hw [] b2 q1 T6.heap xF6_2) hZ (hw _ (List.mem_of_getElem? (i := 28) rfl)) (hw _ (List.mem_of_getElem? (i := 3) rfl)) (by decide) (by decide)) q8a q8c (g := (mkF m 87 #[.val (.long q1), .second, .val (.long q2), .second, .val (.long q3), .second, .val (.int p4), .val (.long q), .second, .val (.ref b2), .val (.int (fitsF (0 : Int64) (0 : Int64) q)), .val (.int (1 : Int32)), .val (.int (fitsF q1 q2 q)), .unset] [(.ref b2)])) rfl (by rw [hml]; rfl) (Steps.refl _) (argsL := []) (rest := []) (lenOf pd___J rfl) rfl (by show 2 * 0 + _ ≤ _; exact Nat.le_of_eq rfl) (hb hby at_87) (fun _ _ => ⟨rfl, e7, (by decide : 1 + 0 ≤ _), (by decide : 2 + 0 ≤ _)⟩)
      dsimp only [Pt.U, Pt.locs, Pt.cells, Pt.slots] at X8 l8 y8 z8 st8 hQ8
      subst l8 y8 z8
      obtain ⟨rfl, rfl, e8⟩ := hQ8
      have N8 := Fr.app N7 (Fr.nil n0)
      refine Go.hop st8 ?_
      show Go FrameEnd p e below s 16 128 (Q0 Z q1 q2 q3 p4 h0 n0) (T8.setTop (mkF m 90 #[.val (.long q1), .second, .val (.long q2), .second, .val (.long q3), .second, .val (.int p4), .val (.long q), .second, .val (.ref b2), .val (.int (fitsF (0 : Int64) (0 : Int64) q)), .val (.int (1 : Int32)), .val (.int (fitsF q1 q2 q)), .unset] [(.long q1)]))
      refine Go.step (fun _ k => XS.lloadN X8.here hx rfl (hb hby at_90) rfl k) ?_
      show Go FrameEnd p e below s 16 128 (Q0 Z q1 q2 q3 p4 h0 n0) (T8.setTop (mkF m 91 #[.val (.long q1), .second, .val (.long q2), .second, .val (.long q3), .second, .val (.int p4), .val (.long q), .second, .val (.ref b2), .val (.int (fitsF (0 : Int64) (0 : Int64) q)), .val (.int (1 : Int32)), .val (.int (fitsF q1 q2 q)), .unset] [(.long q1), (.long q1)]))
      refine Go.step (fun _ k => XS.lcmp X8.here hx rfl (hb hby at_91) rfl k) ?_
      show Go FrameEnd p e below s 16 128 (Q0 Z q1 q2 q3 p4 h0 n0) (T8.setTop (mkF m 92 #[.val (.long q1), .second, .val (.long q2), .second, .val (.long q3), .second, .val (.int p4), .val (.long q), .second, .val (.ref b2), .val (.int (fitsF (0 : Int64) (0 : Int64) q)), .val (.int (1 : Int32)), .val (.int (fitsF q1 q2 q)), .unset] [(.int (lcmpW q1 q1))]))
      refine Go.step (fun _ k => XS.ifNo X8.here hx rfl (hb hby at_92) rfl ((if0 _ _).trans (teq ((lw_eq _ _).mpr rfl)).2) k) ?_
      show Go FrameEnd p e below s 16 128 (Q0 Z q1 q2 q3 p4 h0 n0) (T8.setTop (mkF m 95 #[.val (.long q1), .second, .val (.long q2), .second, .val (.long q3), .second, .val (.int p4), .val (.long q), .second, .val (.ref b2), .val (.int (fitsF (0 : Int64) (0 : Int64) q)), .val (.int (1 : Int32)), .val (.int (fitsF q1 q2 q)), .unset] []))
      refine Go.step (fun _ k => XS.aload X8.here hx rfl (hb hby at_95) rfl rfl k) ?_
      show Go FrameEnd p e below s 16 128 (Q0 Z q1 q2 q3 p4 h0 n0) (T8.setTop (mkF m 97 #[.val (.long q1), .second, .val (.long q2), .second, .val (.long q3), .second, .val (.int p4), .val (.long q), .second, .val (.ref b2), .val (.int (fitsF (0 : Int64) (0 : Int64) q)), .val (.int (1 : Int32)), .val (.int (fitsF q1 q2 q)), .unset] [(.ref b2)]))
      obtain ⟨cq9, kq9, q9a, q9b, q9c⟩ := isOf hZ e8 xE6_1
      obtain ⟨_, _, ⟨T9, L9, k9, n9⟩, -, X9, ⟨Lc9, hQ9, l9, y9, z9⟩, st9⟩ := X8.virtualBack hx (y := (⟨"com/example/ledgertide/ledgertide/core/CopyFiles$Count", "lines", "()J"⟩ : MethodName)) (z := (⟨"com/example/ledgertide/ledgertide/core/CopyFiles$Count", "lines", "()J"⟩ : MethodName)) hown (mvT hZ (hw _ (List.mem_of_getElem? (i := 29) rfl))) (mvT hZ (hw _ (List.mem_of_getElem? (i := 30) rfl))) (notFace_of_selects (args := #[]) (mvT hZ (hw _ (List.mem_of_getElem? (i := 32) rfl)))) (mvT hZ (hw _ (List.mem_of_getElem? (i := 32) rfl))) (mvT hZ (hw _ (List.mem_of_getElem? (i := 31) rfl))) (by decide) (backOf (W := 0) (rm5 l Z a0 hw [] b2 q2 T6.heap xF6_3) hZ (hw _ (List.mem_of_getElem? (i := 33) rfl)) (hw _ (List.mem_of_getElem? (i := 3) rfl)) (by decide) (by decide)) q9a q9c (g := (mkF m 97 #[.val (.long q1), .second, .val (.long q2), .second, .val (.long q3), .second, .val (.int p4), .val (.long q), .second, .val (.ref b2), .val (.int (fitsF (0 : Int64) (0 : Int64) q)), .val (.int (1 : Int32)), .val (.int (fitsF q1 q2 q)), .unset] [(.ref b2)])) rfl (by rw [hml]; rfl) (Steps.refl _) (argsL := []) (rest := []) (lenOf pd___J rfl) rfl (by show 2 * 0 + _ ≤ _; exact Nat.le_of_eq rfl) (hb hby at_97) (fun _ _ => ⟨rfl, e8, (by decide : 1 + 0 ≤ _), (by decide : 2 + 0 ≤ _)⟩)
      dsimp only [Pt.U, Pt.locs, Pt.cells, Pt.slots] at X9 l9 y9 z9 st9 hQ9
      subst l9 y9 z9
      obtain ⟨rfl, rfl, e9⟩ := hQ9
      have N9 := Fr.app N8 (Fr.nil n0)
      refine Go.hop st9 ?_
      show Go FrameEnd p e below s 16 128 (Q0 Z q1 q2 q3 p4 h0 n0) (T9.setTop (mkF m 100 #[.val (.long q1), .second, .val (.long q2), .second, .val (.long q3), .second, .val (.int p4), .val (.long q), .second, .val (.ref b2), .val (.int (fitsF (0 : Int64) (0 : Int64) q)), .val (.int (1 : Int32)), .val (.int (fitsF q1 q2 q)), .unset] [(.long q2)]))
      refine Go.step (fun _ k => XS.lloadN X9.here hx rfl (hb hby at_100) rfl k) ?_
      show Go FrameEnd p e below s 16 128 (Q0 Z q1 q2 q3 p4 h0 n0) (T9.setTop (mkF m 101 #[.val (.long q1), .second, .val (.long q2), .second, .val (.long q3), .second, .val (.int p4), .val (.long q), .second, .val (.ref b2), .val (.int (fitsF (0 : Int64) (0 : Int64) q)), .val (.int (1 : Int32)), .val (.int (fitsF q1 q2 q)), .unset] [(.long q2), (.long q2)]))
      refine Go.step (fun _ k => XS.lcmp X9.here hx rfl (hb hby at_101) rfl k) ?_
      show Go FrameEnd p e below s 16 128 (Q0 Z q1 q2 q3 p4 h0 n0) (T9.setTop (mkF m 102 #[.val (.long q1), .second, .val (.long q2), .second, .val (.long q3), .second, .val (.int p4), .val (.long q), .second, .val (.ref b2), .val (.int (fitsF (0 : Int64) (0 : Int64) q)), .val (.int (1 : Int32)), .val (.int (fitsF q1 q2 q)), .unset] [(.int (lcmpW q2 q2))]))
      refine Go.step (fun _ k => XS.ifNo X9.here hx rfl (hb hby at_102) rfl ((if0 _ _).trans (teq ((lw_eq _ _).mpr rfl)).2) k) ?_
      show Go FrameEnd p e below s 16 128 (Q0 Z q1 q2 q3 p4 h0 n0) (T9.setTop (mkF m 105 #[.val (.long q1), .second, .val (.long q2), .second, .val (.long q3), .second, .val (.int p4), .val (.long q), .second, .val (.ref b2), .val (.int (fitsF (0 : Int64) (0 : Int64) q)), .val (.int (1 : Int32)), .val (.int (fitsF q1 q2 q)), .unset] []))
      refine Go.step (fun _ k => XS.iconst X9.here hx rfl (hb hby at_105) k) ?_
      show Go FrameEnd p e below s 16 128 (Q0 Z q1 q2 q3 p4 h0 n0) (T9.setTop (mkF m 106 #[.val (.long q1), .second, .val (.long q2), .second, .val (.long q3), .second, .val (.int p4), .val (.long q), .second, .val (.ref b2), .val (.int (fitsF (0 : Int64) (0 : Int64) q)), .val (.int (1 : Int32)), .val (.int (fitsF q1 q2 q)), .unset] [(.int (1 : Int32))]))
      refine Go.step (fun _ k => XS.goto X9.here hx rfl (pc0 := 106) (pc' := 110) rfl (hb hby at_106) (by decide) (by decide) k) ?_
      show Go FrameEnd p e below s 16 128 (Q0 Z q1 q2 q3 p4 h0 n0) (T9.setTop (mkF m 110 #[.val (.long q1), .second, .val (.long q2), .second, .val (.long q3), .second, .val (.int p4), .val (.long q), .second, .val (.ref b2), .val (.int (fitsF (0 : Int64) (0 : Int64) q)), .val (.int (1 : Int32)), .val (.int (fitsF q1 q2 q)), .unset] [(.int (1 : Int32))]))
      refine Go.step (fun _ k => XS.istore X9.here hx rfl (hb hby at_110) rfl (l' := #[.val (.long q1), .second, .val (.long q2), .second, .val (.long q3), .second, .val (.int p4), .val (.long q), .second, .val (.ref b2), .val (.int (fitsF (0 : Int64) (0 : Int64) q)), .val (.int (1 : Int32)), .val (.int (fitsF q1 q2 q)), .val (.int (1 : Int32))]) rfl k) ?_
      show Go FrameEnd p e below s 16 128 (Q0 Z q1 q2 q3 p4 h0 n0) (T9.setTop (mkF m 112 #[.val (.long q1), .second, .val (.long q2), .second, .val (.long q3), .second, .val (.int p4), .val (.long q), .second, .val (.ref b2), .val (.int (fitsF (0 : Int64) (0 : Int64) q)), .val (.int (1 : Int32)), .val (.int (fitsF q1 q2 q)), .val (.int (1 : Int32))] []))
      refine Go.step (fun _ k => XS.iload X9.here hx rfl (hb hby at_112) rfl k) ?_
      show Go FrameEnd p e below s 16 128 (Q0 Z q1 q2 q3 p4 h0 n0) (T9.setTop (mkF m 114 #[.val (.long q1), .second, .val (.long q2), .second, .val (.long q3), .second, .val (.int p4), .val (.long q), .second, .val (.ref b2), .val (.int (fitsF (0 : Int64) (0 : Int64) q)), .val (.int (1 : Int32)), .val (.int (fitsF q1 q2 q)), .val (.int (1 : Int32))] [(.int (1 : Int32))]))
      refine Go.step (fun _ k => XS.ifNo X9.here hx rfl (hb hby at_114) rfl ((if0 _ _).trans (feq (by decide)).1) k) ?_
      show Go FrameEnd p e below s 16 128 (Q0 Z q1 q2 q3 p4 h0 n0) (T9.setTop (mkF m 117 #[.val (.long q1), .second, .val (.long q2), .second, .val (.long q3), .second, .val (.int p4), .val (.long q), .second, .val (.ref b2), .val (.int (fitsF (0 : Int64) (0 : Int64) q)), .val (.int (1 : Int32)), .val (.int (fitsF q1 q2 q)), .val (.int (1 : Int32))] []))
      refine Go.step (fun _ k => XS.iload X9.here hx rfl (hb hby at_117) rfl k) ?_
      show Go FrameEnd p e below s 16 128 (Q0 Z q1 q2 q3 p4 h0 n0) (T9.setTop (mkF m 119 #[.val (.long q1), .second, .val (.long q2), .second, .val (.long q3), .second, .val (.int p4), .val (.long q), .second, .val (.ref b2), .val (.int (fitsF (0 : Int64) (0 : Int64) q)), .val (.int (1 : Int32)), .val (.int (fitsF q1 q2 q)), .val (.int (1 : Int32))] [(.int (fitsF q1 q2 q))]))
      refine Go.step (fun _ k => XS.lloadN X9.here hx rfl (hb hby at_119) rfl k) ?_
      show Go FrameEnd p e below s 16 128 (Q0 Z q1 q2 q3 p4 h0 n0) (T9.setTop (mkF m 120 #[.val (.long q1), .second, .val (.long q2), .second, .val (.long q3), .second, .val (.int p4), .val (.long q), .second, .val (.ref b2), .val (.int (fitsF (0 : Int64) (0 : Int64) q)), .val (.int (1 : Int32)), .val (.int (fitsF q1 q2 q)), .val (.int (1 : Int32))] [(.long q1), (.int (fitsF q1 q2 q))]))
      refine Go.step (fun _ k => XS.lloadN X9.here hx rfl (hb hby at_120) rfl k) ?_
      show Go FrameEnd p e below s 16 128 (Q0 Z q1 q2 q3 p4 h0 n0) (T9.setTop (mkF m 121 #[.val (.long q1), .second, .val (.long q2), .second, .val (.long q3), .second, .val (.int p4), .val (.long q), .second, .val (.ref b2), .val (.int (fitsF (0 : Int64) (0 : Int64) q)), .val (.int (1 : Int32)), .val (.int (fitsF q1 q2 q)), .val (.int (1 : Int32))] [(.long q2), (.long q1), (.int (fitsF q1 q2 q))]))
      refine Go.step (fun _ k => XS.lload X9.here hx rfl (hb hby at_121) rfl k) ?_
      show Go FrameEnd p e below s 16 128 (Q0 Z q1 q2 q3 p4 h0 n0) (T9.setTop (mkF m 123 #[.val (.long q1), .second, .val (.long q2), .second, .val (.long q3), .second, .val (.int p4), .val (.long q), .second, .val (.ref b2), .val (.int (fitsF (0 : Int64) (0 : Int64) q)), .val (.int (1 : Int32)), .val (.int (fitsF q1 q2 q)), .val (.int (1 : Int32))] [(.long q), (.long q2), (.long q1), (.int (fitsF q1 q2 q))]))
      obtain ⟨_, _, ⟨T10, L10, k10, n10⟩, -, X10, ⟨Lc10, hQ10, l10, y10, z10⟩, st10⟩ := Jvm.LawKit.callS X9 hx (y := (⟨"com/example/ledgertide/ledgertide/core/CountFitsPinLaw", "expected", "(JJJ)Z"⟩ : MethodName)) hown (mvT hZ (hw _ (List.mem_of_getElem? (i := 34) rfl))) (mvT hZ (hw _ (List.mem_of_getElem? (i := 35) rfl))) (mvT hZ (hw _ (List.mem_of_getElem? (i := 36) rfl))) (mvT hZ (hw _ (List.mem_of_getElem? (i := 37) rfl))) (by decide) (backOf (W := 1) (rm6 l Z a0 hw [] q1 q2 q  T6.heap ) hZ (hw _ (List.mem_of_getElem? (i := 37) rfl)) (hw _ (List.mem_of_getElem? (i := 36) rfl)) (by decide) (by decide)) (g := (mkF m 123 #[.val (.long q1), .second, .val (.long q2), .second, .val (.long q3), .second, .val (.int p4), .val (.long q), .second, .val (.ref b2), .val (.int (fitsF (0 : Int64) (0 : Int64) q)), .val (.int (1 : Int32)), .val (.int (fitsF q1 q2 q)), .val (.int (1 : Int32))] [(.long q), (.long q2), (.long q1), (.int (fitsF q1 q2 q))])) rfl (by rw [hml]; rfl) (argsL := [(.long q1), (.long q2), (.long q)]) (rest := [(.int (fitsF q1 q2 q))]) (lenOf pd__JJJ_Z rfl) rfl (by show 2 * 0 + _ ≤ _; exact Nat.le_of_eq rfl) (hb hby at_123) (fun _ _ => ⟨rfl, e9, (by decide : 1 + 0 ≤ _), (by decide : 2 + 0 ≤ _)⟩)
      dsimp only [Pt.U, Pt.locs, Pt.cells, Pt.slots] at X10 l10 y10 z10 st10 hQ10
      subst l10 y10 z10
      obtain ⟨rfl, rfl, e10⟩ := hQ10
      have N10 := Fr.app N9 (Fr.nil n0)
      refine Go.step st10 ?_
      show Go FrameEnd p e below s 16 128 (Q0 Z q1 q2 q3 p4 h0 n0) (T10.setTop (mkF m 126 #[.val (.long q1), .second, .val (.long q2), .second, .val (.long q3), .second, .val (.int p4), .val (.long q), .second, .val (.ref b2), .val (.int (fitsF (0 : Int64) (0 : Int64) q)), .val (.int (1 : Int32)), .val (.int (fitsF q1 q2 q)), .val (.int (1 : Int32))] [(.int (expF q1 q2 q)), (.int (fitsF q1 q2 q))]))
      refine Go.step (fun _ k => XS.icmpNo X10.here hx rfl (hb hby at_126) rfl (teq (own_fit_exp _ _ _)).2 k) ?_
      show Go FrameEnd p e below s 16 128 (Q0 Z q1 q2 q3 p4 h0 n0) (T10.setTop (mkF m 129 #[.val (.long q1), .second, .val (.long q2), .second, .val (.long q3), .second, .val (.int p4), .val (.long q), .second, .val (.ref b2), .val (.int (fitsF (0 : Int64) (0 : Int64) q)), .val (.int (1 : Int32)), .val (.int (fitsF q1 q2 q)), .val (.int (1 : Int32))] []))
      refine Go.step (fun _ k => XS.iload X10.here hx rfl (hb hby at_129) rfl k) ?_
      show Go FrameEnd p e below s 16 128 (Q0 Z q1 q2 q3 p4 h0 n0) (T10.setTop (mkF m 131 #[.val (.long q1), .second, .val (.long q2), .second, .val (.long q3), .second, .val (.int p4), .val (.long q), .second, .val (.ref b2), .val (.int (fitsF (0 : Int64) (0 : Int64) q)), .val (.int (1 : Int32)), .val (.int (fitsF q1 q2 q)), .val (.int (1 : Int32))] [(.int (1 : Int32))]))
      refine Go.step (fun _ k => XS.ifNo X10.here hx rfl (hb hby at_131) rfl ((if0 _ _).trans (feq (by decide)).1) k) ?_
      show Go FrameEnd p e below s 16 128 (Q0 Z q1 q2 q3 p4 h0 n0) (T10.setTop (mkF m 134 #[.val (.long q1), .second, .val (.long q2), .second, .val (.long q3), .second, .val (.int p4), .val (.long q), .second, .val (.ref b2), .val (.int (fitsF (0 : Int64) (0 : Int64) q)), .val (.int (1 : Int32)), .val (.int (fitsF q1 q2 q)), .val (.int (1 : Int32))] []))
      refine Go.step (fun _ k => XS.iconst X10.here hx rfl (hb hby at_134) k) ?_
      show Go FrameEnd p e below s 16 128 (Q0 Z q1 q2 q3 p4 h0 n0) (T10.setTop (mkF m 135 #[.val (.long q1), .second, .val (.long q2), .second, .val (.long q3), .second, .val (.int p4), .val (.long q), .second, .val (.ref b2), .val (.int (fitsF (0 : Int64) (0 : Int64) q)), .val (.int (1 : Int32)), .val (.int (fitsF q1 q2 q)), .val (.int (1 : Int32))] [(.int (1 : Int32))]))
      refine Go.step (fun _ k => XS.goto X10.here hx rfl (pc0 := 135) (pc' := 139) rfl (hb hby at_135) (by decide) (by decide) k) ?_
      show Go FrameEnd p e below s 16 128 (Q0 Z q1 q2 q3 p4 h0 n0) (T10.setTop (mkF m 139 #[.val (.long q1), .second, .val (.long q2), .second, .val (.long q3), .second, .val (.int p4), .val (.long q), .second, .val (.ref b2), .val (.int (fitsF (0 : Int64) (0 : Int64) q)), .val (.int (1 : Int32)), .val (.int (fitsF q1 q2 q)), .val (.int (1 : Int32))] [(.int (1 : Int32))]))
      refine Go.retN X10 hx (t := .boolean) Bd.returns (by simp) (by decide) (hb hby at_139) (BodyLoose.notSynchronized Bd) e10 (by decide) (by decide) ?_
      exact ⟨rfl, N10⟩
    by_cases hc51 : q < (0 : Int64)
    · skip
      refine Go.step (fun _ k => XS.ifYes X4.here hx rfl (pc0 := 51) (pc' := 58) rfl (hb hby at_51) rfl ((if0 _ _).trans (tlt ((lw_lt _ _).mpr hc51)).1) (by decide) (by decide) k) ?_
      show Go FrameEnd p e below s 16 128 (Q0 Z q1 q2 q3 p4 h0 n0) (T4.setTop (mkF m 58 #[.val (.long q1), .second, .val (.long q2), .second, .val (.long q3), .second, .val (.int p4), .val (.long q), .second, .val (.ref b2), .val (.int (fitsF (0 : Int64) (0 : Int64) q)), .unset, .unset, .unset] [(.int (fitsF (0 : Int64) (0 : Int64) q))]))
      refine Go.step (fun _ k => XS.iconst X4.here hx rfl (hb hby at_58) k) ?_
      show Go FrameEnd p e below s 16 128 (Q0 Z q1 q2 q3 p4 h0 n0) (T4.setTop (mkF m 59 #[.val (.long q1), .second, .val (.long q2), .second, .val (.long q3), .second, .val (.int p4), .val (.long q), .second, .val (.ref b2), .val (.int (fitsF (0 : Int64) (0 : Int64) q)), .unset, .unset, .unset] [(.int (0 : Int32)), (.int (fitsF (0 : Int64) (0 : Int64) q))]))
      refine Go.step (fun _ k => XS.icmpNo X4.here hx rfl (hb hby at_59) rfl (teq (own_fresh_neg hc51)).2 k) ?_
      show Go FrameEnd p e below s 16 128 (Q0 Z q1 q2 q3 p4 h0 n0) (T4.setTop (mkF m 62 #[.val (.long q1), .second, .val (.long q2), .second, .val (.long q3), .second, .val (.int p4), .val (.long q), .second, .val (.ref b2), .val (.int (fitsF (0 : Int64) (0 : Int64) q)), .unset, .unset, .unset] []))
      refine Go.step (fun _ k => XS.iconst X4.here hx rfl (hb hby at_62) k) ?_
      show Go FrameEnd p e below s 16 128 (Q0 Z q1 q2 q3 p4 h0 n0) (T4.setTop (mkF m 63 #[.val (.long q1), .second, .val (.long q2), .second, .val (.long q3), .second, .val (.int p4), .val (.long q), .second, .val (.ref b2), .val (.int (fitsF (0 : Int64) (0 : Int64) q)), .unset, .unset, .unset] [(.int (1 : Int32))]))
      refine Go.step (fun _ k => XS.goto X4.here hx rfl (pc0 := 63) (pc' := 67) rfl (hb hby at_63) (by decide) (by decide) k) ?_
      exact J67_5  
    · skip
      refine Go.step (fun _ k => XS.ifNo X4.here hx rfl (hb hby at_51) rfl ((if0 _ _).trans (flt (mt (lw_lt _ _).mp hc51)).1) k) ?_
      show Go FrameEnd p e below s 16 128 (Q0 Z q1 q2 q3 p4 h0 n0) (T4.setTop (mkF m 54 #[.val (.long q1), .second, .val (.long q2), .second, .val (.long q3), .second, .val (.int p4), .val (.long q), .second, .val (.ref b2), .val (.int (fitsF (0 : Int64) (0 : Int64) q)), .unset, .unset, .unset] [(.int (fitsF (0 : Int64) (0 : Int64) q))]))
      refine Go.step (fun _ k => XS.iconst X4.here hx rfl (hb hby at_54) k) ?_
      show Go FrameEnd p e below s 16 128 (Q0 Z q1 q2 q3 p4 h0 n0) (T4.setTop (mkF m 55 #[.val (.long q1), .second, .val (.long q2), .second, .val (.long q3), .second, .val (.int p4), .val (.long q), .second, .val (.ref b2), .val (.int (fitsF (0 : Int64) (0 : Int64) q)), .unset, .unset, .unset] [(.int (1 : Int32)), (.int (fitsF (0 : Int64) (0 : Int64) q))]))
      refine Go.step (fun _ k => XS.goto X4.here hx rfl (pc0 := 55) (pc' := 59) rfl (hb hby at_55) (by decide) (by decide) k) ?_
      show Go FrameEnd p e below s 16 128 (Q0 Z q1 q2 q3 p4 h0 n0) (T4.setTop (mkF m 59 #[.val (.long q1), .second, .val (.long q2), .second, .val (.long q3), .second, .val (.int p4), .val (.long q), .second, .val (.ref b2), .val (.int (fitsF (0 : Int64) (0 : Int64) q)), .unset, .unset, .unset] [(.int (1 : Int32)), (.int (fitsF (0 : Int64) (0 : Int64) q))]))
      refine Go.step (fun _ k => XS.icmpNo X4.here hx rfl (hb hby at_59) rfl (teq (own_fresh_pos hc51)).2 k) ?_
      show Go FrameEnd p e below s 16 128 (Q0 Z q1 q2 q3 p4 h0 n0) (T4.setTop (mkF m 62 #[.val (.long q1), .second, .val (.long q2), .second, .val (.long q3), .second, .val (.int p4), .val (.long q), .second, .val (.ref b2), .val (.int (fitsF (0 : Int64) (0 : Int64) q)), .unset, .unset, .unset] []))
      refine Go.step (fun _ k => XS.iconst X4.here hx rfl (hb hby at_62) k) ?_
      show Go FrameEnd p e below s 16 128 (Q0 Z q1 q2 q3 p4 h0 n0) (T4.setTop (mkF m 63 #[.val (.long q1), .second, .val (.long q2), .second, .val (.long q3), .second, .val (.int p4), .val (.long q), .second, .val (.ref b2), .val (.int (fitsF (0 : Int64) (0 : Int64) q)), .unset, .unset, .unset] [(.int (1 : Int32))]))
      refine Go.step (fun _ k => XS.goto X4.here hx rfl (pc0 := 63) (pc' := 67) rfl (hb hby at_63) (by decide) (by decide) k) ?_
      exact J67_5  
  by_cases hc4 : (p4 &&& (1 : Int32)) = (0 : Int32)
  · skip
    refine Go.step (fun _ k => XS.ifYes X0.here hx rfl (pc0 := 4) (pc' := 12) rfl (hb hby at_4) rfl ((if0 _ _).trans (teq hc4).1) (by decide) (by decide) k) ?_
    show Go FrameEnd p e below s 16 128 (Q0 Z q1 q2 q3 p4 h0 n0) (s₁.setTop (mkF m 12 #[.val (.long q1), .second, .val (.long q2), .second, .val (.long q3), .second, .val (.int p4), .unset, .unset, .unset, .unset, .unset, .unset, .unset] []))
    refine Go.step (fun _ k => XS.lloadN X0.here hx rfl (hb hby at_12) rfl k) ?_
    show Go FrameEnd p e below s 16 128 (Q0 Z q1 q2 q3 p4 h0 n0) (s₁.setTop (mkF m 13 #[.val (.long q1), .second, .val (.long q2), .second, .val (.long q3), .second, .val (.int p4), .unset, .unset, .unset, .unset, .unset, .unset, .unset] [(.long q1)]))
    refine Go.step (fun _ k => XS.iload X0.here hx rfl (hb hby at_13) rfl k) ?_
    show Go FrameEnd p e below s 16 128 (Q0 Z q1 q2 q3 p4 h0 n0) (s₁.setTop (mkF m 15 #[.val (.long q1), .second, .val (.long q2), .second, .val (.long q3), .second, .val (.int p4), .unset, .unset, .unset, .unset, .unset, .unset, .unset] [(.int p4), (.long q1)]))
    refine Go.step (fun _ k => XS.iconst X0.here hx rfl (hb hby at_15) k) ?_
    show Go FrameEnd p e below s 16 128 (Q0 Z q1 q2 q3 p4 h0 n0) (s₁.setTop (mkF m 16 #[.val (.long q1), .second, .val (.long q2), .second, .val (.long q3), .second, .val (.int p4), .unset, .unset, .unset, .unset, .unset, .unset, .unset] [(.int (1 : Int32)), (.int p4), (.long q1)]))
    refine Go.step (fun _ k => XS.ishr X0.here hx rfl (hb hby at_16) rfl k) ?_
    show Go FrameEnd p e below s 16 128 (Q0 Z q1 q2 q3 p4 h0 n0) (s₁.setTop (mkF m 17 #[.val (.long q1), .second, .val (.long q2), .second, .val (.long q3), .second, .val (.int p4), .unset, .unset, .unset, .unset, .unset, .unset, .unset] [(.int (p4 >>> ((1 : Int32) &&& 31))), (.long q1)]))
    refine Go.step (fun _ k => XS.iconst X0.here hx rfl (hb hby at_17) k) ?_
    show Go FrameEnd p e below s 16 128 (Q0 Z q1 q2 q3 p4 h0 n0) (s₁.setTop (mkF m 18 #[.val (.long q1), .second, .val (.long q2), .second, .val (.long q3), .second, .val (.int p4), .unset, .unset, .unset, .unset, .unset, .unset, .unset] [(.int (3 : Int32)), (.int (p4 >>> ((1 : Int32) &&& 31))), (.long q1)]))
    refine Go.step (fun _ k => XS.iand X0.here hx rfl (hb hby at_18) rfl k) ?_
    show Go FrameEnd p e below s 16 128 (Q0 Z q1 q2 q3 p4 h0 n0) (s₁.setTop (mkF m 19 #[.val (.long q1), .second, .val (.long q2), .second, .val (.long q3), .second, .val (.int p4), .unset, .unset, .unset, .unset, .unset, .unset, .unset] [(.int ((p4 >>> ((1 : Int32) &&& 31)) &&& (3 : Int32))), (.long q1)]))
    refine Go.step (fun _ k => XS.i2l X0.here hx rfl (hb hby at_19) rfl k) ?_
    show Go FrameEnd p e below s 16 128 (Q0 Z q1 q2 q3 p4 h0 n0) (s₁.setTop (mkF m 20 #[.val (.long q1), .second, .val (.long q2), .second, .val (.long q3), .second, .val (.int p4), .unset, .unset, .unset, .unset, .unset, .unset, .unset] [(.long ((p4 >>> ((1 : Int32) &&& 31)) &&& (3 : Int32)).toInt64), (.long q1)]))
    refine Go.step (fun _ k => XS.ladd X0.here hx rfl (hb hby at_20) rfl k) ?_
    show Go FrameEnd p e below s 16 128 (Q0 Z q1 q2 q3 p4 h0 n0) (s₁.setTop (mkF m 21 #[.val (.long q1), .second, .val (.long q2), .second, .val (.long q3), .second, .val (.int p4), .unset, .unset, .unset, .unset, .unset, .unset, .unset] [(.long (q1 + ((p4 >>> ((1 : Int32) &&& 31)) &&& (3 : Int32)).toInt64))]))
    refine Go.step (X0.ldc2Long hx hown (mvT hZ (hw _ (List.mem_of_getElem? (i := 0) rfl))) (g := (mkF m 21 #[.val (.long q1), .second, .val (.long q2), .second, .val (.long q3), .second, .val (.int p4), .unset, .unset, .unset, .unset, .unset, .unset, .unset] [(.long (q1 + ((p4 >>> ((1 : Int32) &&& 31)) &&& (3 : Int32)).toInt64))])) rfl (hb hby at_21)) ?_
    show Go FrameEnd p e below s 16 128 (Q0 Z q1 q2 q3 p4 h0 n0) (s₁.setTop (mkF m 24 #[.val (.long q1), .second, .val (.long q2), .second, .val (.long q3), .second, .val (.int p4), .unset, .unset, .unset, .unset, .unset, .unset, .unset] [(.long (2 : Int64)), (.long (q1 + ((p4 >>> ((1 : Int32) &&& 31)) &&& (3 : Int32)).toInt64))]))
    refine Go.step (fun _ k => XS.lsub X0.here hx rfl (hb hby at_24) rfl k) ?_
    exact J25_1  ((q1 + ((p4 >>> ((1 : Int32) &&& 31)) &&& (3 : Int32)).toInt64) - (2 : Int64))
  · skip
    refine Go.step (fun _ k => XS.ifNo X0.here hx rfl (hb hby at_4) rfl ((if0 _ _).trans (feq hc4).1) k) ?_
    show Go FrameEnd p e below s 16 128 (Q0 Z q1 q2 q3 p4 h0 n0) (s₁.setTop (mkF m 7 #[.val (.long q1), .second, .val (.long q2), .second, .val (.long q3), .second, .val (.int p4), .unset, .unset, .unset, .unset, .unset, .unset, .unset] []))
    refine Go.step (fun _ k => XS.lload X0.here hx rfl (hb hby at_7) rfl k) ?_
    show Go FrameEnd p e below s 16 128 (Q0 Z q1 q2 q3 p4 h0 n0) (s₁.setTop (mkF m 9 #[.val (.long q1), .second, .val (.long q2), .second, .val (.long q3), .second, .val (.int p4), .unset, .unset, .unset, .unset, .unset, .unset, .unset] [(.long q3)]))
    refine Go.step (fun _ k => XS.goto X0.here hx rfl (pc0 := 9) (pc' := 25) rfl (hb hby at_9) (by decide) (by decide) k) ?_
    exact J25_1  q3
set_option maxRecDepth 65536 in
set_option maxHeartbeats 40000000 in
theorem comes_1 {Post : Tables → Env → Array Value → State → Outcome → State → Prop} (hpost : ∀ tb e args s v u, (limb_1_1.after args s (.returned v) u = true ∧ limb_1_2.after args s (.returned v) u = true ∧ True) → FrameEnd s (.returned v) u (Jvm.fieldLocs frame_1_writes args s ++ Jvm.arrayLocs frame_1_arrays args s ++ Jvm.staticLocs frame_1_statics s) 16 128 → Post tb e args s (.returned v) u) :
    ArmFor flags0 classFile x code maxLocals ret World_1 tables_1 room_1 Calls_1 rest_1 Pre_1 Post := by
  intro l hfl _ _ p e ha hc hk s m args below hf hA hF happ hP
  obtain ⟨hcalls, hrest, hpre⟩ := hP
  obtain ⟨-, -, -, hnamed, -, -, -, hat⟩ := (Spec.applies_iff hf).mp happ
  obtain ⟨hg, hn⟩ := and_e (Cond.before_iff.mp (show (Jvm.Cond.and given_1 narrow_1).before args s = true from hpre))
  obtain ⟨h1, h2⟩ := and_e hg
  obtain ⟨w0, w1, w2, w3, rfl⟩ : ∃ w0 w1 w2 w3 : Value, args = #[w0, w1, w2, w3] := by
    have hs : args.size = 4 := by simpa [Cond.value, given_1] using h1
    obtain ⟨L⟩ := args
    match L, hs with
    | [w0, w1, w2, w3], _ => exact ⟨w0, w1, w2, w3, rfl⟩
  have hw := fun d (hd : d ∈ tables_1) => atoms_spec (ws := Jvm.Cond.code x code maxLocals ret :: tables_1) hat d (List.mem_cons_of_mem _ hd)
  have hfit : Fit s := fun {y c} hc i hi => by
    obtain ⟨ha, rfl⟩ := Array.getElem?_eq_some_iff.mp hc
    have q := List.all_eq_true.mp ((Array.all_eq_true_iff_forall_mem.mp hF) _ (Array.getElem_mem ha)) i (List.mem_range.mpr hi)
    simpa [Array.getElem?_eq_getElem hi] using q
  obtain ⟨c0, r0⟩ := and_e h2
  obtain ⟨i0, q0⟩ := isL_v c0
  obtain rfl : w0 = (.long i0) := Option.some.inj q0
  obtain ⟨c1, r1⟩ := and_e r0
  obtain ⟨i1, q1⟩ := isL_v c1
  obtain rfl : w1 = (.long i1) := Option.some.inj q1
  obtain ⟨c2, r2⟩ := and_e r1
  obtain ⟨i2, q2⟩ := isL_v c2
  obtain rfl : w2 = (.long i2) := Option.some.inj q2
  obtain ⟨i3, q3⟩ := is_v r2
  obtain rfl : w3 = (.int i3) := Option.some.inj q3
  obtain ⟨n, o, h1, h2, h3, _, L, rfl, ⟨rfl, N⟩, hq⟩ := rm0 l s _ hw tables_1 i0 i1 i2 i3  s.heap s.heap.size (Nat.le_refl _)  p e ha hc hk s m _ below hf ((Spec.applies_iff_loose hf).mp happ).1 ⟨rfl, State.Warmed39.refl s, rfl⟩ trivial
  refine ⟨n, _, h1, h2, h3, hpost _ _ _ _ _ _ ⟨Cond.after_iff.mpr rfl, Cond.after_iff.mpr (eq_i res_at (Term.int_eval (1)) rfl), trivial⟩ ⟨hq.1, hq.2.1, (hq.2.2.sift fun y hy => Or.inr (N y hy)).mono (by decide) (by decide)⟩⟩
theorem main_1_1 : Claimed_1_1 := comes_1 fun _ _ _ _ _ _ h hF => ⟨h.1, hF⟩
theorem main_1_2 : Claimed_1_2 := comes_1 fun _ _ _ _ _ _ h hF => ⟨h.2.1, hF⟩
end Jvm.Pilot.@@N@@
namespace Jvm.Pilot.@@N@@
open Jvm Jvm.ClassFile Sem Op Lib Jvm.Free Jvm.Stand Jvm.Pilot.@@N@@.Jvm.D
/-! MADE BY PROGRAM (witnessworld.py) out of the Statement's table words and the real class files: 9 classes; the members and pool entries that the words name. The judged class is class 1, her method 2. -/
namespace start1
open Jvm.ClassFile
def u (s : String) : CpInfo := .utf8 (stringToUtf16 s)
/-- a pool by its gaps: so many unusable entries, then the entry; so many at the end -/
def gap : Nat → List CpInfo → List CpInfo
  | 0, r => r
  | n + 1, r => .unusable :: gap n r
def poolList (es : List (Nat × CpInfo)) (last : Nat) : List CpInfo := es.foldr (fun e r => gap e.1 (e.2 :: r)) (gap last [])
def pool (es : List (Nat × CpInfo)) (last : Nat) : Array CpInfo := ⟨poolList es last⟩
def fileOf (pool : Array CpInfo) (this : Nat) (attrs : Array Attribute := #[]) (ms : Array MethodInfo := #[]) (fl : Nat := 33) (sup : Nat := 0) (ifs : Array Nat := #[]) (fds : Array FieldInfo := #[]) : ClassFile where
  minorVersion := 0
  majorVersion := 65
  constantPool := pool
  accessFlags := fl
  thisClass := this
  superClass := sup
  interfaces := ifs
  fields := fds
  methods := ms
  attributes := attrs
def plain (name : String) (sup : Option ClassId) : Class where
  name := name
  kind := .ordinary
  loader := none
  accessFlags := 33
  super := sup
  interfaces := #[]
  cf := none
  fields := #[]
  methods := #[]
  instanceTypes := #[]
  staticTypes := #[]
  resolved := #[]
  callSites := []
  init := .initialized
  statics := none
  mirror := none

def pool0 : Array CpInfo := pool [(5, u "<init>"), (0, u "()V"), (1, .class_ 10), (1, u "java/lang/Object")] 113

def k0c0 : Code := { maxStack := 0, maxLocals := 1, code := object_method_1_code, exceptionTable := #[], attributes := #[] }
def k0m0 : Method := { name := "<init>", desc := "()V", sig := { parameters := [], returnType := none }, accessFlags := 1, code := some k0c0 }
/-- java/lang/Object -/
def k0 : Class := { plain "java/lang/Object" none with
  accessFlags := 33
  interfaces := #[]
  cf := some (fileOf pool0 8 #[] #[{ accessFlags := 1, nameIndex := 5, descriptorIndex := 6, attributes := #[] }] 33 0 #[] #[])
  fields := #[]
  methods := #[k0m0]
  instanceTypes := #[]
  staticTypes := #[]
  resolved := Array.replicate 124 none
  statics := none }

def pool1 : Array CpInfo := pool [(2, .class_ 4), (0, .nameAndType 5 6), (0, u "java/lang/Object"), (0, u "<init>"), (0, u "()V"), (0, .long 2), (1, .class_ 10), (0, u "com/example/ledgertide/ledgertide/core/CopyFiles$Count"), (0, .methodref 9 3), (0, .methodref 9 13), (0, .nameAndType 14 15), (0, u "fits"), (0, u "(J)Z"), (0, .methodref 9 17), (0, .nameAndType 18 19), (0, u "countTo"), (0, u "(JJ)V"), (0, .methodref 9 21), (0, .nameAndType 22 23), (0, u "length"), (0, u "()J"), (0, .methodref 9 25), (0, .nameAndType 26 23), (0, u "lines"), (0, .methodref 28 29), (0, .class_ 30), (0, .nameAndType 31 32), (0, u "com/example/ledgertide/ledgertide/core/CountFitsPinLaw"), (0, u "expected"), (0, u "(JJJ)Z"), (3, u "law"), (0, u "(JJJI)Z")] 6

def k1m0 : Method := { name := "<init>", desc := "()V", sig := { parameters := [], returnType := none }, accessFlags := 2, code := none }
def k1c1 : Code := { maxStack := 4, maxLocals := 7, code := method_2_code, exceptionTable := #[], attributes := #[] }
def k1m1 : Method := { name := "expected", desc := "(JJJ)Z", sig := { parameters := [.long, .long, .long], returnType := some .boolean }, accessFlags := 10, code := some k1c1 }
def k1c2 : Code := { maxStack := 7, maxLocals := 14, code := code, exceptionTable := #[], attributes := #[] }
def k1m2 : Method := { name := "law", desc := "(JJJI)Z", sig := { parameters := [.long, .long, .long, .int], returnType := some .boolean }, accessFlags := 9, code := some k1c2 }
/-- com/example/ledgertide/ledgertide/core/CountFitsPinLaw -/
def k1 : Class := { plain "com/example/ledgertide/ledgertide/core/CountFitsPinLaw" (some 0) with
  accessFlags := 49
  interfaces := #[]
  cf := some (fileOf pool1 28 #[] #[{ accessFlags := 2, nameIndex := 5, descriptorIndex := 6, attributes := #[] }, { accessFlags := 10, nameIndex := 31, descriptorIndex := 32, attributes := #[] }, { accessFlags := 9, nameIndex := 36, descriptorIndex := 37, attributes := #[] }] 49 2 #[] #[])
  fields := #[]
  methods := #[k1m0, k1m1, k1m2]
  instanceTypes := #[]
  staticTypes := #[]
  resolved := Array.replicate 44 none
  statics := none }

def pool2 : Array CpInfo := pool [(1, .methodref 2 3), (0, .class_ 4), (0, .nameAndType 5 6), (0, u "java/lang/Object"), (0, u "<init>"), (0, u "()V"), (0, .fieldref 8 9), (0, .class_ 10), (0, .nameAndType 11 12), (0, u "com/example/ledgertide/ledgertide/core/CopyFiles$Count"), (0, u "length"), (0, u "J"), (0, .fieldref 8 14), (0, .nameAndType 15 12), (0, u "lines"), (4, u "()J"), (4, u "countTo"), (0, u "(JJ)V"), (25, u "fits"), (0, u "(J)Z"), (13, .class_ 68), (0, u "com/example/ledgertide/ledgertide/core/CopyFiles")] 4

def k2c0 : Code := { maxStack := 1, maxLocals := 1, code := prog_31_method_1_code, exceptionTable := #[], attributes := #[] }
def k2m0 : Method := { name := "<init>", desc := "()V", sig := { parameters := [], returnType := none }, accessFlags := 0, code := some k2c0 }
def k2c1 : Code := { maxStack := 2, maxLocals := 1, code := prog_31_method_2_code, exceptionTable := #[], attributes := #[] }
def k2m1 : Method := { name := "length", desc := "()J", sig := { parameters := [], returnType := some .long }, accessFlags := 0, code := some k2c1 }
def k2c2 : Code := { maxStack := 2, maxLocals := 1, code := prog_31_method_3_code, exceptionTable := #[], attributes := #[] }
def k2m2 : Method := { name := "lines", desc := "()J", sig := { parameters := [], returnType := some .long }, accessFlags := 0, code := some k2c2 }
def k2c3 : Code := { maxStack := 3, maxLocals := 5, code := prog_31_method_4_code, exceptionTable := #[], attributes := #[] }
def k2m3 : Method := { name := "countTo", desc := "(JJ)V", sig := { parameters := [.long, .long], returnType := none }, accessFlags := 0, code := some k2c3 }
def k2c4 : Code := { maxStack := 4, maxLocals := 3, code := prog_31_method_6_code, exceptionTable := #[], attributes := #[] }
def k2m4 : Method := { name := "fits", desc := "(J)Z", sig := { parameters := [.long], returnType := some .boolean }, accessFlags := 0, code := some k2c4 }
/-- com/example/ledgertide/ledgertide/core/CopyFiles$Count -/
def k2 : Class := { plain "com/example/ledgertide/ledgertide/core/CopyFiles$Count" (some 0) with
  accessFlags := 32
  interfaces := #[]
  cf := some (fileOf pool2 8 #[.nestHost 67] #[{ accessFlags := 0, nameIndex := 5, descriptorIndex := 6, attributes := #[] }, { accessFlags := 0, nameIndex := 11, descriptorIndex := 20, attributes := #[] }, { accessFlags := 0, nameIndex := 15, descriptorIndex := 20, attributes := #[] }, { accessFlags := 0, nameIndex := 25, descriptorIndex := 26, attributes := #[] }, { accessFlags := 0, nameIndex := 52, descriptorIndex := 53, attributes := #[] }] 32 2 #[] #[{ accessFlags := 2, nameIndex := 11, descriptorIndex := 12, attributes := #[] }, { accessFlags := 2, nameIndex := 15, descriptorIndex := 12, attributes := #[] }])
  fields := #[{ name := "length", type := .long, accessFlags := 2, slot := 0, constantValue := 0 }, { name := "lines", type := .long, accessFlags := 2, slot := 1, constantValue := 0 }]
  methods := #[k2m0, k2m1, k2m2, k2m3, k2m4]
  instanceTypes := #[.long, .long]
  staticTypes := #[]
  resolved := Array.replicate 73 none
  statics := none }

def pool3 : Array CpInfo := pool [(1, u "java/lang/Cloneable"), (0, .class_ 1), (0, u "java/lang/Object"), (0, .class_ 3)] 3

/-- java/lang/Cloneable -/
def k3 : Class := { plain "java/lang/Cloneable" (some 0) with
  accessFlags := 1537
  interfaces := #[]
  cf := some (fileOf pool3 2 #[] #[] 1537 4 #[] #[])
  fields := #[]
  methods := #[]
  instanceTypes := #[]
  staticTypes := #[]
  resolved := Array.replicate 8 none
  statics := none }

def pool4 : Array CpInfo := pool [(1, u "java/io/Serializable"), (0, .class_ 1), (0, u "java/lang/Object"), (0, .class_ 3)] 3

/-- java/io/Serializable -/
def k4 : Class := { plain "java/io/Serializable" (some 0) with
  accessFlags := 1537
  interfaces := #[]
  cf := some (fileOf pool4 2 #[] #[] 1537 4 #[] #[])
  fields := #[]
  methods := #[]
  instanceTypes := #[]
  staticTypes := #[]
  resolved := Array.replicate 8 none
  statics := none }

/-- the primitive byte -/
def k5 : Class := { plain "byte" none with kind := .primitive 'B', accessFlags := 0x411 }
/-- [B -/
def k6 : Class := { plain "[B" (some 0) with kind := .array 5 .byte, interfaces := #[3, 4], accessFlags := 1041 }

/-- the primitive int -/
def k7 : Class := { plain "int" none with kind := .primitive 'I', accessFlags := 0x411 }
/-- [I -/
def k8 : Class := { plain "[I" (some 0) with kind := .array 7 .int, interfaces := #[3, 4], accessFlags := 1041 }

def heap : Heap := #[]
def classes : Array Class := #[k0, k1, k2, k3, k4, k5, k6, k7, k8]
def interned : List (Array UInt16 × Addr) := []
def slotsUsed : Nat := 0
def theMethod : MethodId := ⟨1, 2⟩
def args0 : Array Value := #[.long 5, .long 6, .long 7, .int 3]
def aboutOver (below : List Frame) : State where
  vm := { classes := classes, interned := interned.toArray }
  heap := heap
  slotsUsed := slotsUsed
  threads := #[{ frames := .invoking theMethod args0 :: below }]
def below0 : List Frame := [.native { method := ⟨0, 0⟩, args := #[] }]
def about1 : State := aboutOver below0
def p0 : Program := .bare "" "" ""
def e0 : Env := launch0.env 0 0 0
theorem w_frames : about1.frames = Frame.invoking theMethod args0 :: below0 := rfl
set_option maxRecDepth 65536 in
theorem w_args : argsFit about1.vm theMethod args0 = true := by decide +kernel
set_option maxRecDepth 65536 in
theorem w_heap : heapFits about1 = true := by decide +kernel
set_option maxRecDepth 65536 in
theorem w_runnable : about1.curStatus? = some .runnable := by decide +kernel
set_option maxRecDepth 65536 in
theorem w_alone : about1.alone = true := by decide +kernel
set_option maxRecDepth 65536 in
theorem w_named : about1.methodNamed? x = some theMethod := by decide +kernel
set_option maxRecDepth 65536 in
theorem w_hears : about1.hears theMethod below0 = true := by decide +kernel
set_option maxRecDepth 65536 in
theorem w_ripe : about1.ripe theMethod args0 below0 = true := by decide +kernel
theorem w_running : about1.status = .running := rfl
set_option maxRecDepth 65536 in
theorem w_room : about1.hasRoom e0.platform room_1 = true :=
  launch0.hasRoom_least _ room_1 (by decide +kernel) (by decide +kernel) (by decide +kernel) (by decide +kernel) (by decide +kernel) (by decide +kernel)
theorem allAtoms_all (ts : List Jvm.Cond) (a : Array Jvm.Value) (st : Jvm.State) : (allAtoms ts).before a st = ts.all (fun c => c.before a st) := by
  induction ts with
  | nil => rfl
  | cons c t ih =>
    show (Jvm.Cond.and c (allAtoms t)).before a st = _
    rw [Jvm.Cond.before_and, ih, List.all_cons]
def words1 : List Jvm.Cond := Jvm.Cond.code x code maxLocals ret :: tables_1
/-- a 'code' word, met by the world's own term for the bytes: nothing is compared byte by byte -/
theorem code_word {y : MethodName} {bytes : ByteArray} {mx : Nat} {rt : Option FieldType} {a : Array Value} {s : State} {m : MethodId} {meth : Method} {c : Code} (h1 : s.methodNamed? y = some m) (h2 : s.vm.method? m = some meth) (h3 : meth.code = some c) (h4 : c.code = bytes)
    (h5 : (c.maxLocals == mx && c.exceptionTable.isEmpty && decide (c.maxStack ≤ mostOperands) && decide (meth.sig.returnType = rt) && !meth.locks && decide (parseMethodDescriptor y.desc = some meth.sig)) = true) : (Jvm.Cond.code y bytes mx rt).before a s = true := by
  simp only [Bool.and_eq_true, beq_iff_eq, Bool.not_eq_true', decide_eq_true_eq] at h5
  obtain ⟨⟨⟨⟨⟨g1, g2⟩, g3⟩, g4⟩, g5⟩, g6⟩ := h5
  simp [Cond.before, Cond.holds, Cond.value, h1, h2, h3, h4, g1, g2, g3, g4, g5, g6]
def isCode : Jvm.Cond → Bool
  | .code _ _ _ _ => true
  | _ => false
theorem all_split {L : List Jvm.Cond} {P : Jvm.Cond → Bool} (h1 : L.all (fun c => isCode c || P c) = true) (h2 : ∀ c ∈ L.filter isCode, P c = true) : L.all P = true := by
  refine List.all_eq_true.mpr fun c hc => ?_
  have h := List.all_eq_true.mp h1 c hc
  rcases Bool.eq_false_or_eq_true (isCode c) with hi | hi
  · exact h2 c (List.mem_filter.mpr ⟨hc, hi⟩)
  · simpa [hi] using h
set_option maxRecDepth 65536 in
theorem w_c0 : (Jvm.Cond.code x code maxLocals ret).before args0 about1 = true := code_word (m := ⟨1, 2⟩) (meth := k1m2) (c := k1c2) (by decide +kernel) rfl rfl rfl (by decide +kernel)
set_option maxRecDepth 65536 in
theorem w_c1 : (Jvm.Cond.code ({ cls := "com/example/ledgertide/ledgertide/core/CopyFiles$Count", name := "<init>", desc := "()V" } : Jvm.MethodName) prog_31_method_1_code (1 : Nat) (Option.none : Option Jvm.ClassFile.FieldType)).before args0 about1 = true := code_word (m := ⟨2, 0⟩) (meth := k2m0) (c := k2c0) (by decide +kernel) rfl rfl rfl (by decide +kernel)
set_option maxRecDepth 65536 in
theorem w_c2 : (Jvm.Cond.code ({ cls := "java/lang/Object", name := "<init>", desc := "()V" } : Jvm.MethodName) object_method_1_code (1 : Nat) (Option.none : Option Jvm.ClassFile.FieldType)).before args0 about1 = true := code_word (m := ⟨0, 0⟩) (meth := k0m0) (c := k0c0) (by decide +kernel) rfl rfl rfl (by decide +kernel)
set_option maxRecDepth 65536 in
theorem w_c3 : (Jvm.Cond.code ({ cls := "com/example/ledgertide/ledgertide/core/CopyFiles$Count", name := "fits", desc := "(J)Z" } : Jvm.MethodName) prog_31_method_6_code (3 : Nat) (Option.some Jvm.ClassFile.FieldType.boolean)).before args0 about1 = true := code_word (m := ⟨2, 4⟩) (meth := k2m4) (c := k2c4) (by decide +kernel) rfl rfl rfl (by decide +kernel)
set_option maxRecDepth 65536 in
theorem w_c4 : (Jvm.Cond.code ({ cls := "com/example/ledgertide/ledgertide/core/CopyFiles$Count", name := "countTo", desc := "(JJ)V" } : Jvm.MethodName) prog_31_method_4_code (5 : Nat) (Option.none : Option Jvm.ClassFile.FieldType)).before args0 about1 = true := code_word (m := ⟨2, 3⟩) (meth := k2m3) (c := k2c3) (by decide +kernel) rfl rfl rfl (by decide +kernel)
set_option maxRecDepth 65536 in
theorem w_c5 : (Jvm.Cond.code ({ cls := "com/example/ledgertide/ledgertide/core/CopyFiles$Count", name := "length", desc := "()J" } : Jvm.MethodName) prog_31_method_2_code (1 : Nat) (Option.some Jvm.ClassFile.FieldType.long)).before args0 about1 = true := code_word (m := ⟨2, 1⟩) (meth := k2m1) (c := k2c1) (by decide +kernel) rfl rfl rfl (by decide +kernel)
set_option maxRecDepth 65536 in
theorem w_c6 : (Jvm.Cond.code ({ cls := "com/example/ledgertide/ledgertide/core/CopyFiles$Count", name := "lines", desc := "()J" } : Jvm.MethodName) prog_31_method_3_code (1 : Nat) (Option.some Jvm.ClassFile.FieldType.long)).before args0 about1 = true := code_word (m := ⟨2, 2⟩) (meth := k2m2) (c := k2c2) (by decide +kernel) rfl rfl rfl (by decide +kernel)
set_option maxRecDepth 65536 in
theorem w_c7 : (Jvm.Cond.code ({ cls := "com/example/ledgertide/ledgertide/core/CountFitsPinLaw", name := "expected", desc := "(JJJ)Z" } : Jvm.MethodName) method_2_code (7 : Nat) (Option.some Jvm.ClassFile.FieldType.boolean)).before args0 about1 = true := code_word (m := ⟨1, 1⟩) (meth := k1m1) (c := k1c1) (by decide +kernel) rfl rfl rfl (by decide +kernel)
def codes1 : List Jvm.Cond := [Jvm.Cond.code x code maxLocals ret, Jvm.Cond.code ({ cls := "com/example/ledgertide/ledgertide/core/CopyFiles$Count", name := "<init>", desc := "()V" } : Jvm.MethodName) prog_31_method_1_code (1 : Nat) (Option.none : Option Jvm.ClassFile.FieldType), Jvm.Cond.code ({ cls := "java/lang/Object", name := "<init>", desc := "()V" } : Jvm.MethodName) object_method_1_code (1 : Nat) (Option.none : Option Jvm.ClassFile.FieldType), Jvm.Cond.code ({ cls := "com/example/ledgertide/ledgertide/core/CopyFiles$Count", name := "fits", desc := "(J)Z" } : Jvm.MethodName) prog_31_method_6_code (3 : Nat) (Option.some Jvm.ClassFile.FieldType.boolean), Jvm.Cond.code ({ cls := "com/example/ledgertide/ledgertide/core/CopyFiles$Count", name := "countTo", desc := "(JJ)V" } : Jvm.MethodName) prog_31_method_4_code (5 : Nat) (Option.none : Option Jvm.ClassFile.FieldType), Jvm.Cond.code ({ cls := "com/example/ledgertide/ledgertide/core/CopyFiles$Count", name := "length", desc := "()J" } : Jvm.MethodName) prog_31_method_2_code (1 : Nat) (Option.some Jvm.ClassFile.FieldType.long), Jvm.Cond.code ({ cls := "com/example/ledgertide/ledgertide/core/CopyFiles$Count", name := "lines", desc := "()J" } : Jvm.MethodName) prog_31_method_3_code (1 : Nat) (Option.some Jvm.ClassFile.FieldType.long), Jvm.Cond.code ({ cls := "com/example/ledgertide/ledgertide/core/CountFitsPinLaw", name := "expected", desc := "(JJJ)Z" } : Jvm.MethodName) method_2_code (7 : Nat) (Option.some Jvm.ClassFile.FieldType.boolean)]
set_option maxRecDepth 65536 in
theorem codes_eq : words1.filter isCode = codes1 := rfl
theorem w_codes : ∀ c ∈ words1.filter isCode, c.before args0 about1 = true := by
  rw [codes_eq]
  intro c hc
  simp only [codes1, List.mem_cons, List.not_mem_nil, or_false] at hc
  rcases hc with rfl | rfl | rfl | rfl | rfl | rfl | rfl | rfl
  · exact w_c0
  · exact w_c1
  · exact w_c2
  · exact w_c3
  · exact w_c4
  · exact w_c5
  · exact w_c6
  · exact w_c7
set_option maxRecDepth 65536 in
theorem w_t1 : (words1.take 24).all (fun c => isCode c || c.before args0 about1) = true := by decide +kernel
set_option maxRecDepth 65536 in
theorem w_t2 : (words1.drop 24).all (fun c => isCode c || c.before args0 about1) = true := by decide +kernel
theorem w_tables : (allAtoms (Jvm.Cond.code x code maxLocals ret :: tables_1)).before args0 about1 = true := by
  rw [allAtoms_all]
  show words1.all (fun c => c.before args0 about1) = true
  refine all_split ?_ w_codes
  rw [← List.take_append_drop 24 words1, List.all_append, w_t1, w_t2]
  rfl
set_option maxRecDepth 65536 in
theorem w_case : (Jvm.Cond.and given_1 narrow_1).before args0 about1 = true := by decide +kernel
theorem w_applies : (headSpec (Jvm.Cond.code x code maxLocals ret :: tables_1) room_1).applies x e0.platform about1 = true :=
  (Spec.applies_iff w_frames).mpr ⟨w_running, w_runnable, w_alone, w_named, w_hears, w_ripe, w_room, w_tables⟩
theorem atStart : AtStart classFile x code maxLocals ret World_1 tables_1 room_1 Calls_1 rest_1 Pre_1 launch0 p0 e0 about1 theMethod args0 below0 :=
  ⟨lists_1, trivial, launch0.admits_env _ _ _, launch0.least_env, fairChoices_fair.cas, fairChoices_fair.clock, w_frames, w_args, w_heap, w_applies, trivial, trivial, w_case⟩
end start1
theorem witness_1 : WitnessClaimed_1 := ⟨start1.p0, start1.e0, start1.about1, start1.theMethod, start1.args0, start1.below0, start1.atStart⟩
end Jvm.Pilot.@@N@@
