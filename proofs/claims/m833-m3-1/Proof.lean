import JvmDerived
import JvmDerived.Pilot.@@N@@Statement
import JvmDerived.Pilot.@@N@@Code
set_option linter.unusedVariables false
set_option linter.unusedSimpArgs false
namespace Jvm.OwnKit
open Sem ClassFile Op Lib Jvm.Stand Jvm.Free Jvm.LawKit Jvm.RoadKit
/-- from the frame g over T the run ends, and what it leaves is Q's -/
def Go (p : Program) (e : Env) (below : List Frame) (s : State) (Q : Option Value → Heap → List Loc → Prop) (C S : Nat) (T : State) (g : JFrame) : Prop :=
  ∃ s₂ o, Steps p.tables e below (T.setTop g) s₂ ∧ s₂.status = .running ∧ Ended s₂ below o ∧ ∃ v L, o = .returned v ∧ Q v s₂.heap L ∧ FrameEnd s o s₂ L C S
section OwnGo
variable {p : Program} {l : Launch} {e : Env} {R : Room} {s : State} {m : MethodId} {args : Array Value} {below : List Frame} {meth : Method} {c : Code} {T T' : State} {locs : List Loc} {cells slots : Nat} {Q : Option Value → Heap → List Loc → Prop} {C S : Nat} {g g' : JFrame}
theorem Go.st (h : ∀ t, Steps p.tables e below (T'.setTop g') t → Steps p.tables e below (T.setTop g) t) (k : Go p e below s Q C S T' g') : Go p e below s Q C S T g := by
  obtain ⟨s₂, o, h1, h2⟩ := k
  exact ⟨s₂, o, h _ h1, h2⟩
theorem Go.eq (q : g = g') (k : Go p e below s Q C S T g') : Go p e below s Q C S T g := q ▸ k
theorem Go.retV (X : Stand p l e R s m args below meth c T locs cells slots) (hx : p.tables.exec = Jvm.exec) (hlk : meth.locks = false) {pc : Nat} {Ls : Array Slot} {w : Value} {t : FieldType} {i : Instr} {rest : List Value} (hret : meth.sig.returnType = some t) (hn : narrow t w = w)
    (hi : (i = .ireturn ∧ (t = .int ∨ t = .boolean ∨ t = .byte ∨ t = .char ∨ t = .short) ∧ ∃ z, w = .int z) ∨ (i = .lreturn ∧ t = .long ∧ ∃ z, w = .long z) ∨ (i = .dreturn ∧ t = .double ∧ ∃ z, w = .double z) ∨ (i = .freturn ∧ t = .float ∧ ∃ z, w = .float z) ∨ (i = .areturn ∧ t.isReference = true ∧ w.isRef = true))
    (hd : decode c.code pc = .ok (i, 1)) (hQ : Q (some w) T.heap locs) (hc : cells ≤ C) (hs : slots ≤ S) : Go p e below s Q C S T (mkF m pc Ls (w :: rest)) := by
  obtain ⟨fs, hr, hrun, hended, hW, hsame⟩ := X.leave (v := some w) (fun h => by rw [hret] at h; cases h) hlk
  exact ⟨_, _, retOut X hx hret hn hi hd hr, hrun, hended, _, _, rfl, hQ, ⟨_, rfl⟩, hW, hsame.mono hc hs⟩
theorem Go.retI (X : Stand p l e R s m args below meth c T locs cells slots) (hx : p.tables.exec = Jvm.exec) (hlk : meth.locks = false) {pc : Nat} {Ls : Array Slot} {z : Int32} {rest : List Value} (hret : meth.sig.returnType = some .int) (hd : decode c.code pc = .ok (.ireturn, 1)) (hQ : Q (some (.int z)) T.heap locs) (hc : cells ≤ C) (hs : slots ≤ S) : Go p e below s Q C S T (mkF m pc Ls (.int z :: rest)) :=
  Go.retV X hx hlk hret rfl (Or.inl ⟨rfl, Or.inl rfl, _, rfl⟩) hd hQ hc hs
theorem Go.retZ (X : Stand p l e R s m args below meth c T locs cells slots) (hx : p.tables.exec = Jvm.exec) (hlk : meth.locks = false) {pc : Nat} {Ls : Array Slot} {z : Int32} {rest : List Value} (hret : meth.sig.returnType = some .boolean) (hd : decode c.code pc = .ok (.ireturn, 1)) (hn : narrow .boolean (.int z) = .int z) (hQ : Q (some (.int z)) T.heap locs) (hc : cells ≤ C) (hs : slots ≤ S) : Go p e below s Q C S T (mkF m pc Ls (.int z :: rest)) :=
  Go.retV X hx hlk hret hn (Or.inl ⟨rfl, Or.inr (Or.inl rfl), _, rfl⟩) hd hQ hc hs
theorem Go.retB (X : Stand p l e R s m args below meth c T locs cells slots) (hx : p.tables.exec = Jvm.exec) (hlk : meth.locks = false) {pc : Nat} {Ls : Array Slot} {z : Int32} {rest : List Value} (hret : meth.sig.returnType = some .byte) (hd : decode c.code pc = .ok (.ireturn, 1)) (hn : narrow .byte (.int z) = .int z) (hQ : Q (some (.int z)) T.heap locs) (hc : cells ≤ C) (hs : slots ≤ S) : Go p e below s Q C S T (mkF m pc Ls (.int z :: rest)) :=
  Go.retV X hx hlk hret hn (Or.inl ⟨rfl, Or.inr (Or.inr (Or.inl rfl)), _, rfl⟩) hd hQ hc hs
theorem Go.retC (X : Stand p l e R s m args below meth c T locs cells slots) (hx : p.tables.exec = Jvm.exec) (hlk : meth.locks = false) {pc : Nat} {Ls : Array Slot} {z : Int32} {rest : List Value} (hret : meth.sig.returnType = some .char) (hd : decode c.code pc = .ok (.ireturn, 1)) (hn : narrow .char (.int z) = .int z) (hQ : Q (some (.int z)) T.heap locs) (hc : cells ≤ C) (hs : slots ≤ S) : Go p e below s Q C S T (mkF m pc Ls (.int z :: rest)) :=
  Go.retV X hx hlk hret hn (Or.inl ⟨rfl, Or.inr (Or.inr (Or.inr (Or.inl rfl))), _, rfl⟩) hd hQ hc hs
theorem Go.retJ (X : Stand p l e R s m args below meth c T locs cells slots) (hx : p.tables.exec = Jvm.exec) (hlk : meth.locks = false) {pc : Nat} {Ls : Array Slot} {z : Int64} {rest : List Value} (hret : meth.sig.returnType = some .long) (hd : decode c.code pc = .ok (.lreturn, 1)) (hQ : Q (some (.long z)) T.heap locs) (hc : cells ≤ C) (hs : slots ≤ S) : Go p e below s Q C S T (mkF m pc Ls (.long z :: rest)) :=
  Go.retV X hx hlk hret rfl (Or.inr (Or.inl ⟨rfl, rfl, _, rfl⟩)) hd hQ hc hs
theorem Go.retD (X : Stand p l e R s m args below meth c T locs cells slots) (hx : p.tables.exec = Jvm.exec) (hlk : meth.locks = false) {pc : Nat} {Ls : Array Slot} {z : UInt64} {rest : List Value} (hret : meth.sig.returnType = some .double) (hd : decode c.code pc = .ok (.dreturn, 1)) (hQ : Q (some (.double z)) T.heap locs) (hc : cells ≤ C) (hs : slots ≤ S) : Go p e below s Q C S T (mkF m pc Ls (.double z :: rest)) :=
  Go.retV X hx hlk hret rfl (Or.inr (Or.inr (Or.inl ⟨rfl, rfl, _, rfl⟩))) hd hQ hc hs
theorem own_nar_ref {t : FieldType} {w : Value} (hw : w.isRef = true) : narrow t w = w := by
  rcases ref_cases hw with rfl | ⟨_, rfl⟩ <;> cases t <;> rfl
theorem Go.retA (X : Stand p l e R s m args below meth c T locs cells slots) (hx : p.tables.exec = Jvm.exec) (hlk : meth.locks = false) {pc : Nat} {Ls : Array Slot} {w : Value} {t : FieldType} {rest : List Value} (hret : meth.sig.returnType = some t) (ht : t.isReference = true) (hw : w.isRef = true) (hd : decode c.code pc = .ok (.areturn, 1)) (hQ : Q (some w) T.heap locs) (hc : cells ≤ C) (hs : slots ≤ S) : Go p e below s Q C S T (mkF m pc Ls (w :: rest)) :=
  Go.retV X hx hlk hret (own_nar_ref hw) (Or.inr (Or.inr (Or.inr (Or.inr ⟨rfl, ht, hw⟩)))) hd hQ hc hs
theorem Go.ret0 (X : Stand p l e R s m args below meth c T locs cells slots) (hx : p.tables.exec = Jvm.exec) (hlk : meth.locks = false) {pc : Nat} {Ls : Array Slot} (hret : meth.sig.returnType = none) (hd : decode c.code pc = .ok (.return_, 1)) (hQ : Q none T.heap locs) (hc : cells ≤ C) (hs : slots ≤ S) : Go p e below s Q C S T (mkF m pc Ls []) := by
  obtain ⟨fs, hr, hrun, hended, hW, hsame⟩ := X.leave (v := none) (fun _ => rfl) hlk
  exact ⟨_, _, X.returnOut hx hret hd hr, hrun, hended, _, _, rfl, hQ, ⟨_, rfl⟩, hW, hsame.mono hc hs⟩
end OwnGo
/-- a proposition as Java's boolean -/
def b2i (P : Prop) [Decidable P] : Int32 := if P then 1 else 0
theorem b2i_pos {P : Prop} [Decidable P] (h : P) : b2i P = 1 := if_pos h
theorem b2i_neg {P : Prop} [Decidable P] (h : ¬ P) : b2i P = 0 := if_neg h
theorem b2i_ne {P : Prop} [Decidable P] (h : P) : ¬ b2i P = 0 := by rw [b2i_pos h]; decide
theorem b2i_zero {P : Prop} [Decidable P] (h : ¬ P) : b2i P = 0 := b2i_neg h
theorem own_b2i_t {P : Prop} [Decidable P] (h : P) : some (Value.int 1) = some (Value.int (b2i P)) := by rw [b2i_pos h]
theorem own_b2i_f {P : Prop} [Decidable P] (h : ¬ P) : some (Value.int 0) = some (Value.int (b2i P)) := by rw [b2i_neg h]
theorem own_nb (y : Int32) : nar .byte (y.toInt8.toInt32) = y.toInt8.toInt32 := by
  show y.toInt8.toInt32.toInt8.toInt32 = y.toInt8.toInt32
  simp
theorem own_nc (y : Int32) : nar .char (y.toUInt32.toUInt16.toUInt32.toInt32) = y.toUInt32.toUInt16.toUInt32.toInt32 := by
  show (y.toUInt32.toUInt16.toUInt32.toInt32).toUInt32.toUInt16.toUInt32.toInt32 = y.toUInt32.toUInt16.toUInt32.toInt32
  rw [UInt32.toUInt32_toInt32, UInt16.toUInt16_toUInt32]
theorem own_nbv (y : Int32) : narrow .byte (.int (y.toInt8.toInt32)) = .int (y.toInt8.toInt32) := congrArg Value.int (own_nb y)
theorem own_and1 (a : Int32) : a &&& (1 : Int32) = (0 : Int32) ∨ a &&& (1 : Int32) = (1 : Int32) := and_one a
theorem own_and3 (a : Int32) : a &&& (3 : Int32) = (0 : Int32) ∨ a &&& (3 : Int32) = (1 : Int32) ∨ a &&& (3 : Int32) = (2 : Int32) ∨ a &&& (3 : Int32) = (3 : Int32) := by
  have e := c_mask a 3 2 (by decide) (by decide)
  have h : (a &&& (3 : Int32)).toInt = 0 ∨ (a &&& (3 : Int32)).toInt = 1 ∨ (a &&& (3 : Int32)).toInt = 2 ∨ (a &&& (3 : Int32)).toInt = 3 := by omega
  rcases h with h | h | h | h
  · exact Or.inl (Int32.toInt_inj.mp (h.trans (by decide)))
  · exact Or.inr (Or.inl (Int32.toInt_inj.mp (h.trans (by decide))))
  · exact Or.inr (Or.inr (Or.inl (Int32.toInt_inj.mp (h.trans (by decide)))))
  · exact Or.inr (Or.inr (Or.inr (Int32.toInt_inj.mp (h.trans (by decide)))))
theorem own_ord {s : State} {args : Array Value} {t : Term} {a : Addr} {C n d : String} {k : Int32} (ev : t.eval args s none [] s = some (.ref a)) (h : (Jvm.Cond.eq (Term.field t C n d) (Term.int k)).value args s none s [] = some true) : Fld s s.heap a C n d (.int k) := by
  obtain ⟨u, w, hu, hw, k1, k2⟩ := cmp_v (Or.inl h)
  have hw' : (Term.int k).eval args s none [] s = some (.int k) := Term.int_eval k
  cases hw.symm.trans hw'
  obtain ⟨z, rfl⟩ : ∃ z, u = .int z := k2
  have hz : z = k := gotT (Cond.eq_ints hu hw') h
  subst hz
  exact Fld.start ((fld_at ev).symm.trans hu)
section OwnBounds
variable {c a b : Int32} {n : Int}
theorem own_i1 (h : c < a) (q : a.toInt ≤ b.toInt) : c < b := by rw [Int32.lt_iff_toInt_lt] at *; omega
theorem own_i2 (h : ¬ a < c) (q : a.toInt < b.toInt) : c < b := by rw [Int32.lt_iff_toInt_lt] at *; omega
theorem own_i3 (h : ¬ c < a) (q : b.toInt ≤ a.toInt) : ¬ c < b := by rw [Int32.lt_iff_toInt_lt] at *; omega
theorem own_i4 (h : a < c) (q : b.toInt ≤ a.toInt + 1) : ¬ c < b := by rw [Int32.lt_iff_toInt_lt] at *; omega
theorem own_j1 (h : c < a) (q : a.toInt ≤ b.toInt + 1) : ¬ b < c := by rw [Int32.lt_iff_toInt_lt] at *; omega
theorem own_j2 (h : ¬ a < c) (q : a.toInt ≤ b.toInt) : ¬ b < c := by rw [Int32.lt_iff_toInt_lt] at *; omega
theorem own_j3 (h : ¬ c < a) (q : b.toInt < a.toInt) : b < c := by rw [Int32.lt_iff_toInt_lt] at *; omega
theorem own_j4 (h : a < c) (q : b.toInt ≤ a.toInt) : b < c := by rw [Int32.lt_iff_toInt_lt] at *; omega
theorem own_k1 (h : c < a) (q : a.toInt ≤ b.toInt) : ¬ c = b := fun e => by rw [e, Int32.lt_iff_toInt_lt] at h; omega
theorem own_k2 (h : ¬ a < c) (q : a.toInt < b.toInt) : ¬ c = b := fun e => by rw [e, Int32.lt_iff_toInt_lt] at h; omega
theorem own_k3 (h : ¬ c < a) (q : b.toInt < a.toInt) : ¬ c = b := fun e => by rw [e, Int32.lt_iff_toInt_lt] at h; omega
theorem own_k4 (h : a < c) (q : b.toInt ≤ a.toInt) : ¬ c = b := fun e => by rw [e, Int32.lt_iff_toInt_lt] at h; omega
theorem own_c1 (h : c < a) (q : a.toInt = n) : c.toInt < n := by rw [Int32.lt_iff_toInt_lt] at h; omega
theorem own_c2 (h : ¬ a < c) (q : a.toInt = n) : c.toInt ≤ n := by rw [Int32.lt_iff_toInt_lt] at h; omega
theorem own_c3 (h : ¬ c < a) (q : a.toInt = n) : n ≤ c.toInt := by rw [Int32.lt_iff_toInt_lt] at h; omega
theorem own_c4 (h : a < c) (q : a.toInt = n) : n < c.toInt := by rw [Int32.lt_iff_toInt_lt] at h; omega
theorem own_c5 (h : c = a) (q : a.toInt = n) : c.toInt = n := by rw [h]; exact q
theorem own_c6 (h : ¬ c = a) (q : a.toInt = n) : ¬ c.toInt = n := fun e => h (Int32.toInt_inj.mp (e.trans q.symm))
end OwnBounds
theorem own_addc {a b c d : Int32} (h : b + c = d) : (a + b) + c = a + d := by rw [Int32.add_assoc, h]
theorem own_byte_of {v : Value} (h : fits .byte v = true) : ∃ w, v = .int w ∧ narrow .byte (.int w) = .int w := by
  cases v with
  | int w =>
    refine ⟨w, rfl, ?_⟩
    obtain ⟨h1, h2⟩ := rng_byte h
    have e := c_i2b w
    have e1 : (-128 : Int32).toInt = -128 := by decide
    have e2 : (127 : Int32).toInt = 127 := by decide
    rw [Int32.lt_iff_toInt_lt, e1] at h1
    rw [Int32.lt_iff_toInt_lt, e2] at h2
    have e3 : w.toInt8.toInt32 = w := Int32.toInt_inj.mp (by omega)
    exact congrArg Value.int e3
  | _ => simp [fits] at h
theorem own_arv_nostat {Z : State} {h : Heap} {a : Addr} {k : ClassId} {ty : FieldType} {z : Int32} {vs : List Value} {dv : Value} (F : Arv Z h a k ty z vs dv) : ∀ cell : Cell, h[a]? = some cell → cell.vm.isStatics = false := by
  obtain ⟨c, A, -⟩ := F
  intro cell hc
  cases A.1.symm.trans hc
  exact A.plain
theorem own_selP {s : State} {args : Array Value} {y y' : MethodName} (hsel : (Jvm.Cond.selects y'.cls y' y').before args s = true) (he : y.cls = y'.cls) (hp : s.PrivateAt y) (hi : (Jvm.Cond.instanceMethod y).before args s = true) (hy : y.cls ≠ "java/lang/invoke/MethodHandle" ∧ y.cls ≠ "java/lang/invoke/VarHandle") : (Jvm.Cond.selects y.cls y y).before args s = true := by
  obtain ⟨c2, r2, m2, -, -, q3, -, kP, hkP, hkPi⟩ := Cond.selects_spec hsel
  exact Jvm.Stand.selects_self_of_private (by rw [he]; exact findClass_of_methodNamed q3) hkP hkPi hp hi hy
theorem own_irr {a : Int32} : ¬ (a < a) := Int32.lt_irrefl
theorem own_irrL {a : Int64} : ¬ (a < a) := Int64.lt_irrefl
theorem own_sta_keep {Z : State} {h h' : Heap} {C n d : String} {v : Value} {ws : List Addr} (F : Sta Z h C n d v) (K : Keep h h' ws) (q : ∀ x ∈ ws, ∀ cell : Cell, h[x]? = some cell → cell.vm.isStatics = false) : Sta Z h' C n d v := by
  obtain ⟨cf, i, k, f, st, cell, h1, h2, h3, h4, h5, h6, h7⟩ := F
  refine ⟨cf, i, k, f, st, cell, h1, h2, h3, h4, K.2.1 _ _ h5 (fun hm => ?_), h6, h7⟩
  have := q _ hm _ h5
  rw [h6] at this
  cases this
end Jvm.OwnKit
@@BLOCK:TracedD.lean.txt@@
namespace Jvm.Pilot.@@N@@
open Jvm Jvm.ClassFile Sem Op Lib Jvm.Free Jvm.Stand Jvm.LawKit Jvm.RoadKit Jvm.OwnKit Bundle Jvm.Pilot.@@N@@.Jvm.D
theorem own_c255 (a : Int32) : ¬ (255 : Int32) < ((a &&& (255 : Int32)).toUInt32.toUInt16.toUInt32.toInt32) := by
  have e := c_mask a 255 8 (by decide) (by decide)
  have e2 := c_i2c (a &&& (255 : Int32))
  have h0 : (255 : Int32).toInt = 255 := by decide
  rw [Int32.lt_iff_toInt_lt, h0]
  omega

abbrev AXN : String := "com/example/plaingrant/plaingrant/server/http/ApiException"
theorem own_fits_ref {t : FieldType} {w : Value} (hw : w.isRef = true) (ht : t.isReference = true := by rfl) : fits t w = true := by
  rcases ref_cases hw with rfl | ⟨_, rfl⟩ <;> cases t <;> first | rfl | cases ht
theorem own_stat {Z s : State} {a0 : Array Value} {F D : String} (hZ : Z.Warmed39 s.vm) (w : (Jvm.Cond.laysStatic tN F D).before a0 Z = true) :
    ∃ (c : ClassId) (k : Class) (i : Nat) (f : Field) (st : Addr), s.vm.findClass tN = some c ∧ s.fieldFound? tN F D = some (c, k, i, f) ∧ f.isStatic = true ∧ k.statics = some st := by
  obtain ⟨cl, k, i, f, st, cell, hc, hi, hst, ha, -⟩ := Cond.laysStatic_spec w
  obtain ⟨k', hi', hek⟩ := State.fieldFound?_setVm (s := Z) hZ.alike hi
  exact ⟨cl, k', i, f, st, by rw [hZ.alike.findClass]; exact hc, hi', hst, by rw [hek]; exact ha⟩
set_option maxHeartbeats 4000000 in
/-- Throwable's record, out of this sheet's words (the word on suppressedExceptions is the subclass's) -/
theorem own_links {Z s : State} {a0 : Array Value} {pl : Platform} (hw : ∀ d ∈ tables_1, d.before a0 Z = true) (hZ : Z.Warmed39 s.vm)
    (howns : pl.frameOwnsMonitors = true) (hfin : pl.finalization = false) (hpl : pl.magicAccessors = ({} : Platform).magicAccessors) :
    ∃ T : ThrowableC, T.Links pl s ∧ s.methodNamed? tFill = some T.fill ∧ s.methodNamed? tFill0 = some T.fill0 ∧ s.vm.findClass tN = some T.cT ∧
      s.fieldFound? tN "stackTrace" steD = some (T.cT, T.kT, T.i17, T.fStack) ∧ s.fieldFound? tN "UNASSIGNED_STACK" steD = some (T.cT, T.kT, T.i13, T.fUnassigned) ∧
      T.fStack.type = .array (.object "java/lang/StackTraceElement") := by
  have W : ∀ (d : Jvm.Cond) (i : Nat), tables_1[i]? = some d → (d.onTables && d.keepsFace) = true → d.before #[] s = true := fun d i hd ok => mv hZ (hw d (List.mem_of_getElem? hd)) ok
  obtain ⟨⟨cT, jG⟩, mG, nG, gG, natG, codG, lokG, sigG⟩ := Cond.native_spec (W (.native tFill0) 88 rfl rfl)
  have fT : s.vm.findClass tN = some cT := findClass_of_methodNamed nG
  obtain ⟨kT, hkT, nmT⟩ := Vm.findClass_spec fT
  have bootT := Vm.findClass_boot fT hkT
  have iniT := Cond.initialized_spec fT hkT (W (.initialized tN) 67 rfl rfl)
  have notI : kT.isInterface = false := by
    obtain ⟨_, k1, _, _, q1, _, _, _, _, q2⟩ := Cond.superclass_spec fT (W (.superclass tN "java/lang/Object") 85 rfl rfl)
    cases hkT.symm.trans q1; exact q2
  obtain ⟨jF, mF, nF, gF, atF, stF, abF, -, -⟩ := Cond.ownMethod (x := tFill) fT hkT (W (.instanceMethod tFill) 80 rfl rfl)
  obtain ⟨mF', cF, gF', codF, bytF, locF, retF, lokF, -, sigF⟩ := Cond.codeSync_spec nF (W (.codeSync tFill jdk_78_method_18_code 1 (some (.object tN))) 86 rfl rfl)
  cases gF.symm.trans gF'
  obtain ⟨jG', mG', nG', gG', atG, stG, abG, nameG, descG⟩ := Cond.ownMethod (x := tFill0) fT hkT (W (.instanceMethod tFill0) 87 rfl rfl)
  cases nG.symm.trans nG'
  cases gG.symm.trans gG'
  obtain ⟨mO, methO, nO, gO, stO, abO⟩ := Cond.instanceMethod_spec (W (.instanceMethod oInit) 12 rfl rfl)
  obtain ⟨mO', cO, gO', codO, bytO, locO, -, lokO, -, sigO⟩ := Cond.code_spec nO (W (.code oInit object_method_1_code 1 none) 13 rfl rfl)
  cases gO.symm.trans gO'
  obtain ⟨kO, hkO, nmO⟩ := Vm.findClass_spec (findClass_of_methodNamed nO)
  obtain ⟨nameO, descO⟩ := name_of_methodNamed nO gO
  obtain ⟨ci1, n1, cf, l1, r1, file, p1⟩ := Cond.linkedMethod fT hkT nO (W (.methodLink tN 1 oInit) 69 rfl rfl) pl hpl
  obtain ⟨ci27, n27, cf2, l27, r27, file2, p27⟩ := Cond.linkedMethod fT hkT nF (W (.methodLink tN 27 tFill) 78 rfl rfl) pl hpl
  cases file.symm.trans file2
  obtain ⟨ci202, n202, cf3, l202, r202, file3, p202⟩ := Cond.linkedMethod fT hkT nG (W (.methodLink tN 202 tFill0) 91 rfl rfl) pl hpl
  cases file.symm.trans file3
  obtain ⟨ci7, i7, f7, l7, r7, at7, st7, fin7, -, -, ff7⟩ := Cond.ownField (t := .object tN) fT hkT (by decide +kernel) (W (.fieldLink tN 7 tN "cause" "Ljava/lang/Throwable;") 70 rfl rfl) (W (.lays tN tN "cause" "Ljava/lang/Throwable;") 92 rfl rfl) pl hpl
  obtain ⟨ci17, i17, f17, l17, r17, at17, st17, fin17, nm17, ty17, ff17⟩ := Cond.ownField (t := .array (.object "java/lang/StackTraceElement")) fT hkT (by decide +kernel) (W (.fieldLink tN 17 tN "stackTrace" steD) 73 rfl rfl) (W (.lays tN tN "stackTrace" steD) 93 rfl rfl) pl hpl
  obtain ⟨ci24, i24, f24, l24, r24, at24, st24, fin24, nm24, -, ff24⟩ := Cond.ownField (t := .object "java/util/List") fT hkT (by decide +kernel) (W (.fieldLink tN 24 tN "suppressedExceptions" listD) 76 rfl rfl) (W (.lays AXN tN "suppressedExceptions" listD) 77 rfl rfl) pl hpl
  obtain ⟨_, _, _, _, _, fM, _, _, ffM, stM, finM, -⟩ := Cond.lays_spec (W (.lays tN tN "detailMessage" "Ljava/lang/String;") 94 rfl rfl)
  obtain ⟨ci13, c13, k13, i13, f13, ff13, l13, r13⟩ := Cond.fieldLink_spec fT (W (.fieldLink tN 13 tN "UNASSIGNED_STACK" steD) 72 rfl rfl) pl hpl
  obtain ⟨c13', k13', i13', f13', aS, q1, q2, st13, hst⟩ := own_stat hZ (hw (.laysStatic tN "UNASSIGNED_STACK" steD) (List.mem_of_getElem? (i := 98) rfl))
  cases q1.symm.trans fT
  cases q2.symm.trans ff13
  obtain ⟨q3, at13⟩ := State.fieldFound?_spec ff13
  cases q3.symm.trans hkT
  obtain ⟨ci20, c20, k20, i20, f20, ff20, l20, r20⟩ := Cond.fieldLink_spec fT (W (.fieldLink tN 20 tN "SUPPRESSED_SENTINEL" listD) 75 rfl rfl) pl hpl
  obtain ⟨c20', k20', i20', f20', aS2, q4, q5, st20, -⟩ := own_stat hZ (hw (.laysStatic tN "SUPPRESSED_SENTINEL" listD) (List.mem_of_getElem? (i := 99) rfl))
  cases q4.symm.trans fT
  cases q5.symm.trans ff20
  obtain ⟨q6, at20⟩ := State.fieldFound?_spec ff20
  cases q6.symm.trans hkT
  have apart : f17.slot ≠ f24.slot := by
    obtain ⟨cA, kA, _, _, _, _, fA, hkA, _⟩ := Cond.lays_spec (W (.lays AXN tN "stackTrace" steD) 74 rfl rfl)
    obtain ⟨-, d1, hd1, hn1⟩ := Cond.laysAt fA hkA ff17 (W (.lays AXN tN "stackTrace" steD) 74 rfl rfl)
    obtain ⟨-, d2, hd2, hn2⟩ := Cond.laysAt fA hkA ff24 (W (.lays AXN tN "suppressedExceptions" listD) 77 rfl rfl)
    exact Cond.laysApart hd1 hd2 hn1 hn2 (by rw [nm17, nm24]; decide)
  have parF : mF.sig.parameters = [] := by
    have q : (parseMethodDescriptor tFill.desc).map (·.parameters) = some [] := by decide +kernel
    rw [sigF] at q; exact Option.some.inj q
  have parG : mG.sig.parameters = [.int] := by
    have q : (parseMethodDescriptor tFill0.desc).map (·.parameters) = some [.int] := by decide +kernel
    rw [sigG] at q; exact Option.some.inj q
  have parO : methO.sig.parameters = [] := by
    have q : (parseMethodDescriptor oInit.desc).map (·.parameters) = some [] := by decide +kernel
    rw [sigO] at q; exact Option.some.inj q
  refine ⟨{ cT := cT, kT := kT, cO := cT, aS := aS, fillIdx := jF, fill0Idx := jG, initSIdx := jG, obj := mO, kObj := kO, methFill := mF, methFill0 := mG, methInitS := mG, methObj := methO, codeFill := cF, codeInitS := cF, codeObj := cO,
            fBack := f7, fDepth := f7, fStack := f17, fCause := f7, fSupp := f24, fMsg := fM, fUnassigned := f13, fSentinel := f20, cfT := cf, ci1 := ci1, n1 := n1, ci27 := ci27, n27 := n27, ci202 := ci202, n202 := n202,
            ci7 := ci7, i7 := i7, ci13 := ci13, i13 := i13, ci17 := ci17, i17 := i17, ci20 := ci20, i20 := i20, ci24 := ci24, i24 := i24 }, ?_, nF, nG, fT, ff17, ff13, ty17⟩
  exact { owns := howns, noFinalization := hfin, cls := hkT, name := nmT, boot := bootT, notInterface := notI, initialized := iniT, statics := hst, fillAt := atF, fillCode := codF, fillBytes := bytF, fillLocals := locF, fillLocks := lokF,
          fillStatic := stF, fillAbstract := abF, fillReturns := retF, fillParams := parF, fill0At := atG, fill0Name := nameG, fill0Desc := descG, fill0Params := parG, fill0Static := stG, fill0Native := natG, fill0Code := codG, fill0Locks := lokG, fill0Abstract := abG,
          stackInstance := st17, stackNotFinal := fin17, unassignedStatic := st13, objClass := hkO, objClassName := nmO, objMethod := gO, objName := nameO, objStatic := stO, objAbstract := abO, objFound := by rw [descO]; exact lookupSpecial_of_named nO gO stO,
          objParams := by rw [parO]; rfl, objCode := codO, objBytes := bytO, objLocks := lokO, causeInstance := st7, causeNotFinal := fin7, sentinelStatic := st20, suppInstance := st24, suppNotFinal := fin24, msgInstance := stM, msgNotFinal := finM,
          stackApartSupp := apart, file := file, mlink1 := l1, mright1 := r1, pool1 := p1, mlink27 := l27, mright27 := r27, pool27 := p27, mlink202 := l202, mright202 := r202, pool202 := p202, link7 := l7, right7 := r7, at7 := at7,
          link13 := l13, right13 := r13, at13 := at13, link17 := l17, right17 := r17, at17 := at17, link20 := l20, right20 := r20, at20 := at20, link24 := l24, right24 := r24, at24 := at24 }
section OwnFill
variable {p : Program} {l : Launch} {e : Env} {R : Room} {s : State} {m : MethodId} {args : Array Value} {below : List Frame} {meth : Method} {c : Code} {T : State} {locs : List Loc} {cells slots : Nat} {Z : State} {a0 : Array Value} {h0 h : Heap} {a : Addr}
theorem own_b0 : ∀ x ∈ ([] : List Loc), x.base = a := fun _ q => nomatch q
theorem own_bs {L : List Loc} {sl : Nat} (q : ∀ x ∈ L, x.base = a) : ∀ x ∈ L ++ [⟨a, sl⟩], x.base = a := fun x hx => (List.mem_append.mp hx).elim (q x) fun hy => by cases List.mem_singleton.mp hy; rfl
theorem own_keep (X : Stand p l e R s m args below meth c T locs cells slots) (hL : ∀ x ∈ locs, x.base = a) : Keep s.heap T.heap [a] := by
  have K : Jvm.Free.Exc.Kept s T locs := fun y cy hy => X.same.2.2.2.2.2 y cy hy
  refine ⟨?_, fun x cx hx hn => K.other hL (fun q => hn (by rw [q]; exact List.mem_singleton.mpr rfl)) hx, fun x cx hx => ?_⟩
  · rcases Nat.eq_zero_or_pos s.heap.size with z | z
    · omega
    · obtain ⟨c', q, -⟩ := K (s.heap.size - 1) _ (Array.getElem?_eq_getElem (by omega))
      have := (Array.getElem?_eq_some_iff.mp q).1
      omega
  · obtain ⟨c', q1, q2, q3, -⟩ := K x cx hx
    exact ⟨c', q1, by rw [q2], by rw [q2], q3⟩
theorem own_unt (X : Stand p l e R s m args below meth c T locs cells slots) (hh : s.heap = h0) (N : Unt h0 a) : Unt T.heap a := by
  obtain ⟨c0, q1, q2, q3⟩ := N
  obtain ⟨c', r1, r2, -⟩ := X.same.2.2.2.2.2 a c0 (by rw [hh]; exact q1)
  exact ⟨c', r1, by rw [r2]; exact q2, by rw [r2]; exact q3⟩
theorem own_slot {O n d : String} {v : Value} {cell : Cell} {c5 : ClassId} {k5 : Class} {i5 : Nat} {f5 : Field} (hZ : Z.Warmed39 s.vm) (F : Fld Z h a O n d v) (hc : h[a]? = some cell) (hf : s.fieldFound? O n d = some (c5, k5, i5, f5)) : cell.slots[f5.slot]? = some v := by
  obtain ⟨c2, cf, kf, i, f, b1, b2, -, -, -, -, b7⟩ := F
  cases hc.symm.trans b1
  obtain ⟨k3, q3, -⟩ := State.fieldFound?_setVm (s := Z) hZ.alike b2
  cases (show s.fieldFound? O n d = _ from q3).symm.trans hf
  exact b7
set_option maxHeartbeats 4000000 in
/-- the call of fillInStackTrace() within Throwable's constructor, on an ApiException that the walk has made -/
theorem own_fill (X : Stand p l e R s m args below meth c T locs cells slots) (hx : p.tables.exec = Jvm.exec) (hl : l.stackTraces = true) (hw : ∀ d ∈ tables_1, d.before a0 Z = true) (hZ : Z.Warmed39 s.vm) (hTK : s.vm.MethodsKnown) (hBe : s.vm.FramesKnown below)
    (hh : s.heap = h0) (eT : T.heap = h) {us : Value} (rf : us.isRef = true) (E : Exa Z h a AXN) (N : Unt h0 a) (St : Fld Z h a tN "stackTrace" steD us) (Bt : Fld Z h a tN "backtrace" Jvm.Free.Exc.obD .null) (Su : Sta Z h tN "UNASSIGNED_STACK" steD us)
    (hL : ∀ x ∈ locs, x.base = a) (hown : s.vm.findClass tN = some m.cls) {Ls : Array Slot} (hsize : Ls.size = c.maxLocals) (hd : decode c.code 24 = .ok (.invokevirtual 27, 3))
    (hf : 2 < R.frames) (hlo : 42 ≤ R.locals) (hce : cells + 1 ≤ R.cells) (hsl : slots + 2752 ≤ R.slots) :
    ∃ (T' : State) (h' : Heap) (L' : List Loc), Stand p l e R s m args below meth c T' L' (cells + 1) (slots + 2752) ∧ T'.heap = h' ∧ (∀ x ∈ L', x.base = a) ∧ Keep h0 h' [a] ∧ Exa Z h' a AXN ∧ Unt h' a ∧ (∃ v, Fld Z h' a tN "detailMessage" Jvm.Free.Exc.msgD v) ∧
      ∀ t, Steps p.tables e below (T'.setTop (mkF m 27 Ls [.ref a])) t → Steps p.tables e below (T.setTop (mkF m 24 Ls [.ref a])) t := by
  have W : ∀ (d : Jvm.Cond) (i : Nat), tables_1[i]? = some d → (d.onTables && d.keepsFace) = true → d.before args s = true := fun d i hd ok => mv hZ (hw d (List.mem_of_getElem? hd)) ok
  have htr : e.platform.stackTraces = true := by rw [X.admits.platform]; exact hl
  have howns : e.platform.frameOwnsMonitors = true := by rw [X.admits.platform]
  have hfin : e.platform.finalization = false := by rw [X.admits.platform]
  have hpl : e.platform.magicAccessors = ({} : Platform).magicAccessors := by rw [X.admits.platform]
  obtain ⟨Th, L, nF, nG, fT, ffS, ffU, tyS0⟩ := own_links (pl := e.platform) hw hZ howns hfin hpl
  have hU := own_unt X hh N
  rw [eT] at hU
  obtain ⟨cell, kX0, hcell, hfX0, hkX0, hns, hsz0⟩ := id E
  obtain ⟨cu, u1, hvm, hmon⟩ := hU
  cases u1.symm.trans hcell
  have hfX : s.vm.findClass AXN = some cell.cls := by rw [hZ.alike.findClass]; exact hfX0
  obtain ⟨kX, hkX, hek⟩ := hZ.alike.2.2 _ _ hkX0
  obtain ⟨c4, k4, i1, i2, i3, -⟩ := Cond.instantiable_spec (hw (.instantiable AXN 7) (List.mem_of_getElem? (i := 30) rfl))
  cases hfX0.symm.trans i1
  cases hkX0.symm.trans i2
  have hord : kX.kind = .ordinary := by rw [hek]; exact i3
  have hsz : cell.slots.size = kX.instanceTypes.size := by rw [hek]; exact hsz0 i3
  obtain ⟨c5, r5, m5, s1, s2, s3, s4, -⟩ := Cond.selects_spec (W (.selects AXN tFill0 tFill0) 100 rfl rfl)
  cases s1.symm.trans hfX
  cases s2.symm.trans (State.methodFound?_of_named nG (by decide))
  cases s3.symm.trans nG
  have hsel : selectMethod e.platform s.vm cell.cls Th.fill0 = .method Th.fill0 := by rw [Launch.admits_selectMethod X.admits]; exact s4
  obtain ⟨cf6, i6, k6, f6, st6, cellS, w1, w2, w3, w4, w5, w6, w7⟩ := Su
  obtain ⟨k7, q7, hek7⟩ := State.fieldFound?_setVm (s := Z) hZ.alike w1
  have hsta : k7.statics = some st6 := by rw [hek7]; exact w4
  clear hek7
  cases (show s.fieldFound? tN "UNASSIGNED_STACK" steD = _ from q7).symm.trans ffU
  cases L.statics.symm.trans hsta
  have hneS : Th.aS ≠ a := fun q => by
    rw [q] at w5
    cases w5.symm.trans hcell
    rw [hvm] at w6
    cases w6
  have hknS : cellS.vm ≠ .unknown := fun q => by rw [q] at w6; cases w6
  obtain ⟨ci9, i9, fB, l9, r9, at9, stB, -, nmB, tyB0, ffB⟩ := Cond.ownField (t := .object "java/lang/Object") fT L.cls (by decide +kernel) (W (.fieldLink tN 198 tN "backtrace" Jvm.Free.Exc.obD) 96 rfl rfl) (W (.lays tN tN "backtrace" Jvm.Free.Exc.obD) 97 rfl rfl) e.platform hpl
  have wD := W (.lays AXN tN "depth" "I") 103 rfl rfl
  obtain ⟨_, _, cD, kD, iD, fD, -, -, ffD, stD, -⟩ := Cond.lays_spec wD
  cases (Cond.lays_declared wD ffD).symm.trans fT
  obtain ⟨hkD, atD⟩ := State.fieldFound?_spec ffD
  cases hkD.symm.trans L.cls
  obtain ⟨nmD, tyD0⟩ := State.fieldFound?_type ffD (t := .int) (by decide +kernel)
  have hfb := Cond.soleField_find fT L.cls (W (.soleField tN "backtrace") 83 rfl rfl) at9 nmB stB
  have hfd := Cond.soleField_find fT L.cls (W (.soleField tN "depth") 84 rfl rfl) atD nmD stD
  have wO : (Jvm.Cond.arrayOver (.object "java/lang/Object")).before args s = true := Cond.arrayOver_alike hZ.alike (hw (.arrayOver (.object "java/lang/Object")) (List.mem_of_getElem? (i := 82) rfl))
  obtain ⟨comp, cO, kO, -, -, hkO, hkindO, hO⟩ := Cond.arrayOver_spec wO
  obtain ⟨tyS, -⟩ := Cond.laysAt hfX hkX ffS (W (.lays AXN tN "stackTrace" steD) 74 rfl rfl)
  obtain ⟨tyB, -⟩ := Cond.laysAt hfX hkX ffB (W (.lays AXN tN "backtrace" Jvm.Free.Exc.obD) 102 rfl rfl)
  obtain ⟨tyD, -⟩ := Cond.laysAt hfX hkX ffD wD
  have tk : ∀ {f : Field} {v : Value}, kX.instanceTypes[f.slot]? = some f.type → fits f.type v = true → Jvm.Takes s cell f v := fun {f v} t1 t2 => by
    obtain ⟨r1, r2⟩ := Takes.of_laid (v := v) hkX hord t1 t2
    exact ⟨by rw [hsz]; simpa using r1, by rw [hvm]; exact r2⟩
  have vS := own_slot hZ St hcell ffS
  have vB := own_slot hZ Bt hcell ffB
  obtain ⟨v6, vm6, ⟨T6, L6, c6, n6⟩, -, X6, ⟨hv6, C6, n, hn, hD6, r1, r2, r3, -, hL6, hc6, hn6⟩, st⟩ := X.virtualBack hx (own := tN) (C := AXN) (index := 27) (y := tFill) (z := tFill) hown (W (.methodLink tN 27 tFill) 78 rfl rfl) (W (.declares tFill) 79 rfl rfl)
    (notFace_of_selects (args := args) (W (.selects AXN tFill tFill) 81 rfl rfl)) (W (.selects AXN tFill tFill) 81 rfl rfl) (W (.instanceMethod tFill) 80 rfl rfl) (by decide)
    (Jvm.Free.Exc.fillPaysAny (l := l) (W := 0) hx htr Th L nF (u0 := ⟨us, rf⟩) (self := a) (cell := cell) (cellS := cellS) (fun _ => by rw [hvm]; simp) (by rw [hvm]; simp) (by rw [hmon]) (by rw [hmon]) vS hsel hneS hknS w7 (tk tyS (by rw [tyS0]; exact fits_refV_array _ ⟨us, rf⟩))
      ⟨{ ci198 := ci9, i198 := i9, fBack := fB }, ⟨l9, r9, at9, stB⟩, vB⟩ hTK hBe fT hO hkO hkindO hfb hfd (fun x => tk tyB (by rw [tyB0]; rfl)) (fun x => tk tyD (by rw [tyD0]; rfl)) hf (by omega))
    (b := a) (cB := cell.cls) hfX ⟨cell, by rw [eT]; exact hcell, rfl, by rw [hvm]; rfl⟩ (g := mkF m 24 Ls [.ref a]) rfl hsize (Steps.refl _) (argsL := []) (rest := [])
    (fun sig q => by rw [show parseMethodDescriptor tFill.desc = some ⟨[], some (.object tN)⟩ from by decide +kernel] at q; rw [← Option.some.inj q]; rfl) rfl (by show 2 * 0 + 0 ≤ 0; decide) hd
    (fun vmx hWx => ⟨rfl, hce, hsl, by show T.heap[a]? = _; rw [eT]; exact hcell, by show T.heap[Th.aS]? = _; rw [eT]; exact w5⟩)
  dsimp only [Pt.U, Pt.locs, Pt.cells, Pt.slots] at X6 hD6 hL6 hc6 hn6 st
  subst hv6 hL6 hc6 hn6
  have hL' : ∀ x ∈ locs ++ [(⟨a, fB.slot⟩ : Loc), ⟨a, fD.slot⟩, ⟨a, Th.fStack.slot⟩], x.base = a := fun x hx => (List.mem_append.mp hx).elim (hL x) fun q => by
    simp only [List.mem_cons, List.not_mem_nil, or_false] at q
    rcases q with rfl | rfl | rfl <;> rfl
  have E' : Exa Z T6.heap a AXN := ⟨C6, kX0, hD6, by rw [r1]; exact hfX0, by rw [r1]; exact hkX0, by rw [r2]; exact hns, fun q => by rw [r3]; exact hsz0 q⟩
  have N' := own_unt X6 hh N
  exact ⟨T6, T6.heap, _, X6.more (Nat.le_refl _) (Nat.add_le_add_left hn _), rfl, hL', hh ▸ own_keep X6 hL', E', N', fld_laid E' N'.known (hw (.instantiable AXN 7) (List.mem_of_getElem? (i := 30) rfl)) (Or.inl (hw (.lays AXN tN "detailMessage" Jvm.Free.Exc.msgD) (List.mem_of_getElem? (i := 101) rfl))), fun t q => st.trans q⟩
end OwnFill
theorem d12_0 : decode jdk_78_method_2_code 0 = .ok (.aload_n 0, 1) := by decide +kernel
theorem d12_1 : decode jdk_78_method_2_code 1 = .ok (.invokespecial 1, 3) := by decide +kernel
theorem d12_4 : decode jdk_78_method_2_code 4 = .ok (.aload_n 0, 1) := by decide +kernel
theorem d12_5 : decode jdk_78_method_2_code 5 = .ok (.aload_n 0, 1) := by decide +kernel
theorem d12_6 : decode jdk_78_method_2_code 6 = .ok (.putfield 7, 3) := by decide +kernel
theorem d12_9 : decode jdk_78_method_2_code 9 = .ok (.aload_n 0, 1) := by decide +kernel
theorem d12_10 : decode jdk_78_method_2_code 10 = .ok (.getstatic 13, 3) := by decide +kernel
theorem d12_13 : decode jdk_78_method_2_code 13 = .ok (.putfield 17, 3) := by decide +kernel
theorem d12_16 : decode jdk_78_method_2_code 16 = .ok (.aload_n 0, 1) := by decide +kernel
theorem d12_17 : decode jdk_78_method_2_code 17 = .ok (.getstatic 20, 3) := by decide +kernel
theorem d12_20 : decode jdk_78_method_2_code 20 = .ok (.putfield 24, 3) := by decide +kernel
theorem d12_23 : decode jdk_78_method_2_code 23 = .ok (.aload_n 0, 1) := by decide +kernel
theorem d12_24 : decode jdk_78_method_2_code 24 = .ok (.invokevirtual 27, 3) := by decide +kernel
theorem d12_27 : decode jdk_78_method_2_code 27 = .ok (.pop, 1) := by decide +kernel
theorem d12_28 : decode jdk_78_method_2_code 28 = .ok (.aload_n 0, 1) := by decide +kernel
theorem d12_29 : decode jdk_78_method_2_code 29 = .ok (.aload_n 1, 1) := by decide +kernel
theorem d12_30 : decode jdk_78_method_2_code 30 = .ok (.putfield 31, 3) := by decide +kernel
theorem d12_33 : decode jdk_78_method_2_code 33 = .ok (.return_, 1) := by decide +kernel
theorem pn_0 : plainName "java/lang/Throwable" = true := by first | (simp [plainName, overriddenIn]; done) | decide +kernel
theorem ef_rmTh (m : MethodId) (a : Addr) (t : Addr) : entryFrame m #[(.ref a), (.ref t)] 2 = mkF m 0 #[.val (.ref a), .val (.ref t)] [] := by first | (simp [entryFrame, mkF, argsToLocals, Value.category]; done) | rfl
def QrmTh (Z : State) (a : Addr) (t : Addr) (us : Value) (sn : Value) (h0 : Heap) (n0 : Nat) (rV : Option Value) (hE : Heap) (LE : List Loc) : Prop := rV = none ∧ Fr n0 LE ∧ Keep h0 hE [a] ∧ Exa Z hE a "com/example/plaingrant/plaingrant/server/http/ApiException" ∧ Unt hE a
set_option maxRecDepth 65536 in
set_option maxHeartbeats 40000000 in
theorem rmTh (l : Launch) (Z : State) (a0 : Array Value) (hw : ∀ d ∈ tables_1, d.before a0 Z = true) (ws : List Jvm.Cond) (a : Addr) (t : Addr) (us : Value) (sn : Value) (h0 : Heap) (n0 : Nat) (Z0 : n0 ≤ h0.size) (hl : l.stackTraces = true) (E_a : Exa Z h0 a "com/example/plaingrant/plaingrant/server/http/ApiException") (U_a : Unt h0 a) (g_a : n0 ≤ a) (F_cause_a : Fld Z h0 a "java/lang/Throwable" "cause" "Ljava/lang/Throwable;" .null) (F_stackTrace_a : Fld Z h0 a "java/lang/Throwable" "stackTrace" "[Ljava/lang/StackTraceElement;" .null) (F_suppressedExceptions_a : Fld Z h0 a "java/lang/Throwable" "suppressedExceptions" "Ljava/util/List;" .null) (F_backtrace_a : Fld Z h0 a "java/lang/Throwable" "backtrace" "Ljava/lang/Object;" .null) (S_UNASSIGNED_STACK : Sta Z h0 "java/lang/Throwable" "UNASSIGNED_STACK" "[Ljava/lang/StackTraceElement;" us) (S_SUPPRESSED_SENTINEL : Sta Z h0 "java/lang/Throwable" "SUPPRESSED_SENTINEL" "Ljava/util/List;" sn) (rf_us : us.isRef = true) (rf_sn : sn.isRef = true) :
    MetFree l (⟨"java/lang/Throwable", "<init>", "(Ljava/lang/String;)V"⟩ : MethodName) (head1 (Jvm.Cond.code (⟨"java/lang/Throwable", "<init>", "(Ljava/lang/String;)V"⟩ : MethodName) jdk_78_method_2_code 2 none :: ws) ({ frames := 3, cells := 1, slots := 2752, locals := 42 } : Room)) (fun aA UA => aA = #[(.ref a), (.ref t)] ∧ Z.Warmed39 UA.vm ∧ UA.heap = h0) (fun _ _ bl sK _ => sK.vm.MethodsKnown ∧ sK.vm.FramesKnown bl) (fun _ UA oA UB => ∃ rV LE, oA = .returned rV ∧ QrmTh Z a t us sn h0 n0 rV UB.heap LE ∧ FrameEnd UA oA UB LE ({ frames := 3, cells := 1, slots := 2752, locals := 42 } : Room).cells ({ frames := 3, cells := 1, slots := 2752, locals := 42 } : Room).slots) := by
  refine MetFree.of_bodySF (plainFor_of_name pn_0) hisR ?_
  intro p e s m args below meth c s₁ Bd hml0 hP hK
  obtain ⟨hTK, hBe⟩ := hK
  obtain ⟨rfl, hZ, hh⟩ := hP
  have hx := Bd.exec
  have hby := Bd.bytes
  have hml : c.maxLocals = 2 := hml0
  have hown : s.vm.findClass "java/lang/Throwable" = some m.cls := findClass_of_methodNamed Bd.named
  have hnm := (name_of_methodNamed Bd.named Bd.method).1
  have hlk := Bd.notSynchronized
  have X0 : Stand p l e ({ frames := 3, cells := 1, slots := 2752, locals := 42 } : Room) s m #[(.ref a), (.ref t)] below meth c s₁ [] 0 0 := Stand.of_body Bd
  have e0 : s₁.heap = h0 := by rw [← hh, Bd.state]; rfl
  have N0 := Fr.nil n0
  show Go p e below s (QrmTh Z a t us sn h0 n0) ({ frames := 3, cells := 1, slots := 2752, locals := 42 } : Room).cells ({ frames := 3, cells := 1, slots := 2752, locals := 42 } : Room).slots s₁ (entryFrame m #[(.ref a), (.ref t)] 2)
  refine Go.eq (ef_rmTh m a t) ?_
  show Go p e below s _ _ _ s₁ (mkF m 0 #[.val (.ref a), .val (.ref t)] [])
  refine Go.st (fun _ => XS.aloadN X0.here hx rfl (hb hby d12_0) rfl rfl) ?_
  show Go p e below s _ _ _ s₁ (mkF m 1 #[.val (.ref a), .val (.ref t)] [(.ref a)])
  obtain ⟨T_1, X_1, e_1, st_1⟩ := initO X0 hx hZ hown (hw _ (List.mem_of_getElem? (i := 69) rfl)) (hw _ (List.mem_of_getElem? (i := 12) rfl)) (hw _ (List.mem_of_getElem? (i := 13) rfl)) e0 (g := (mkF m 1 #[.val (.ref a), .val (.ref t)] [(.ref a)])) rfl (by rw [hml]; rfl) rfl (hb hby d12_1) (by decide) (W := 0) (by show 2 * 0 + _ ≤ _; exact Nat.le_of_eq rfl) (by decide)
  refine Go.st st_1 ?_
  show Go p e below s _ _ _ T_1 (mkF m 4 #[.val (.ref a), .val (.ref t)] [])
  refine Go.st (fun _ => XS.aloadN X_1.here hx rfl (hb hby d12_4) rfl rfl) ?_
  show Go p e below s _ _ _ T_1 (mkF m 5 #[.val (.ref a), .val (.ref t)] [(.ref a)])
  refine Go.st (fun _ => XS.aloadN X_1.here hx rfl (hb hby d12_5) rfl rfl) ?_
  show Go p e below s _ _ _ T_1 (mkF m 6 #[.val (.ref a), .val (.ref t)] [(.ref a), (.ref a)])
  obtain ⟨T_2, h_2, X_2, e_2, W_2, st_2⟩ := putF X_1 hx hZ hown (host := "") (Or.inl (hw _ (List.mem_of_getElem? (i := 70) rfl))) Via.refl e_1 F_cause_a E_a (Or.inl (hw _ (List.mem_of_getElem? (i := 71) rfl))) (hw _ (List.mem_of_getElem? (i := 30) rfl)) (ty := (.object "java/lang/Throwable")) (by decide) rfl rfl (g := (mkF m 6 #[.val (.ref a), .val (.ref t)] [(.ref a), (.ref a)])) rfl rfl (hb hby d12_6)
  refine Go.st st_2 ?_
  have N_2 := Fr.snoc X_2 N0 g_a
  have K_2 : Keep h0 h_2 [a] := (Keep.refl h0 [a]).wr W_2 (Or.inl (List.mem_of_getElem? (i := 0) rfl))
  have z_2 : n0 ≤ h_2.size := Nat.le_trans Z0 (Nat.le_of_eq W_2.size.symm)
  have Fw_2 := F_cause_a.same W_2
  show Go p e below s _ _ _ T_2 (mkF m 9 #[.val (.ref a), .val (.ref t)] [])
  refine Go.st (fun _ => XS.aloadN X_2.here hx rfl (hb hby d12_9) rfl rfl) ?_
  show Go p e below s _ _ _ T_2 (mkF m 10 #[.val (.ref a), .val (.ref t)] [(.ref a)])
  have f_3 := (S_UNASSIGNED_STACK.wr W_2)
  obtain ⟨T_4, X_4, e_4, st_4⟩ := getS2 X_2 hx hZ hown (host := "") (Or.inl (hw _ (List.mem_of_getElem? (i := 72) rfl))) Via.refl e_2 f_3 (g := (mkF m 10 #[.val (.ref a), .val (.ref t)] [(.ref a)])) rfl (hb hby d12_10)
  refine Go.st st_4 ?_
  show Go p e below s _ _ _ T_4 (mkF m 13 #[.val (.ref a), .val (.ref t)] [us, (.ref a)])
  have f_5 := (E_a.wr W_2)
  have f_6 := (F_stackTrace_a.other W_2 (Or.inr (slot_ne (Or.inl (hw _ (List.mem_of_getElem? (i := 74) rfl))) (Or.inl (hw _ (List.mem_of_getElem? (i := 71) rfl))) (by decide) (t := (.array (.object "java/lang/StackTraceElement"))) (t' := (.object "java/lang/Throwable")) (by decide) (by decide))))
  obtain ⟨T_7, h_7, X_7, e_7, W_7, st_7⟩ := putF X_4 hx hZ hown (host := "") (Or.inl (hw _ (List.mem_of_getElem? (i := 73) rfl))) Via.refl e_4 f_6 f_5 (Or.inl (hw _ (List.mem_of_getElem? (i := 74) rfl))) (hw _ (List.mem_of_getElem? (i := 30) rfl)) (ty := (.array (.object "java/lang/StackTraceElement"))) (by decide) (own_nar_ref rf_us) (own_fits_ref rf_us) (g := (mkF m 13 #[.val (.ref a), .val (.ref t)] [us, (.ref a)])) rfl rfl (hb hby d12_13)
  refine Go.st st_7 ?_
  have N_7 := Fr.snoc X_7 N_2 g_a
  have K_7 : Keep h0 h_7 [a] := K_2.wr W_7 (Or.inl (List.mem_of_getElem? (i := 0) rfl))
  have z_7 : n0 ≤ h_7.size := Nat.le_trans z_2 (Nat.le_of_eq W_7.size.symm)
  have Fw_7 := f_6.same W_7
  show Go p e below s _ _ _ T_7 (mkF m 16 #[.val (.ref a), .val (.ref t)] [])
  refine Go.st (fun _ => XS.aloadN X_7.here hx rfl (hb hby d12_16) rfl rfl) ?_
  show Go p e below s _ _ _ T_7 (mkF m 17 #[.val (.ref a), .val (.ref t)] [(.ref a)])
  have f_8 := ((S_SUPPRESSED_SENTINEL.wr W_2).wr W_7)
  obtain ⟨T_9, X_9, e_9, st_9⟩ := getS2 X_7 hx hZ hown (host := "") (Or.inl (hw _ (List.mem_of_getElem? (i := 75) rfl))) Via.refl e_7 f_8 (g := (mkF m 17 #[.val (.ref a), .val (.ref t)] [(.ref a)])) rfl (hb hby d12_17)
  refine Go.st st_9 ?_
  show Go p e below s _ _ _ T_9 (mkF m 20 #[.val (.ref a), .val (.ref t)] [sn, (.ref a)])
  have f_10 := (f_5.wr W_7)
  have f_11 := ((F_suppressedExceptions_a.other W_2 (Or.inr (slot_ne (Or.inl (hw _ (List.mem_of_getElem? (i := 77) rfl))) (Or.inl (hw _ (List.mem_of_getElem? (i := 71) rfl))) (by decide) (t := (.object "java/util/List")) (t' := (.object "java/lang/Throwable")) (by decide) (by decide)))).other W_7 (Or.inr (slot_ne (Or.inl (hw _ (List.mem_of_getElem? (i := 77) rfl))) (Or.inl (hw _ (List.mem_of_getElem? (i := 74) rfl))) (by decide) (t := (.object "java/util/List")) (t' := (.array (.object "java/lang/StackTraceElement"))) (by decide) (by decide))))
  obtain ⟨T_12, h_12, X_12, e_12, W_12, st_12⟩ := putF X_9 hx hZ hown (host := "") (Or.inl (hw _ (List.mem_of_getElem? (i := 76) rfl))) Via.refl e_9 f_11 f_10 (Or.inl (hw _ (List.mem_of_getElem? (i := 77) rfl))) (hw _ (List.mem_of_getElem? (i := 30) rfl)) (ty := (.object "java/util/List")) (by decide) (own_nar_ref rf_sn) (own_fits_ref rf_sn) (g := (mkF m 20 #[.val (.ref a), .val (.ref t)] [sn, (.ref a)])) rfl rfl (hb hby d12_20)
  refine Go.st st_12 ?_
  have N_12 := Fr.snoc X_12 N_7 g_a
  have K_12 : Keep h0 h_12 [a] := K_7.wr W_12 (Or.inl (List.mem_of_getElem? (i := 0) rfl))
  have z_12 : n0 ≤ h_12.size := Nat.le_trans z_7 (Nat.le_of_eq W_12.size.symm)
  have Fw_12 := f_11.same W_12
  show Go p e below s _ _ _ T_12 (mkF m 23 #[.val (.ref a), .val (.ref t)] [])
  refine Go.st (fun _ => XS.aloadN X_12.here hx rfl (hb hby d12_23) rfl rfl) ?_
  show Go p e below s _ _ _ T_12 (mkF m 24 #[.val (.ref a), .val (.ref t)] [(.ref a)])
  have f_14 := (f_10.wr W_12)
  have f_15 := (Fw_7.other W_12 (Or.inr (slot_ne (Or.inl (hw _ (List.mem_of_getElem? (i := 74) rfl))) (Or.inl (hw _ (List.mem_of_getElem? (i := 77) rfl))) (by decide) (t := (.array (.object "java/lang/StackTraceElement"))) (t' := (.object "java/util/List")) (by decide) (by decide))))
  have f_16 := (((F_backtrace_a.other W_2 (Or.inr (slot_ne (Or.inl (hw _ (List.mem_of_getElem? (i := 102) rfl))) (Or.inl (hw _ (List.mem_of_getElem? (i := 71) rfl))) (by decide) (t := (.object "java/lang/Object")) (t' := (.object "java/lang/Throwable")) (by decide) (by decide)))).other W_7 (Or.inr (slot_ne (Or.inl (hw _ (List.mem_of_getElem? (i := 102) rfl))) (Or.inl (hw _ (List.mem_of_getElem? (i := 74) rfl))) (by decide) (t := (.object "java/lang/Object")) (t' := (.array (.object "java/lang/StackTraceElement"))) (by decide) (by decide)))).other W_12 (Or.inr (slot_ne (Or.inl (hw _ (List.mem_of_getElem? (i := 102) rfl))) (Or.inl (hw _ (List.mem_of_getElem? (i := 77) rfl))) (by decide) (t := (.object "java/lang/Object")) (t' := (.object "java/util/List")) (by decide) (by decide))))
  have f_17 := ((f_3.wr W_7).wr W_12)
  obtain ⟨T_13, h_13, L_13, X_13, e_13, b_13, K_13, A_13, U_13, ⟨vd_13, F_13⟩, st_13⟩ := own_fill X_12 hx hl hw hZ hTK hBe hh e_12 rf_us f_14 U_a f_15 f_16 f_17 (own_bs (own_bs (own_bs own_b0))) hown (Ls := #[.val (.ref a), .val (.ref t)]) (by rw [hml]; rfl) (hb hby d12_24) (by decide) (by decide) (by decide) (by decide)
  refine Go.st st_13 ?_
  have N_13 : Fr n0 L_13 := fun y hy => by rw [b_13 y hy]; exact g_a
  have z_13 : n0 ≤ h_13.size := Nat.le_trans Z0 K_13.1
  show Go p e below s _ _ _ T_13 (mkF m 27 #[.val (.ref a), .val (.ref t)] [(.ref a)])
  refine Go.st (fun _ => XS.pop X_13.here hx rfl (hb hby d12_27) rfl rfl) ?_
  show Go p e below s _ _ _ T_13 (mkF m 28 #[.val (.ref a), .val (.ref t)] [])
  refine Go.st (fun _ => XS.aloadN X_13.here hx rfl (hb hby d12_28) rfl rfl) ?_
  show Go p e below s _ _ _ T_13 (mkF m 29 #[.val (.ref a), .val (.ref t)] [(.ref a)])
  refine Go.st (fun _ => XS.aloadN X_13.here hx rfl (hb hby d12_29) rfl rfl) ?_
  show Go p e below s _ _ _ T_13 (mkF m 30 #[.val (.ref a), .val (.ref t)] [(.ref t), (.ref a)])
  obtain ⟨T_18, h_18, X_18, e_18, W_18, st_18⟩ := putF X_13 hx hZ hown (host := "") (Or.inl (hw _ (List.mem_of_getElem? (i := 105) rfl))) Via.refl e_13 F_13 A_13 (Or.inl (hw _ (List.mem_of_getElem? (i := 101) rfl))) (hw _ (List.mem_of_getElem? (i := 30) rfl)) (ty := (.object "java/lang/String")) (by decide) rfl rfl (g := (mkF m 30 #[.val (.ref a), .val (.ref t)] [(.ref t), (.ref a)])) rfl rfl (hb hby d12_30)
  refine Go.st st_18 ?_
  have N_18 := Fr.snoc X_18 N_13 g_a
  have K_18 : Keep h0 h_18 [a] := K_13.wr W_18 (Or.inl (List.mem_of_getElem? (i := 0) rfl))
  have z_18 : n0 ≤ h_18.size := Nat.le_trans z_13 (Nat.le_of_eq W_18.size.symm)
  have Fw_18 := F_13.same W_18
  show Go p e below s _ _ _ T_18 (mkF m 33 #[.val (.ref a), .val (.ref t)] [])
  have f_19 := (A_13.wr W_18)
  have f_20 := (U_13.wr W_18)
  exact Go.ret0 X_18 hx hlk Bd.returns (hb hby d12_33) (by rw [e_18]; exact ⟨rfl, N_18, K_18, f_19, f_20⟩) (by decide) (by decide)
theorem d11_0 : decode jdk_59_method_2_code 0 = .ok (.aload_n 0, 1) := by decide +kernel
theorem d11_1 : decode jdk_59_method_2_code 1 = .ok (.aload_n 1, 1) := by decide +kernel
theorem d11_2 : decode jdk_59_method_2_code 2 = .ok (.invokespecial 7, 3) := by decide +kernel
theorem pd_0 : parseMethodDescriptor "(Ljava/lang/String;)V" = some ⟨[(.object "java/lang/String")], none⟩ := by decide +kernel
theorem d11_5 : decode jdk_59_method_2_code 5 = .ok (.return_, 1) := by decide +kernel
theorem pn_1 : plainName "java/lang/Exception" = true := by first | (simp [plainName, overriddenIn]; done) | decide +kernel
theorem ef_rmEx (m : MethodId) (a : Addr) (t : Addr) : entryFrame m #[(.ref a), (.ref t)] 2 = mkF m 0 #[.val (.ref a), .val (.ref t)] [] := by first | (simp [entryFrame, mkF, argsToLocals, Value.category]; done) | rfl
def QrmEx (Z : State) (a : Addr) (t : Addr) (us : Value) (sn : Value) (h0 : Heap) (n0 : Nat) (rV : Option Value) (hE : Heap) (LE : List Loc) : Prop := rV = none ∧ Fr n0 LE ∧ Keep h0 hE [a] ∧ Exa Z hE a "com/example/plaingrant/plaingrant/server/http/ApiException" ∧ Unt hE a
set_option maxRecDepth 65536 in
set_option maxHeartbeats 40000000 in
theorem rmEx (l : Launch) (Z : State) (a0 : Array Value) (hw : ∀ d ∈ tables_1, d.before a0 Z = true) (ws : List Jvm.Cond) (a : Addr) (t : Addr) (us : Value) (sn : Value) (h0 : Heap) (n0 : Nat) (Z0 : n0 ≤ h0.size) (hl : l.stackTraces = true) (E_a : Exa Z h0 a "com/example/plaingrant/plaingrant/server/http/ApiException") (U_a : Unt h0 a) (g_a : n0 ≤ a) (F_cause_a : Fld Z h0 a "java/lang/Throwable" "cause" "Ljava/lang/Throwable;" .null) (F_stackTrace_a : Fld Z h0 a "java/lang/Throwable" "stackTrace" "[Ljava/lang/StackTraceElement;" .null) (F_suppressedExceptions_a : Fld Z h0 a "java/lang/Throwable" "suppressedExceptions" "Ljava/util/List;" .null) (F_backtrace_a : Fld Z h0 a "java/lang/Throwable" "backtrace" "Ljava/lang/Object;" .null) (S_UNASSIGNED_STACK : Sta Z h0 "java/lang/Throwable" "UNASSIGNED_STACK" "[Ljava/lang/StackTraceElement;" us) (S_SUPPRESSED_SENTINEL : Sta Z h0 "java/lang/Throwable" "SUPPRESSED_SENTINEL" "Ljava/util/List;" sn) (rf_us : us.isRef = true) (rf_sn : sn.isRef = true) :
    MetFree l (⟨"java/lang/Exception", "<init>", "(Ljava/lang/String;)V"⟩ : MethodName) (head1 (Jvm.Cond.code (⟨"java/lang/Exception", "<init>", "(Ljava/lang/String;)V"⟩ : MethodName) jdk_59_method_2_code 2 none :: ws) ({ frames := 4, cells := 1, slots := 2752, locals := 55 } : Room)) (fun aA UA => aA = #[(.ref a), (.ref t)] ∧ Z.Warmed39 UA.vm ∧ UA.heap = h0) (fun _ _ bl sK _ => sK.vm.MethodsKnown ∧ sK.vm.FramesKnown bl) (fun _ UA oA UB => ∃ rV LE, oA = .returned rV ∧ QrmEx Z a t us sn h0 n0 rV UB.heap LE ∧ FrameEnd UA oA UB LE ({ frames := 4, cells := 1, slots := 2752, locals := 55 } : Room).cells ({ frames := 4, cells := 1, slots := 2752, locals := 55 } : Room).slots) := by
  refine MetFree.of_bodySF (plainFor_of_name pn_1) hisR ?_
  intro p e s m args below meth c s₁ Bd hml0 hP hK
  obtain ⟨hTK, hBe⟩ := hK
  obtain ⟨rfl, hZ, hh⟩ := hP
  have hx := Bd.exec
  have hby := Bd.bytes
  have hml : c.maxLocals = 2 := hml0
  have hown : s.vm.findClass "java/lang/Exception" = some m.cls := findClass_of_methodNamed Bd.named
  have hnm := (name_of_methodNamed Bd.named Bd.method).1
  have hlk := Bd.notSynchronized
  have X0 : Stand p l e ({ frames := 4, cells := 1, slots := 2752, locals := 55 } : Room) s m #[(.ref a), (.ref t)] below meth c s₁ [] 0 0 := Stand.of_body Bd
  have e0 : s₁.heap = h0 := by rw [← hh, Bd.state]; rfl
  have N0 := Fr.nil n0
  show Go p e below s (QrmEx Z a t us sn h0 n0) ({ frames := 4, cells := 1, slots := 2752, locals := 55 } : Room).cells ({ frames := 4, cells := 1, slots := 2752, locals := 55 } : Room).slots s₁ (entryFrame m #[(.ref a), (.ref t)] 2)
  refine Go.eq (ef_rmEx m a t) ?_
  show Go p e below s _ _ _ s₁ (mkF m 0 #[.val (.ref a), .val (.ref t)] [])
  refine Go.st (fun _ => XS.aloadN X0.here hx rfl (hb hby d11_0) rfl rfl) ?_
  show Go p e below s _ _ _ s₁ (mkF m 1 #[.val (.ref a), .val (.ref t)] [(.ref a)])
  refine Go.st (fun _ => XS.aloadN X0.here hx rfl (hb hby d11_1) rfl rfl) ?_
  show Go p e below s _ _ _ s₁ (mkF m 2 #[.val (.ref a), .val (.ref t)] [(.ref t), (.ref a)])
  obtain ⟨_, _, ⟨T_1, L_1, kc_1, nc_1⟩, -, X_1, ⟨Lc_1, hQ_1, l_1, y_1, z_1⟩, st_1⟩ := X0.specialBack hx (y := (⟨"java/lang/Throwable", "<init>", "(Ljava/lang/String;)V"⟩ : MethodName)) rfl hown (mvT hZ (hw _ (List.mem_of_getElem? (i := 63) rfl))) (mvT hZ (hw _ (List.mem_of_getElem? (i := 64) rfl))) (mvT hZ (hw _ (List.mem_of_getElem? (i := 68) rfl))) (by decide) (backOfKL (W := 0) (rmTh l Z a0 hw [] a t us sn h0 n0 Z0 (by assumption) E_a U_a g_a F_cause_a F_stackTrace_a F_suppressedExceptions_a F_backtrace_a S_UNASSIGNED_STACK S_SUPPRESSED_SENTINEL rf_us rf_sn) hZ (hw _ (List.mem_of_getElem? (i := 68) rfl)) (hw _ (List.mem_of_getElem? (i := 67) rfl)) (by decide) (by decide) hTK hBe) (g := (mkF m 2 #[.val (.ref a), .val (.ref t)] [(.ref t), (.ref a)])) rfl (by rw [hml]; rfl) (Steps.refl _) (a := a) (argsL := [(.ref t)]) (rest := []) (lenOf pd_0 rfl) rfl (by show 2 * 0 + _ ≤ _; exact Nat.le_of_eq rfl) (hb hby d11_2) (fun _ _ => ⟨rfl, e0, (by decide : 0 + 1 ≤ _), (by decide : 0 + 2752 ≤ _)⟩)
  dsimp only [Pt.U, Pt.locs, Pt.cells, Pt.slots] at X_1 l_1 y_1 z_1 st_1 hQ_1
  obtain rfl : kc_1 = 1 := y_1
  obtain rfl : nc_1 = 2752 := z_1
  obtain ⟨h_1, e_1⟩ : ∃ hh, T_1.heap = hh := ⟨_, rfl⟩
  rw [e_1] at hQ_1
  obtain ⟨rfl, N_1q, K_1, p_1_0, p_1_1⟩ := hQ_1
  have N_1 : Fr n0 L_1 := by rw [l_1]; exact Fr.app N0 N_1q
  refine Go.st (fun _ kk => st_1.trans kk) ?_
  have KK_1 : Keep h0 h_1 [a] := (Keep.refl h0 [a]).trans K_1 (allS (Or.inl (List.mem_of_getElem? (i := 0) rfl)) all0)
  have z_1q : n0 ≤ h_1.size := Nat.le_trans Z0 K_1.1
  have ns_1 : ∀ x ∈ ([a] : List Addr), ∀ cell : Cell, h0[x]? = some cell → cell.vm.isStatics = false := (allS E_a.nostat all0)
  show Go p e below s _ _ _ T_1 (mkF m 5 #[.val (.ref a), .val (.ref t)] [])
  exact Go.ret0 X_1 hx hlk Bd.returns (hb hby d11_5) (by rw [e_1]; exact ⟨rfl, N_1, KK_1, p_1_0, p_1_1⟩) (by decide) (by decide)
theorem d10_0 : decode prog_30_method_1_code 0 = .ok (.aload_n 0, 1) := by decide +kernel
theorem d10_1 : decode prog_30_method_1_code 1 = .ok (.aload_n 2, 1) := by decide +kernel
theorem d10_2 : decode prog_30_method_1_code 2 = .ok (.invokespecial 1, 3) := by decide +kernel
theorem d10_5 : decode prog_30_method_1_code 5 = .ok (.aload_n 0, 1) := by decide +kernel
theorem d10_6 : decode prog_30_method_1_code 6 = .ok (.iload_n 1, 1) := by decide +kernel
theorem d10_7 : decode prog_30_method_1_code 7 = .ok (.putfield 7, 3) := by decide +kernel
theorem d10_10 : decode prog_30_method_1_code 10 = .ok (.return_, 1) := by decide +kernel
theorem pn_2 : plainName "com/example/plaingrant/plaingrant/server/http/ApiException" = true := by first | (simp [plainName, overriddenIn]; done) | decide +kernel
theorem ef_rmAx (m : MethodId) (a : Addr) (sx : Int32) (t : Addr) : entryFrame m #[(.ref a), (.int sx), (.ref t)] 3 = mkF m 0 #[.val (.ref a), .val (.int sx), .val (.ref t)] [] := by first | (simp [entryFrame, mkF, argsToLocals, Value.category]; done) | rfl
def QrmAx (Z : State) (a : Addr) (sx : Int32) (t : Addr) (us : Value) (sn : Value) (h0 : Heap) (n0 : Nat) (rV : Option Value) (hE : Heap) (LE : List Loc) : Prop := rV = none ∧ Fr n0 LE ∧ Keep h0 hE [a] ∧ Exa Z hE a "com/example/plaingrant/plaingrant/server/http/ApiException"
set_option maxRecDepth 65536 in
set_option maxHeartbeats 40000000 in
theorem rmAx (l : Launch) (Z : State) (a0 : Array Value) (hw : ∀ d ∈ tables_1, d.before a0 Z = true) (ws : List Jvm.Cond) (a : Addr) (sx : Int32) (t : Addr) (us : Value) (sn : Value) (h0 : Heap) (n0 : Nat) (Z0 : n0 ≤ h0.size) (hl : l.stackTraces = true) (E_a : Exa Z h0 a "com/example/plaingrant/plaingrant/server/http/ApiException") (U_a : Unt h0 a) (g_a : n0 ≤ a) (F_cause_a : Fld Z h0 a "java/lang/Throwable" "cause" "Ljava/lang/Throwable;" .null) (F_stackTrace_a : Fld Z h0 a "java/lang/Throwable" "stackTrace" "[Ljava/lang/StackTraceElement;" .null) (F_suppressedExceptions_a : Fld Z h0 a "java/lang/Throwable" "suppressedExceptions" "Ljava/util/List;" .null) (F_backtrace_a : Fld Z h0 a "java/lang/Throwable" "backtrace" "Ljava/lang/Object;" .null) (S_UNASSIGNED_STACK : Sta Z h0 "java/lang/Throwable" "UNASSIGNED_STACK" "[Ljava/lang/StackTraceElement;" us) (S_SUPPRESSED_SENTINEL : Sta Z h0 "java/lang/Throwable" "SUPPRESSED_SENTINEL" "Ljava/util/List;" sn) (rf_us : us.isRef = true) (rf_sn : sn.isRef = true) :
    MetFree l (⟨"com/example/plaingrant/plaingrant/server/http/ApiException", "<init>", "(ILjava/lang/String;)V"⟩ : MethodName) (head1 (Jvm.Cond.code (⟨"com/example/plaingrant/plaingrant/server/http/ApiException", "<init>", "(ILjava/lang/String;)V"⟩ : MethodName) prog_30_method_1_code 3 none :: ws) ({ frames := 5, cells := 1, slots := 2752, locals := 68 } : Room)) (fun aA UA => aA = #[(.ref a), (.int sx), (.ref t)] ∧ Z.Warmed39 UA.vm ∧ UA.heap = h0) (fun _ _ bl sK _ => sK.vm.MethodsKnown ∧ sK.vm.FramesKnown bl) (fun _ UA oA UB => ∃ rV LE, oA = .returned rV ∧ QrmAx Z a sx t us sn h0 n0 rV UB.heap LE ∧ FrameEnd UA oA UB LE ({ frames := 5, cells := 1, slots := 2752, locals := 68 } : Room).cells ({ frames := 5, cells := 1, slots := 2752, locals := 68 } : Room).slots) := by
  refine MetFree.of_bodySF (plainFor_of_name pn_2) hisR ?_
  intro p e s m args below meth c s₁ Bd hml0 hP hK
  obtain ⟨hTK, hBe⟩ := hK
  obtain ⟨rfl, hZ, hh⟩ := hP
  have hx := Bd.exec
  have hby := Bd.bytes
  have hml : c.maxLocals = 3 := hml0
  have hown : s.vm.findClass "com/example/plaingrant/plaingrant/server/http/ApiException" = some m.cls := findClass_of_methodNamed Bd.named
  have hnm := (name_of_methodNamed Bd.named Bd.method).1
  have hlk := Bd.notSynchronized
  have X0 : Stand p l e ({ frames := 5, cells := 1, slots := 2752, locals := 68 } : Room) s m #[(.ref a), (.int sx), (.ref t)] below meth c s₁ [] 0 0 := Stand.of_body Bd
  have e0 : s₁.heap = h0 := by rw [← hh, Bd.state]; rfl
  have N0 := Fr.nil n0
  show Go p e below s (QrmAx Z a sx t us sn h0 n0) ({ frames := 5, cells := 1, slots := 2752, locals := 68 } : Room).cells ({ frames := 5, cells := 1, slots := 2752, locals := 68 } : Room).slots s₁ (entryFrame m #[(.ref a), (.int sx), (.ref t)] 3)
  refine Go.eq (ef_rmAx m a sx t) ?_
  show Go p e below s _ _ _ s₁ (mkF m 0 #[.val (.ref a), .val (.int sx), .val (.ref t)] [])
  refine Go.st (fun _ => XS.aloadN X0.here hx rfl (hb hby d10_0) rfl rfl) ?_
  show Go p e below s _ _ _ s₁ (mkF m 1 #[.val (.ref a), .val (.int sx), .val (.ref t)] [(.ref a)])
  refine Go.st (fun _ => XS.aloadN X0.here hx rfl (hb hby d10_1) rfl rfl) ?_
  show Go p e below s _ _ _ s₁ (mkF m 2 #[.val (.ref a), .val (.int sx), .val (.ref t)] [(.ref t), (.ref a)])
  obtain ⟨_, _, ⟨T_1, L_1, kc_1, nc_1⟩, -, X_1, ⟨Lc_1, hQ_1, l_1, y_1, z_1⟩, st_1⟩ := X0.specialBack hx (y := (⟨"java/lang/Exception", "<init>", "(Ljava/lang/String;)V"⟩ : MethodName)) rfl hown (mvT hZ (hw _ (List.mem_of_getElem? (i := 58) rfl))) (mvT hZ (hw _ (List.mem_of_getElem? (i := 59) rfl))) (mvT hZ (hw _ (List.mem_of_getElem? (i := 62) rfl))) (by decide) (backOfKL (W := 0) (rmEx l Z a0 hw [] a t us sn h0 n0 Z0 (by assumption) E_a U_a g_a F_cause_a F_stackTrace_a F_suppressedExceptions_a F_backtrace_a S_UNASSIGNED_STACK S_SUPPRESSED_SENTINEL rf_us rf_sn) hZ (hw _ (List.mem_of_getElem? (i := 62) rfl)) (hw _ (List.mem_of_getElem? (i := 61) rfl)) (by decide) (by decide) hTK hBe) (g := (mkF m 2 #[.val (.ref a), .val (.int sx), .val (.ref t)] [(.ref t), (.ref a)])) rfl (by rw [hml]; rfl) (Steps.refl _) (a := a) (argsL := [(.ref t)]) (rest := []) (lenOf pd_0 rfl) rfl (by show 2 * 0 + _ ≤ _; exact Nat.le_of_eq rfl) (hb hby d10_2) (fun _ _ => ⟨rfl, e0, (by decide : 0 + 1 ≤ _), (by decide : 0 + 2752 ≤ _)⟩)
  dsimp only [Pt.U, Pt.locs, Pt.cells, Pt.slots] at X_1 l_1 y_1 z_1 st_1 hQ_1
  obtain rfl : kc_1 = 1 := y_1
  obtain rfl : nc_1 = 2752 := z_1
  obtain ⟨h_1, e_1⟩ : ∃ hh, T_1.heap = hh := ⟨_, rfl⟩
  rw [e_1] at hQ_1
  obtain ⟨rfl, N_1q, K_1, p_1_0, p_1_1⟩ := hQ_1
  have N_1 : Fr n0 L_1 := by rw [l_1]; exact Fr.app N0 N_1q
  refine Go.st (fun _ kk => st_1.trans kk) ?_
  have KK_1 : Keep h0 h_1 [a] := (Keep.refl h0 [a]).trans K_1 (allS (Or.inl (List.mem_of_getElem? (i := 0) rfl)) all0)
  have z_1q : n0 ≤ h_1.size := Nat.le_trans Z0 K_1.1
  have ns_1 : ∀ x ∈ ([a] : List Addr), ∀ cell : Cell, h0[x]? = some cell → cell.vm.isStatics = false := (allS E_a.nostat all0)
  show Go p e below s _ _ _ T_1 (mkF m 5 #[.val (.ref a), .val (.int sx), .val (.ref t)] [])
  refine Go.st (fun _ => XS.aloadN X_1.here hx rfl (hb hby d10_5) rfl rfl) ?_
  show Go p e below s _ _ _ T_1 (mkF m 6 #[.val (.ref a), .val (.int sx), .val (.ref t)] [(.ref a)])
  refine Go.st (fun _ => XS.iloadN X_1.here hx rfl (hb hby d10_6) rfl) ?_
  show Go p e below s _ _ _ T_1 (mkF m 7 #[.val (.ref a), .val (.int sx), .val (.ref t)] [(.int sx), (.ref a)])
  obtain ⟨vm_2, F_2⟩ := fld_laid p_1_0 (Unt.known p_1_1) (hw _ (List.mem_of_getElem? (i := 30) rfl)) (Or.inr (hw _ (List.mem_of_getElem? (i := 107) rfl)))
  obtain ⟨T_3, h_3, X_3, e_3, W_3, st_3⟩ := putF X_1 hx hZ hown (host := "") (Or.inl (hw _ (List.mem_of_getElem? (i := 106) rfl))) Via.refl e_1 F_2 p_1_0 (Or.inr ⟨(hw _ (List.mem_of_getElem? (i := 107) rfl)), rfl, hnm⟩) (hw _ (List.mem_of_getElem? (i := 30) rfl)) (ty := .int) (by decide) rfl rfl (g := (mkF m 7 #[.val (.ref a), .val (.int sx), .val (.ref t)] [(.int sx), (.ref a)])) rfl rfl (hb hby d10_7)
  refine Go.st st_3 ?_
  have N_3 := Fr.snoc X_3 N_1 g_a
  have K_3 : Keep h0 h_3 [a] := KK_1.wr W_3 (Or.inl (List.mem_of_getElem? (i := 0) rfl))
  have z_3 : n0 ≤ h_3.size := Nat.le_trans z_1q (Nat.le_of_eq W_3.size.symm)
  have Fw_3 := F_2.same W_3
  show Go p e below s _ _ _ T_3 (mkF m 10 #[.val (.ref a), .val (.int sx), .val (.ref t)] [])
  have f_4 := (p_1_0.wr W_3)
  exact Go.ret0 X_3 hx hlk Bd.returns (hb hby d10_10) (by rw [e_3]; exact ⟨rfl, N_3, K_3, f_4⟩) (by decide) (by decide)
theorem d2_0 : decode jdk_30_method_1_code 0 = .ok (.aload_n 0, 1) := by decide +kernel
theorem d2_1 : decode jdk_30_method_1_code 1 = .ok (.invokespecial 1, 3) := by decide +kernel
theorem d2_4 : decode jdk_30_method_1_code 4 = .ok (.return_, 1) := by decide +kernel
theorem pn_3 : plainName "java/lang/Record" = true := by first | (simp [plainName, overriddenIn]; done) | decide +kernel
theorem ef_rm2 (m : MethodId) (a : Addr) : entryFrame m #[(.ref a)] 1 = mkF m 0 #[.val (.ref a)] [] := by first | (simp [entryFrame, mkF, argsToLocals, Value.category]; done) | rfl
def Qrm2 (Z : State) (a : Addr) (h0 : Heap) (n0 : Nat) (rV : Option Value) (hE : Heap) (LE : List Loc) : Prop := rV = none ∧ Fr n0 LE ∧ hE = h0
set_option maxRecDepth 65536 in
set_option maxHeartbeats 40000000 in
theorem rm2 (l : Launch) (Z : State) (a0 : Array Value) (hw : ∀ d ∈ tables_1, d.before a0 Z = true) (ws : List Jvm.Cond) (a : Addr) (h0 : Heap) (n0 : Nat) (Z0 : n0 ≤ h0.size) :
    MetFree l (⟨"java/lang/Record", "<init>", "()V"⟩ : MethodName) (head1 (Jvm.Cond.code (⟨"java/lang/Record", "<init>", "()V"⟩ : MethodName) jdk_30_method_1_code 1 none :: ws) ({ frames := 1, cells := 0, slots := 0, locals := 12 } : Room)) (fun aA UA => aA = #[(.ref a)] ∧ Z.Warmed39 UA.vm ∧ UA.heap = h0) (fun _ _ _ _ _ => True) (fun _ UA oA UB => ∃ rV LE, oA = .returned rV ∧ Qrm2 Z a h0 n0 rV UB.heap LE ∧ FrameEnd UA oA UB LE ({ frames := 1, cells := 0, slots := 0, locals := 12 } : Room).cells ({ frames := 1, cells := 0, slots := 0, locals := 12 } : Room).slots) := by
  refine MetFree.of_bodySF (plainFor_of_name pn_3) hisR ?_
  intro p e s m args below meth c s₁ Bd hml0 hP hK
  obtain ⟨rfl, hZ, hh⟩ := hP
  have hx := Bd.exec
  have hby := Bd.bytes
  have hml : c.maxLocals = 1 := hml0
  have hown : s.vm.findClass "java/lang/Record" = some m.cls := findClass_of_methodNamed Bd.named
  have hnm := (name_of_methodNamed Bd.named Bd.method).1
  have hlk := Bd.notSynchronized
  have X0 : Stand p l e ({ frames := 1, cells := 0, slots := 0, locals := 12 } : Room) s m #[(.ref a)] below meth c s₁ [] 0 0 := Stand.of_body Bd
  have e0 : s₁.heap = h0 := by rw [← hh, Bd.state]; rfl
  have N0 := Fr.nil n0
  show Go p e below s (Qrm2 Z a h0 n0) ({ frames := 1, cells := 0, slots := 0, locals := 12 } : Room).cells ({ frames := 1, cells := 0, slots := 0, locals := 12 } : Room).slots s₁ (entryFrame m #[(.ref a)] 1)
  refine Go.eq (ef_rm2 m a) ?_
  show Go p e below s _ _ _ s₁ (mkF m 0 #[.val (.ref a)] [])
  refine Go.st (fun _ => XS.aloadN X0.here hx rfl (hb hby d2_0) rfl rfl) ?_
  show Go p e below s _ _ _ s₁ (mkF m 1 #[.val (.ref a)] [(.ref a)])
  obtain ⟨T_1, X_1, e_1, st_1⟩ := initO X0 hx hZ hown (hw _ (List.mem_of_getElem? (i := 11) rfl)) (hw _ (List.mem_of_getElem? (i := 12) rfl)) (hw _ (List.mem_of_getElem? (i := 13) rfl)) e0 (g := (mkF m 1 #[.val (.ref a)] [(.ref a)])) rfl (by rw [hml]; rfl) rfl (hb hby d2_1) (by decide) (W := 0) (by show 2 * 0 + _ ≤ _; exact Nat.le_of_eq rfl) (by decide)
  refine Go.st st_1 ?_
  show Go p e below s _ _ _ T_1 (mkF m 4 #[.val (.ref a)] [])
  exact Go.ret0 X_1 hx hlk Bd.returns (hb hby d2_4) (by rw [e_1]; exact ⟨rfl, N0, rfl⟩) (by decide) (by decide)
theorem d1_0 : decode prog_36_method_1_code 0 = .ok (.aload_n 0, 1) := by decide +kernel
theorem d1_1 : decode prog_36_method_1_code 1 = .ok (.invokespecial 1, 3) := by decide +kernel
theorem pd_1 : parseMethodDescriptor "()V" = some ⟨[], none⟩ := by decide +kernel
theorem d1_4 : decode prog_36_method_1_code 4 = .ok (.aload_n 0, 1) := by decide +kernel
theorem d1_5 : decode prog_36_method_1_code 5 = .ok (.aload_n 1, 1) := by decide +kernel
theorem d1_6 : decode prog_36_method_1_code 6 = .ok (.putfield 7, 3) := by decide +kernel
theorem d1_9 : decode prog_36_method_1_code 9 = .ok (.aload_n 0, 1) := by decide +kernel
theorem d1_10 : decode prog_36_method_1_code 10 = .ok (.aload_n 2, 1) := by decide +kernel
theorem d1_11 : decode prog_36_method_1_code 11 = .ok (.putfield 13, 3) := by decide +kernel
theorem d1_14 : decode prog_36_method_1_code 14 = .ok (.return_, 1) := by decide +kernel
theorem pn_4 : plainName "com/example/plaingrant/plaingrant/server/http/Request$Body" = true := by first | (simp [plainName, overriddenIn]; done) | decide +kernel
theorem ef_rmInn (m : MethodId) (a : Addr) : entryFrame m #[(.ref a), .null, .null] 3 = mkF m 0 #[.val (.ref a), .val .null, .val .null] [] := by first | (simp [entryFrame, mkF, argsToLocals, Value.category]; done) | rfl
def QrmInn (Z : State) (a : Addr) (h0 : Heap) (n0 : Nat) (rV : Option Value) (hE : Heap) (LE : List Loc) : Prop := rV = none ∧ Fr n0 LE ∧ Keep h0 hE [a] ∧ Exa Z hE a "com/example/plaingrant/plaingrant/server/http/Request$Body" ∧ Fld Z hE a "com/example/plaingrant/plaingrant/server/http/Request$Body" "bytes" "[B" .null ∧ Fld Z hE a "com/example/plaingrant/plaingrant/server/http/Request$Body" "refusal" "Lcom/example/plaingrant/plaingrant/server/http/ApiException;" .null
set_option maxRecDepth 65536 in
set_option maxHeartbeats 40000000 in
theorem rmInn (l : Launch) (Z : State) (a0 : Array Value) (hw : ∀ d ∈ tables_1, d.before a0 Z = true) (ws : List Jvm.Cond) (a : Addr) (h0 : Heap) (n0 : Nat) (Z0 : n0 ≤ h0.size) (E_a : Exa Z h0 a "com/example/plaingrant/plaingrant/server/http/Request$Body") (F_bytes_a : Fld Z h0 a "com/example/plaingrant/plaingrant/server/http/Request$Body" "bytes" "[B" .null) (F_refusal_a : Fld Z h0 a "com/example/plaingrant/plaingrant/server/http/Request$Body" "refusal" "Lcom/example/plaingrant/plaingrant/server/http/ApiException;" .null) (g_a : n0 ≤ a) :
    MetFree l (⟨"com/example/plaingrant/plaingrant/server/http/Request$Body", "<init>", "([BLcom/example/plaingrant/plaingrant/server/http/ApiException;)V"⟩ : MethodName) (head1 (Jvm.Cond.code (⟨"com/example/plaingrant/plaingrant/server/http/Request$Body", "<init>", "([BLcom/example/plaingrant/plaingrant/server/http/ApiException;)V"⟩ : MethodName) prog_36_method_1_code 3 none :: ws) ({ frames := 2, cells := 0, slots := 0, locals := 24 } : Room)) (fun aA UA => aA = #[(.ref a), .null, .null] ∧ Z.Warmed39 UA.vm ∧ UA.heap = h0) (fun _ _ _ _ _ => True) (fun _ UA oA UB => ∃ rV LE, oA = .returned rV ∧ QrmInn Z a h0 n0 rV UB.heap LE ∧ FrameEnd UA oA UB LE ({ frames := 2, cells := 0, slots := 0, locals := 24 } : Room).cells ({ frames := 2, cells := 0, slots := 0, locals := 24 } : Room).slots) := by
  refine MetFree.of_bodySF (plainFor_of_name pn_4) hisR ?_
  intro p e s m args below meth c s₁ Bd hml0 hP hK
  obtain ⟨rfl, hZ, hh⟩ := hP
  have hx := Bd.exec
  have hby := Bd.bytes
  have hml : c.maxLocals = 3 := hml0
  have hown : s.vm.findClass "com/example/plaingrant/plaingrant/server/http/Request$Body" = some m.cls := findClass_of_methodNamed Bd.named
  have hnm := (name_of_methodNamed Bd.named Bd.method).1
  have hlk := Bd.notSynchronized
  have X0 : Stand p l e ({ frames := 2, cells := 0, slots := 0, locals := 24 } : Room) s m #[(.ref a), .null, .null] below meth c s₁ [] 0 0 := Stand.of_body Bd
  have e0 : s₁.heap = h0 := by rw [← hh, Bd.state]; rfl
  have N0 := Fr.nil n0
  show Go p e below s (QrmInn Z a h0 n0) ({ frames := 2, cells := 0, slots := 0, locals := 24 } : Room).cells ({ frames := 2, cells := 0, slots := 0, locals := 24 } : Room).slots s₁ (entryFrame m #[(.ref a), .null, .null] 3)
  refine Go.eq (ef_rmInn m a) ?_
  show Go p e below s _ _ _ s₁ (mkF m 0 #[.val (.ref a), .val .null, .val .null] [])
  refine Go.st (fun _ => XS.aloadN X0.here hx rfl (hb hby d1_0) rfl rfl) ?_
  show Go p e below s _ _ _ s₁ (mkF m 1 #[.val (.ref a), .val .null, .val .null] [(.ref a)])
  obtain ⟨_, _, ⟨T_1, L_1, kc_1, nc_1⟩, -, X_1, ⟨Lc_1, hQ_1, l_1, y_1, z_1⟩, st_1⟩ := X0.specialBack hx (y := (⟨"java/lang/Record", "<init>", "()V"⟩ : MethodName)) rfl hown (mvT hZ (hw _ (List.mem_of_getElem? (i := 6) rfl))) (mvT hZ (hw _ (List.mem_of_getElem? (i := 7) rfl))) (mvT hZ (hw _ (List.mem_of_getElem? (i := 10) rfl))) (by decide) (backOf (W := 0) (rm2 l Z a0 hw [] a h0 n0 Z0 ) hZ (hw _ (List.mem_of_getElem? (i := 10) rfl)) (hw _ (List.mem_of_getElem? (i := 9) rfl)) (by decide) (by decide)) (g := (mkF m 1 #[.val (.ref a), .val .null, .val .null] [(.ref a)])) rfl (by rw [hml]; rfl) (Steps.refl _) (a := a) (argsL := []) (rest := []) (lenOf pd_1 rfl) rfl (by show 2 * 0 + _ ≤ _; exact Nat.le_of_eq rfl) (hb hby d1_1) (fun _ _ => ⟨rfl, e0, (by decide : 0 + 0 ≤ _), (by decide : 0 + 0 ≤ _)⟩)
  dsimp only [Pt.U, Pt.locs, Pt.cells, Pt.slots] at X_1 l_1 y_1 z_1 st_1 hQ_1
  obtain rfl : kc_1 = 0 := y_1
  obtain rfl : nc_1 = 0 := z_1
  obtain ⟨h_1, e_1⟩ : ∃ hh, T_1.heap = hh := ⟨_, rfl⟩
  rw [e_1] at hQ_1
  obtain ⟨rfl, N_1q, sm_1⟩ := hQ_1
  have N_1 : Fr n0 L_1 := by rw [l_1]; exact Fr.app N0 N_1q
  refine Go.st (fun _ kk => st_1.trans kk) ?_
  rw [sm_1] at e_1
  show Go p e below s _ _ _ T_1 (mkF m 4 #[.val (.ref a), .val .null, .val .null] [])
  refine Go.st (fun _ => XS.aloadN X_1.here hx rfl (hb hby d1_4) rfl rfl) ?_
  show Go p e below s _ _ _ T_1 (mkF m 5 #[.val (.ref a), .val .null, .val .null] [(.ref a)])
  refine Go.st (fun _ => XS.aloadN X_1.here hx rfl (hb hby d1_5) rfl rfl) ?_
  show Go p e below s _ _ _ T_1 (mkF m 6 #[.val (.ref a), .val .null, .val .null] [.null, (.ref a)])
  obtain ⟨T_2, h_2, X_2, e_2, W_2, st_2⟩ := putF X_1 hx hZ hown (host := "") (Or.inl (hw _ (List.mem_of_getElem? (i := 14) rfl))) Via.refl e_1 F_bytes_a E_a (Or.inr ⟨(hw _ (List.mem_of_getElem? (i := 15) rfl)), rfl, hnm⟩) (hw _ (List.mem_of_getElem? (i := 1) rfl)) (ty := (.array .byte)) (by decide) rfl rfl (g := (mkF m 6 #[.val (.ref a), .val .null, .val .null] [.null, (.ref a)])) rfl rfl (hb hby d1_6)
  refine Go.st st_2 ?_
  have N_2 := Fr.snoc X_2 N_1 g_a
  have K_2 : Keep h0 h_2 [a] := (Keep.refl h0 [a]).wr W_2 (Or.inl (List.mem_of_getElem? (i := 0) rfl))
  have z_2 : n0 ≤ h_2.size := Nat.le_trans Z0 (Nat.le_of_eq W_2.size.symm)
  have Fw_2 := F_bytes_a.same W_2
  show Go p e below s _ _ _ T_2 (mkF m 9 #[.val (.ref a), .val .null, .val .null] [])
  refine Go.st (fun _ => XS.aloadN X_2.here hx rfl (hb hby d1_9) rfl rfl) ?_
  show Go p e below s _ _ _ T_2 (mkF m 10 #[.val (.ref a), .val .null, .val .null] [(.ref a)])
  refine Go.st (fun _ => XS.aloadN X_2.here hx rfl (hb hby d1_10) rfl rfl) ?_
  show Go p e below s _ _ _ T_2 (mkF m 11 #[.val (.ref a), .val .null, .val .null] [.null, (.ref a)])
  have f_3 := (E_a.wr W_2)
  have f_4 := (F_refusal_a.other W_2 (Or.inr (slot_ne (Or.inr (hw _ (List.mem_of_getElem? (i := 17) rfl))) (Or.inr (hw _ (List.mem_of_getElem? (i := 15) rfl))) (by decide) (t := (.object "com/example/plaingrant/plaingrant/server/http/ApiException")) (t' := (.array .byte)) (by decide) (by decide))))
  obtain ⟨T_5, h_5, X_5, e_5, W_5, st_5⟩ := putF X_2 hx hZ hown (host := "") (Or.inl (hw _ (List.mem_of_getElem? (i := 16) rfl))) Via.refl e_2 f_4 f_3 (Or.inr ⟨(hw _ (List.mem_of_getElem? (i := 17) rfl)), rfl, hnm⟩) (hw _ (List.mem_of_getElem? (i := 1) rfl)) (ty := (.object "com/example/plaingrant/plaingrant/server/http/ApiException")) (by decide) rfl rfl (g := (mkF m 11 #[.val (.ref a), .val .null, .val .null] [.null, (.ref a)])) rfl rfl (hb hby d1_11)
  refine Go.st st_5 ?_
  have N_5 := Fr.snoc X_5 N_2 g_a
  have K_5 : Keep h0 h_5 [a] := K_2.wr W_5 (Or.inl (List.mem_of_getElem? (i := 0) rfl))
  have z_5 : n0 ≤ h_5.size := Nat.le_trans z_2 (Nat.le_of_eq W_5.size.symm)
  have Fw_5 := f_4.same W_5
  show Go p e below s _ _ _ T_5 (mkF m 14 #[.val (.ref a), .val .null, .val .null] [])
  have f_6 := (f_3.wr W_5)
  have f_7 := (Fw_2.other W_5 (Or.inr (slot_ne (Or.inr (hw _ (List.mem_of_getElem? (i := 15) rfl))) (Or.inr (hw _ (List.mem_of_getElem? (i := 17) rfl))) (by decide) (t := (.array .byte)) (t' := (.object "com/example/plaingrant/plaingrant/server/http/ApiException")) (by decide) (by decide))))
  exact Go.ret0 X_5 hx hlk Bd.returns (hb hby d1_14) (by rw [e_5]; exact ⟨rfl, N_5, K_5, f_6, f_7, Fw_5⟩) (by decide) (by decide)
theorem ef_rmInr (m : MethodId) (a : Addr) (r : Addr) : entryFrame m #[(.ref a), .null, (.ref r)] 3 = mkF m 0 #[.val (.ref a), .val .null, .val (.ref r)] [] := by first | (simp [entryFrame, mkF, argsToLocals, Value.category]; done) | rfl
def QrmInr (Z : State) (a : Addr) (r : Addr) (h0 : Heap) (n0 : Nat) (rV : Option Value) (hE : Heap) (LE : List Loc) : Prop := rV = none ∧ Fr n0 LE ∧ Keep h0 hE [a] ∧ Exa Z hE a "com/example/plaingrant/plaingrant/server/http/Request$Body" ∧ Fld Z hE a "com/example/plaingrant/plaingrant/server/http/Request$Body" "bytes" "[B" .null ∧ Fld Z hE a "com/example/plaingrant/plaingrant/server/http/Request$Body" "refusal" "Lcom/example/plaingrant/plaingrant/server/http/ApiException;" (.ref r)
set_option maxRecDepth 65536 in
set_option maxHeartbeats 40000000 in
theorem rmInr (l : Launch) (Z : State) (a0 : Array Value) (hw : ∀ d ∈ tables_1, d.before a0 Z = true) (ws : List Jvm.Cond) (a : Addr) (r : Addr) (h0 : Heap) (n0 : Nat) (Z0 : n0 ≤ h0.size) (E_a : Exa Z h0 a "com/example/plaingrant/plaingrant/server/http/Request$Body") (F_bytes_a : Fld Z h0 a "com/example/plaingrant/plaingrant/server/http/Request$Body" "bytes" "[B" .null) (F_refusal_a : Fld Z h0 a "com/example/plaingrant/plaingrant/server/http/Request$Body" "refusal" "Lcom/example/plaingrant/plaingrant/server/http/ApiException;" .null) (g_a : n0 ≤ a) :
    MetFree l (⟨"com/example/plaingrant/plaingrant/server/http/Request$Body", "<init>", "([BLcom/example/plaingrant/plaingrant/server/http/ApiException;)V"⟩ : MethodName) (head1 (Jvm.Cond.code (⟨"com/example/plaingrant/plaingrant/server/http/Request$Body", "<init>", "([BLcom/example/plaingrant/plaingrant/server/http/ApiException;)V"⟩ : MethodName) prog_36_method_1_code 3 none :: ws) ({ frames := 2, cells := 0, slots := 0, locals := 24 } : Room)) (fun aA UA => aA = #[(.ref a), .null, (.ref r)] ∧ Z.Warmed39 UA.vm ∧ UA.heap = h0) (fun _ _ _ _ _ => True) (fun _ UA oA UB => ∃ rV LE, oA = .returned rV ∧ QrmInr Z a r h0 n0 rV UB.heap LE ∧ FrameEnd UA oA UB LE ({ frames := 2, cells := 0, slots := 0, locals := 24 } : Room).cells ({ frames := 2, cells := 0, slots := 0, locals := 24 } : Room).slots) := by
  refine MetFree.of_bodySF (plainFor_of_name pn_4) hisR ?_
  intro p e s m args below meth c s₁ Bd hml0 hP hK
  obtain ⟨rfl, hZ, hh⟩ := hP
  have hx := Bd.exec
  have hby := Bd.bytes
  have hml : c.maxLocals = 3 := hml0
  have hown : s.vm.findClass "com/example/plaingrant/plaingrant/server/http/Request$Body" = some m.cls := findClass_of_methodNamed Bd.named
  have hnm := (name_of_methodNamed Bd.named Bd.method).1
  have hlk := Bd.notSynchronized
  have X0 : Stand p l e ({ frames := 2, cells := 0, slots := 0, locals := 24 } : Room) s m #[(.ref a), .null, (.ref r)] below meth c s₁ [] 0 0 := Stand.of_body Bd
  have e0 : s₁.heap = h0 := by rw [← hh, Bd.state]; rfl
  have N0 := Fr.nil n0
  show Go p e below s (QrmInr Z a r h0 n0) ({ frames := 2, cells := 0, slots := 0, locals := 24 } : Room).cells ({ frames := 2, cells := 0, slots := 0, locals := 24 } : Room).slots s₁ (entryFrame m #[(.ref a), .null, (.ref r)] 3)
  refine Go.eq (ef_rmInr m a r) ?_
  show Go p e below s _ _ _ s₁ (mkF m 0 #[.val (.ref a), .val .null, .val (.ref r)] [])
  refine Go.st (fun _ => XS.aloadN X0.here hx rfl (hb hby d1_0) rfl rfl) ?_
  show Go p e below s _ _ _ s₁ (mkF m 1 #[.val (.ref a), .val .null, .val (.ref r)] [(.ref a)])
  obtain ⟨_, _, ⟨T_1, L_1, kc_1, nc_1⟩, -, X_1, ⟨Lc_1, hQ_1, l_1, y_1, z_1⟩, st_1⟩ := X0.specialBack hx (y := (⟨"java/lang/Record", "<init>", "()V"⟩ : MethodName)) rfl hown (mvT hZ (hw _ (List.mem_of_getElem? (i := 6) rfl))) (mvT hZ (hw _ (List.mem_of_getElem? (i := 7) rfl))) (mvT hZ (hw _ (List.mem_of_getElem? (i := 10) rfl))) (by decide) (backOf (W := 0) (rm2 l Z a0 hw [] a h0 n0 Z0 ) hZ (hw _ (List.mem_of_getElem? (i := 10) rfl)) (hw _ (List.mem_of_getElem? (i := 9) rfl)) (by decide) (by decide)) (g := (mkF m 1 #[.val (.ref a), .val .null, .val (.ref r)] [(.ref a)])) rfl (by rw [hml]; rfl) (Steps.refl _) (a := a) (argsL := []) (rest := []) (lenOf pd_1 rfl) rfl (by show 2 * 0 + _ ≤ _; exact Nat.le_of_eq rfl) (hb hby d1_1) (fun _ _ => ⟨rfl, e0, (by decide : 0 + 0 ≤ _), (by decide : 0 + 0 ≤ _)⟩)
  dsimp only [Pt.U, Pt.locs, Pt.cells, Pt.slots] at X_1 l_1 y_1 z_1 st_1 hQ_1
  obtain rfl : kc_1 = 0 := y_1
  obtain rfl : nc_1 = 0 := z_1
  obtain ⟨h_1, e_1⟩ : ∃ hh, T_1.heap = hh := ⟨_, rfl⟩
  rw [e_1] at hQ_1
  obtain ⟨rfl, N_1q, sm_1⟩ := hQ_1
  have N_1 : Fr n0 L_1 := by rw [l_1]; exact Fr.app N0 N_1q
  refine Go.st (fun _ kk => st_1.trans kk) ?_
  rw [sm_1] at e_1
  show Go p e below s _ _ _ T_1 (mkF m 4 #[.val (.ref a), .val .null, .val (.ref r)] [])
  refine Go.st (fun _ => XS.aloadN X_1.here hx rfl (hb hby d1_4) rfl rfl) ?_
  show Go p e below s _ _ _ T_1 (mkF m 5 #[.val (.ref a), .val .null, .val (.ref r)] [(.ref a)])
  refine Go.st (fun _ => XS.aloadN X_1.here hx rfl (hb hby d1_5) rfl rfl) ?_
  show Go p e below s _ _ _ T_1 (mkF m 6 #[.val (.ref a), .val .null, .val (.ref r)] [.null, (.ref a)])
  obtain ⟨T_2, h_2, X_2, e_2, W_2, st_2⟩ := putF X_1 hx hZ hown (host := "") (Or.inl (hw _ (List.mem_of_getElem? (i := 14) rfl))) Via.refl e_1 F_bytes_a E_a (Or.inr ⟨(hw _ (List.mem_of_getElem? (i := 15) rfl)), rfl, hnm⟩) (hw _ (List.mem_of_getElem? (i := 1) rfl)) (ty := (.array .byte)) (by decide) rfl rfl (g := (mkF m 6 #[.val (.ref a), .val .null, .val (.ref r)] [.null, (.ref a)])) rfl rfl (hb hby d1_6)
  refine Go.st st_2 ?_
  have N_2 := Fr.snoc X_2 N_1 g_a
  have K_2 : Keep h0 h_2 [a] := (Keep.refl h0 [a]).wr W_2 (Or.inl (List.mem_of_getElem? (i := 0) rfl))
  have z_2 : n0 ≤ h_2.size := Nat.le_trans Z0 (Nat.le_of_eq W_2.size.symm)
  have Fw_2 := F_bytes_a.same W_2
  show Go p e below s _ _ _ T_2 (mkF m 9 #[.val (.ref a), .val .null, .val (.ref r)] [])
  refine Go.st (fun _ => XS.aloadN X_2.here hx rfl (hb hby d1_9) rfl rfl) ?_
  show Go p e below s _ _ _ T_2 (mkF m 10 #[.val (.ref a), .val .null, .val (.ref r)] [(.ref a)])
  refine Go.st (fun _ => XS.aloadN X_2.here hx rfl (hb hby d1_10) rfl rfl) ?_
  show Go p e below s _ _ _ T_2 (mkF m 11 #[.val (.ref a), .val .null, .val (.ref r)] [(.ref r), (.ref a)])
  have f_3 := (E_a.wr W_2)
  have f_4 := (F_refusal_a.other W_2 (Or.inr (slot_ne (Or.inr (hw _ (List.mem_of_getElem? (i := 17) rfl))) (Or.inr (hw _ (List.mem_of_getElem? (i := 15) rfl))) (by decide) (t := (.object "com/example/plaingrant/plaingrant/server/http/ApiException")) (t' := (.array .byte)) (by decide) (by decide))))
  obtain ⟨T_5, h_5, X_5, e_5, W_5, st_5⟩ := putF X_2 hx hZ hown (host := "") (Or.inl (hw _ (List.mem_of_getElem? (i := 16) rfl))) Via.refl e_2 f_4 f_3 (Or.inr ⟨(hw _ (List.mem_of_getElem? (i := 17) rfl)), rfl, hnm⟩) (hw _ (List.mem_of_getElem? (i := 1) rfl)) (ty := (.object "com/example/plaingrant/plaingrant/server/http/ApiException")) (by decide) rfl rfl (g := (mkF m 11 #[.val (.ref a), .val .null, .val (.ref r)] [(.ref r), (.ref a)])) rfl rfl (hb hby d1_11)
  refine Go.st st_5 ?_
  have N_5 := Fr.snoc X_5 N_2 g_a
  have K_5 : Keep h0 h_5 [a] := K_2.wr W_5 (Or.inl (List.mem_of_getElem? (i := 0) rfl))
  have z_5 : n0 ≤ h_5.size := Nat.le_trans z_2 (Nat.le_of_eq W_5.size.symm)
  have Fw_5 := f_4.same W_5
  show Go p e below s _ _ _ T_5 (mkF m 14 #[.val (.ref a), .val .null, .val (.ref r)] [])
  have f_6 := (f_3.wr W_5)
  have f_7 := (Fw_2.other W_5 (Or.inr (slot_ne (Or.inr (hw _ (List.mem_of_getElem? (i := 15) rfl))) (Or.inr (hw _ (List.mem_of_getElem? (i := 17) rfl))) (by decide) (t := (.array .byte)) (t' := (.object "com/example/plaingrant/plaingrant/server/http/ApiException")) (by decide) (by decide))))
  exact Go.ret0 X_5 hx hlk Bd.returns (hb hby d1_14) (by rw [e_5]; exact ⟨rfl, N_5, K_5, f_6, f_7, Fw_5⟩) (by decide) (by decide)
theorem ef_rmIrn (m : MethodId) (a : Addr) (t : Addr) : entryFrame m #[(.ref a), (.ref t), .null] 3 = mkF m 0 #[.val (.ref a), .val (.ref t), .val .null] [] := by first | (simp [entryFrame, mkF, argsToLocals, Value.category]; done) | rfl
def QrmIrn (Z : State) (a : Addr) (t : Addr) (h0 : Heap) (n0 : Nat) (rV : Option Value) (hE : Heap) (LE : List Loc) : Prop := rV = none ∧ Fr n0 LE ∧ Keep h0 hE [a] ∧ Exa Z hE a "com/example/plaingrant/plaingrant/server/http/Request$Body" ∧ Fld Z hE a "com/example/plaingrant/plaingrant/server/http/Request$Body" "bytes" "[B" (.ref t) ∧ Fld Z hE a "com/example/plaingrant/plaingrant/server/http/Request$Body" "refusal" "Lcom/example/plaingrant/plaingrant/server/http/ApiException;" .null
set_option maxRecDepth 65536 in
set_option maxHeartbeats 40000000 in
theorem rmIrn (l : Launch) (Z : State) (a0 : Array Value) (hw : ∀ d ∈ tables_1, d.before a0 Z = true) (ws : List Jvm.Cond) (a : Addr) (t : Addr) (h0 : Heap) (n0 : Nat) (Z0 : n0 ≤ h0.size) (E_a : Exa Z h0 a "com/example/plaingrant/plaingrant/server/http/Request$Body") (F_bytes_a : Fld Z h0 a "com/example/plaingrant/plaingrant/server/http/Request$Body" "bytes" "[B" .null) (F_refusal_a : Fld Z h0 a "com/example/plaingrant/plaingrant/server/http/Request$Body" "refusal" "Lcom/example/plaingrant/plaingrant/server/http/ApiException;" .null) (g_a : n0 ≤ a) :
    MetFree l (⟨"com/example/plaingrant/plaingrant/server/http/Request$Body", "<init>", "([BLcom/example/plaingrant/plaingrant/server/http/ApiException;)V"⟩ : MethodName) (head1 (Jvm.Cond.code (⟨"com/example/plaingrant/plaingrant/server/http/Request$Body", "<init>", "([BLcom/example/plaingrant/plaingrant/server/http/ApiException;)V"⟩ : MethodName) prog_36_method_1_code 3 none :: ws) ({ frames := 2, cells := 0, slots := 0, locals := 24 } : Room)) (fun aA UA => aA = #[(.ref a), (.ref t), .null] ∧ Z.Warmed39 UA.vm ∧ UA.heap = h0) (fun _ _ _ _ _ => True) (fun _ UA oA UB => ∃ rV LE, oA = .returned rV ∧ QrmIrn Z a t h0 n0 rV UB.heap LE ∧ FrameEnd UA oA UB LE ({ frames := 2, cells := 0, slots := 0, locals := 24 } : Room).cells ({ frames := 2, cells := 0, slots := 0, locals := 24 } : Room).slots) := by
  refine MetFree.of_bodySF (plainFor_of_name pn_4) hisR ?_
  intro p e s m args below meth c s₁ Bd hml0 hP hK
  obtain ⟨rfl, hZ, hh⟩ := hP
  have hx := Bd.exec
  have hby := Bd.bytes
  have hml : c.maxLocals = 3 := hml0
  have hown : s.vm.findClass "com/example/plaingrant/plaingrant/server/http/Request$Body" = some m.cls := findClass_of_methodNamed Bd.named
  have hnm := (name_of_methodNamed Bd.named Bd.method).1
  have hlk := Bd.notSynchronized
  have X0 : Stand p l e ({ frames := 2, cells := 0, slots := 0, locals := 24 } : Room) s m #[(.ref a), (.ref t), .null] below meth c s₁ [] 0 0 := Stand.of_body Bd
  have e0 : s₁.heap = h0 := by rw [← hh, Bd.state]; rfl
  have N0 := Fr.nil n0
  show Go p e below s (QrmIrn Z a t h0 n0) ({ frames := 2, cells := 0, slots := 0, locals := 24 } : Room).cells ({ frames := 2, cells := 0, slots := 0, locals := 24 } : Room).slots s₁ (entryFrame m #[(.ref a), (.ref t), .null] 3)
  refine Go.eq (ef_rmIrn m a t) ?_
  show Go p e below s _ _ _ s₁ (mkF m 0 #[.val (.ref a), .val (.ref t), .val .null] [])
  refine Go.st (fun _ => XS.aloadN X0.here hx rfl (hb hby d1_0) rfl rfl) ?_
  show Go p e below s _ _ _ s₁ (mkF m 1 #[.val (.ref a), .val (.ref t), .val .null] [(.ref a)])
  obtain ⟨_, _, ⟨T_1, L_1, kc_1, nc_1⟩, -, X_1, ⟨Lc_1, hQ_1, l_1, y_1, z_1⟩, st_1⟩ := X0.specialBack hx (y := (⟨"java/lang/Record", "<init>", "()V"⟩ : MethodName)) rfl hown (mvT hZ (hw _ (List.mem_of_getElem? (i := 6) rfl))) (mvT hZ (hw _ (List.mem_of_getElem? (i := 7) rfl))) (mvT hZ (hw _ (List.mem_of_getElem? (i := 10) rfl))) (by decide) (backOf (W := 0) (rm2 l Z a0 hw [] a h0 n0 Z0 ) hZ (hw _ (List.mem_of_getElem? (i := 10) rfl)) (hw _ (List.mem_of_getElem? (i := 9) rfl)) (by decide) (by decide)) (g := (mkF m 1 #[.val (.ref a), .val (.ref t), .val .null] [(.ref a)])) rfl (by rw [hml]; rfl) (Steps.refl _) (a := a) (argsL := []) (rest := []) (lenOf pd_1 rfl) rfl (by show 2 * 0 + _ ≤ _; exact Nat.le_of_eq rfl) (hb hby d1_1) (fun _ _ => ⟨rfl, e0, (by decide : 0 + 0 ≤ _), (by decide : 0 + 0 ≤ _)⟩)
  dsimp only [Pt.U, Pt.locs, Pt.cells, Pt.slots] at X_1 l_1 y_1 z_1 st_1 hQ_1
  obtain rfl : kc_1 = 0 := y_1
  obtain rfl : nc_1 = 0 := z_1
  obtain ⟨h_1, e_1⟩ : ∃ hh, T_1.heap = hh := ⟨_, rfl⟩
  rw [e_1] at hQ_1
  obtain ⟨rfl, N_1q, sm_1⟩ := hQ_1
  have N_1 : Fr n0 L_1 := by rw [l_1]; exact Fr.app N0 N_1q
  refine Go.st (fun _ kk => st_1.trans kk) ?_
  rw [sm_1] at e_1
  show Go p e below s _ _ _ T_1 (mkF m 4 #[.val (.ref a), .val (.ref t), .val .null] [])
  refine Go.st (fun _ => XS.aloadN X_1.here hx rfl (hb hby d1_4) rfl rfl) ?_
  show Go p e below s _ _ _ T_1 (mkF m 5 #[.val (.ref a), .val (.ref t), .val .null] [(.ref a)])
  refine Go.st (fun _ => XS.aloadN X_1.here hx rfl (hb hby d1_5) rfl rfl) ?_
  show Go p e below s _ _ _ T_1 (mkF m 6 #[.val (.ref a), .val (.ref t), .val .null] [(.ref t), (.ref a)])
  obtain ⟨T_2, h_2, X_2, e_2, W_2, st_2⟩ := putF X_1 hx hZ hown (host := "") (Or.inl (hw _ (List.mem_of_getElem? (i := 14) rfl))) Via.refl e_1 F_bytes_a E_a (Or.inr ⟨(hw _ (List.mem_of_getElem? (i := 15) rfl)), rfl, hnm⟩) (hw _ (List.mem_of_getElem? (i := 1) rfl)) (ty := (.array .byte)) (by decide) rfl rfl (g := (mkF m 6 #[.val (.ref a), .val (.ref t), .val .null] [(.ref t), (.ref a)])) rfl rfl (hb hby d1_6)
  refine Go.st st_2 ?_
  have N_2 := Fr.snoc X_2 N_1 g_a
  have K_2 : Keep h0 h_2 [a] := (Keep.refl h0 [a]).wr W_2 (Or.inl (List.mem_of_getElem? (i := 0) rfl))
  have z_2 : n0 ≤ h_2.size := Nat.le_trans Z0 (Nat.le_of_eq W_2.size.symm)
  have Fw_2 := F_bytes_a.same W_2
  show Go p e below s _ _ _ T_2 (mkF m 9 #[.val (.ref a), .val (.ref t), .val .null] [])
  refine Go.st (fun _ => XS.aloadN X_2.here hx rfl (hb hby d1_9) rfl rfl) ?_
  show Go p e below s _ _ _ T_2 (mkF m 10 #[.val (.ref a), .val (.ref t), .val .null] [(.ref a)])
  refine Go.st (fun _ => XS.aloadN X_2.here hx rfl (hb hby d1_10) rfl rfl) ?_
  show Go p e below s _ _ _ T_2 (mkF m 11 #[.val (.ref a), .val (.ref t), .val .null] [.null, (.ref a)])
  have f_3 := (E_a.wr W_2)
  have f_4 := (F_refusal_a.other W_2 (Or.inr (slot_ne (Or.inr (hw _ (List.mem_of_getElem? (i := 17) rfl))) (Or.inr (hw _ (List.mem_of_getElem? (i := 15) rfl))) (by decide) (t := (.object "com/example/plaingrant/plaingrant/server/http/ApiException")) (t' := (.array .byte)) (by decide) (by decide))))
  obtain ⟨T_5, h_5, X_5, e_5, W_5, st_5⟩ := putF X_2 hx hZ hown (host := "") (Or.inl (hw _ (List.mem_of_getElem? (i := 16) rfl))) Via.refl e_2 f_4 f_3 (Or.inr ⟨(hw _ (List.mem_of_getElem? (i := 17) rfl)), rfl, hnm⟩) (hw _ (List.mem_of_getElem? (i := 1) rfl)) (ty := (.object "com/example/plaingrant/plaingrant/server/http/ApiException")) (by decide) rfl rfl (g := (mkF m 11 #[.val (.ref a), .val (.ref t), .val .null] [.null, (.ref a)])) rfl rfl (hb hby d1_11)
  refine Go.st st_5 ?_
  have N_5 := Fr.snoc X_5 N_2 g_a
  have K_5 : Keep h0 h_5 [a] := K_2.wr W_5 (Or.inl (List.mem_of_getElem? (i := 0) rfl))
  have z_5 : n0 ≤ h_5.size := Nat.le_trans z_2 (Nat.le_of_eq W_5.size.symm)
  have Fw_5 := f_4.same W_5
  show Go p e below s _ _ _ T_5 (mkF m 14 #[.val (.ref a), .val (.ref t), .val .null] [])
  have f_6 := (f_3.wr W_5)
  have f_7 := (Fw_2.other W_5 (Or.inr (slot_ne (Or.inr (hw _ (List.mem_of_getElem? (i := 15) rfl))) (Or.inr (hw _ (List.mem_of_getElem? (i := 17) rfl))) (by decide) (t := (.array .byte)) (t' := (.object "com/example/plaingrant/plaingrant/server/http/ApiException")) (by decide) (by decide))))
  exact Go.ret0 X_5 hx hlk Bd.returns (hb hby d1_14) (by rw [e_5]; exact ⟨rfl, N_5, K_5, f_6, f_7, Fw_5⟩) (by decide) (by decide)
theorem ef_rmIrr (m : MethodId) (a : Addr) (t : Addr) (r : Addr) : entryFrame m #[(.ref a), (.ref t), (.ref r)] 3 = mkF m 0 #[.val (.ref a), .val (.ref t), .val (.ref r)] [] := by first | (simp [entryFrame, mkF, argsToLocals, Value.category]; done) | rfl
def QrmIrr (Z : State) (a : Addr) (t : Addr) (r : Addr) (h0 : Heap) (n0 : Nat) (rV : Option Value) (hE : Heap) (LE : List Loc) : Prop := rV = none ∧ Fr n0 LE ∧ Keep h0 hE [a] ∧ Exa Z hE a "com/example/plaingrant/plaingrant/server/http/Request$Body" ∧ Fld Z hE a "com/example/plaingrant/plaingrant/server/http/Request$Body" "bytes" "[B" (.ref t) ∧ Fld Z hE a "com/example/plaingrant/plaingrant/server/http/Request$Body" "refusal" "Lcom/example/plaingrant/plaingrant/server/http/ApiException;" (.ref r)
set_option maxRecDepth 65536 in
set_option maxHeartbeats 40000000 in
theorem rmIrr (l : Launch) (Z : State) (a0 : Array Value) (hw : ∀ d ∈ tables_1, d.before a0 Z = true) (ws : List Jvm.Cond) (a : Addr) (t : Addr) (r : Addr) (h0 : Heap) (n0 : Nat) (Z0 : n0 ≤ h0.size) (E_a : Exa Z h0 a "com/example/plaingrant/plaingrant/server/http/Request$Body") (F_bytes_a : Fld Z h0 a "com/example/plaingrant/plaingrant/server/http/Request$Body" "bytes" "[B" .null) (F_refusal_a : Fld Z h0 a "com/example/plaingrant/plaingrant/server/http/Request$Body" "refusal" "Lcom/example/plaingrant/plaingrant/server/http/ApiException;" .null) (g_a : n0 ≤ a) :
    MetFree l (⟨"com/example/plaingrant/plaingrant/server/http/Request$Body", "<init>", "([BLcom/example/plaingrant/plaingrant/server/http/ApiException;)V"⟩ : MethodName) (head1 (Jvm.Cond.code (⟨"com/example/plaingrant/plaingrant/server/http/Request$Body", "<init>", "([BLcom/example/plaingrant/plaingrant/server/http/ApiException;)V"⟩ : MethodName) prog_36_method_1_code 3 none :: ws) ({ frames := 2, cells := 0, slots := 0, locals := 24 } : Room)) (fun aA UA => aA = #[(.ref a), (.ref t), (.ref r)] ∧ Z.Warmed39 UA.vm ∧ UA.heap = h0) (fun _ _ _ _ _ => True) (fun _ UA oA UB => ∃ rV LE, oA = .returned rV ∧ QrmIrr Z a t r h0 n0 rV UB.heap LE ∧ FrameEnd UA oA UB LE ({ frames := 2, cells := 0, slots := 0, locals := 24 } : Room).cells ({ frames := 2, cells := 0, slots := 0, locals := 24 } : Room).slots) := by
  refine MetFree.of_bodySF (plainFor_of_name pn_4) hisR ?_
  intro p e s m args below meth c s₁ Bd hml0 hP hK
  obtain ⟨rfl, hZ, hh⟩ := hP
  have hx := Bd.exec
  have hby := Bd.bytes
  have hml : c.maxLocals = 3 := hml0
  have hown : s.vm.findClass "com/example/plaingrant/plaingrant/server/http/Request$Body" = some m.cls := findClass_of_methodNamed Bd.named
  have hnm := (name_of_methodNamed Bd.named Bd.method).1
  have hlk := Bd.notSynchronized
  have X0 : Stand p l e ({ frames := 2, cells := 0, slots := 0, locals := 24 } : Room) s m #[(.ref a), (.ref t), (.ref r)] below meth c s₁ [] 0 0 := Stand.of_body Bd
  have e0 : s₁.heap = h0 := by rw [← hh, Bd.state]; rfl
  have N0 := Fr.nil n0
  show Go p e below s (QrmIrr Z a t r h0 n0) ({ frames := 2, cells := 0, slots := 0, locals := 24 } : Room).cells ({ frames := 2, cells := 0, slots := 0, locals := 24 } : Room).slots s₁ (entryFrame m #[(.ref a), (.ref t), (.ref r)] 3)
  refine Go.eq (ef_rmIrr m a t r) ?_
  show Go p e below s _ _ _ s₁ (mkF m 0 #[.val (.ref a), .val (.ref t), .val (.ref r)] [])
  refine Go.st (fun _ => XS.aloadN X0.here hx rfl (hb hby d1_0) rfl rfl) ?_
  show Go p e below s _ _ _ s₁ (mkF m 1 #[.val (.ref a), .val (.ref t), .val (.ref r)] [(.ref a)])
  obtain ⟨_, _, ⟨T_1, L_1, kc_1, nc_1⟩, -, X_1, ⟨Lc_1, hQ_1, l_1, y_1, z_1⟩, st_1⟩ := X0.specialBack hx (y := (⟨"java/lang/Record", "<init>", "()V"⟩ : MethodName)) rfl hown (mvT hZ (hw _ (List.mem_of_getElem? (i := 6) rfl))) (mvT hZ (hw _ (List.mem_of_getElem? (i := 7) rfl))) (mvT hZ (hw _ (List.mem_of_getElem? (i := 10) rfl))) (by decide) (backOf (W := 0) (rm2 l Z a0 hw [] a h0 n0 Z0 ) hZ (hw _ (List.mem_of_getElem? (i := 10) rfl)) (hw _ (List.mem_of_getElem? (i := 9) rfl)) (by decide) (by decide)) (g := (mkF m 1 #[.val (.ref a), .val (.ref t), .val (.ref r)] [(.ref a)])) rfl (by rw [hml]; rfl) (Steps.refl _) (a := a) (argsL := []) (rest := []) (lenOf pd_1 rfl) rfl (by show 2 * 0 + _ ≤ _; exact Nat.le_of_eq rfl) (hb hby d1_1) (fun _ _ => ⟨rfl, e0, (by decide : 0 + 0 ≤ _), (by decide : 0 + 0 ≤ _)⟩)
  dsimp only [Pt.U, Pt.locs, Pt.cells, Pt.slots] at X_1 l_1 y_1 z_1 st_1 hQ_1
  obtain rfl : kc_1 = 0 := y_1
  obtain rfl : nc_1 = 0 := z_1
  obtain ⟨h_1, e_1⟩ : ∃ hh, T_1.heap = hh := ⟨_, rfl⟩
  rw [e_1] at hQ_1
  obtain ⟨rfl, N_1q, sm_1⟩ := hQ_1
  have N_1 : Fr n0 L_1 := by rw [l_1]; exact Fr.app N0 N_1q
  refine Go.st (fun _ kk => st_1.trans kk) ?_
  rw [sm_1] at e_1
  show Go p e below s _ _ _ T_1 (mkF m 4 #[.val (.ref a), .val (.ref t), .val (.ref r)] [])
  refine Go.st (fun _ => XS.aloadN X_1.here hx rfl (hb hby d1_4) rfl rfl) ?_
  show Go p e below s _ _ _ T_1 (mkF m 5 #[.val (.ref a), .val (.ref t), .val (.ref r)] [(.ref a)])
  refine Go.st (fun _ => XS.aloadN X_1.here hx rfl (hb hby d1_5) rfl rfl) ?_
  show Go p e below s _ _ _ T_1 (mkF m 6 #[.val (.ref a), .val (.ref t), .val (.ref r)] [(.ref t), (.ref a)])
  obtain ⟨T_2, h_2, X_2, e_2, W_2, st_2⟩ := putF X_1 hx hZ hown (host := "") (Or.inl (hw _ (List.mem_of_getElem? (i := 14) rfl))) Via.refl e_1 F_bytes_a E_a (Or.inr ⟨(hw _ (List.mem_of_getElem? (i := 15) rfl)), rfl, hnm⟩) (hw _ (List.mem_of_getElem? (i := 1) rfl)) (ty := (.array .byte)) (by decide) rfl rfl (g := (mkF m 6 #[.val (.ref a), .val (.ref t), .val (.ref r)] [(.ref t), (.ref a)])) rfl rfl (hb hby d1_6)
  refine Go.st st_2 ?_
  have N_2 := Fr.snoc X_2 N_1 g_a
  have K_2 : Keep h0 h_2 [a] := (Keep.refl h0 [a]).wr W_2 (Or.inl (List.mem_of_getElem? (i := 0) rfl))
  have z_2 : n0 ≤ h_2.size := Nat.le_trans Z0 (Nat.le_of_eq W_2.size.symm)
  have Fw_2 := F_bytes_a.same W_2
  show Go p e below s _ _ _ T_2 (mkF m 9 #[.val (.ref a), .val (.ref t), .val (.ref r)] [])
  refine Go.st (fun _ => XS.aloadN X_2.here hx rfl (hb hby d1_9) rfl rfl) ?_
  show Go p e below s _ _ _ T_2 (mkF m 10 #[.val (.ref a), .val (.ref t), .val (.ref r)] [(.ref a)])
  refine Go.st (fun _ => XS.aloadN X_2.here hx rfl (hb hby d1_10) rfl rfl) ?_
  show Go p e below s _ _ _ T_2 (mkF m 11 #[.val (.ref a), .val (.ref t), .val (.ref r)] [(.ref r), (.ref a)])
  have f_3 := (E_a.wr W_2)
  have f_4 := (F_refusal_a.other W_2 (Or.inr (slot_ne (Or.inr (hw _ (List.mem_of_getElem? (i := 17) rfl))) (Or.inr (hw _ (List.mem_of_getElem? (i := 15) rfl))) (by decide) (t := (.object "com/example/plaingrant/plaingrant/server/http/ApiException")) (t' := (.array .byte)) (by decide) (by decide))))
  obtain ⟨T_5, h_5, X_5, e_5, W_5, st_5⟩ := putF X_2 hx hZ hown (host := "") (Or.inl (hw _ (List.mem_of_getElem? (i := 16) rfl))) Via.refl e_2 f_4 f_3 (Or.inr ⟨(hw _ (List.mem_of_getElem? (i := 17) rfl)), rfl, hnm⟩) (hw _ (List.mem_of_getElem? (i := 1) rfl)) (ty := (.object "com/example/plaingrant/plaingrant/server/http/ApiException")) (by decide) rfl rfl (g := (mkF m 11 #[.val (.ref a), .val (.ref t), .val (.ref r)] [(.ref r), (.ref a)])) rfl rfl (hb hby d1_11)
  refine Go.st st_5 ?_
  have N_5 := Fr.snoc X_5 N_2 g_a
  have K_5 : Keep h0 h_5 [a] := K_2.wr W_5 (Or.inl (List.mem_of_getElem? (i := 0) rfl))
  have z_5 : n0 ≤ h_5.size := Nat.le_trans z_2 (Nat.le_of_eq W_5.size.symm)
  have Fw_5 := f_4.same W_5
  show Go p e below s _ _ _ T_5 (mkF m 14 #[.val (.ref a), .val (.ref t), .val (.ref r)] [])
  have f_6 := (f_3.wr W_5)
  have f_7 := (Fw_2.other W_5 (Or.inr (slot_ne (Or.inr (hw _ (List.mem_of_getElem? (i := 15) rfl))) (Or.inr (hw _ (List.mem_of_getElem? (i := 17) rfl))) (by decide) (t := (.array .byte)) (t' := (.object "com/example/plaingrant/plaingrant/server/http/ApiException")) (by decide) (by decide))))
  exact Go.ret0 X_5 hx hlk Bd.returns (hb hby d1_14) (by rw [e_5]; exact ⟨rfl, N_5, K_5, f_6, f_7, Fw_5⟩) (by decide) (by decide)
theorem d4_0 : decode prog_36_method_4_code 0 = .ok (.aload_n 0, 1) := by decide +kernel
theorem d4_1 : decode prog_36_method_4_code 1 = .ok (.getfield 13, 3) := by decide +kernel
theorem d4_4 : decode prog_36_method_4_code 4 = .ok (.ifnonnull 7, 3) := by decide +kernel
theorem d4_7 : decode prog_36_method_4_code 7 = .ok (.iconst 1, 1) := by decide +kernel
theorem d4_8 : decode prog_36_method_4_code 8 = .ok (.goto 4, 3) := by decide +kernel
theorem d4_12 : decode prog_36_method_4_code 12 = .ok (.ireturn, 1) := by decide +kernel
theorem ef_rmWn (m : MethodId) (a : Addr) : entryFrame m #[(.ref a)] 1 = mkF m 0 #[.val (.ref a)] [] := by first | (simp [entryFrame, mkF, argsToLocals, Value.category]; done) | rfl
def QrmWn (Z : State) (a : Addr) (h0 : Heap) (n0 : Nat) (rV : Option Value) (hE : Heap) (LE : List Loc) : Prop := rV = some (.int (1 : Int32)) ∧ Fr n0 LE ∧ hE = h0
set_option maxRecDepth 65536 in
set_option maxHeartbeats 40000000 in
theorem rmWn (l : Launch) (Z : State) (a0 : Array Value) (hw : ∀ d ∈ tables_1, d.before a0 Z = true) (ws : List Jvm.Cond) (a : Addr) (h0 : Heap) (n0 : Nat) (Z0 : n0 ≤ h0.size) (F_refusal_a : Fld Z h0 a "com/example/plaingrant/plaingrant/server/http/Request$Body" "refusal" "Lcom/example/plaingrant/plaingrant/server/http/ApiException;" .null) :
    MetFree l (⟨"com/example/plaingrant/plaingrant/server/http/Request$Body", "whole", "()Z"⟩ : MethodName) (head1 (Jvm.Cond.code (⟨"com/example/plaingrant/plaingrant/server/http/Request$Body", "whole", "()Z"⟩ : MethodName) prog_36_method_4_code 1 (some .boolean) :: ws) ({ frames := 0, cells := 0, slots := 0, locals := 0 } : Room)) (fun aA UA => aA = #[(.ref a)] ∧ Z.Warmed39 UA.vm ∧ UA.heap = h0) (fun _ _ _ _ _ => True) (fun _ UA oA UB => ∃ rV LE, oA = .returned rV ∧ QrmWn Z a h0 n0 rV UB.heap LE ∧ FrameEnd UA oA UB LE ({ frames := 0, cells := 0, slots := 0, locals := 0 } : Room).cells ({ frames := 0, cells := 0, slots := 0, locals := 0 } : Room).slots) := by
  refine MetFree.of_bodySF (plainFor_of_name pn_4) hisR ?_
  intro p e s m args below meth c s₁ Bd hml0 hP hK
  obtain ⟨rfl, hZ, hh⟩ := hP
  have hx := Bd.exec
  have hby := Bd.bytes
  have hml : c.maxLocals = 1 := hml0
  have hown : s.vm.findClass "com/example/plaingrant/plaingrant/server/http/Request$Body" = some m.cls := findClass_of_methodNamed Bd.named
  have hnm := (name_of_methodNamed Bd.named Bd.method).1
  have hlk := Bd.notSynchronized
  have X0 : Stand p l e ({ frames := 0, cells := 0, slots := 0, locals := 0 } : Room) s m #[(.ref a)] below meth c s₁ [] 0 0 := Stand.of_body Bd
  have e0 : s₁.heap = h0 := by rw [← hh, Bd.state]; rfl
  have N0 := Fr.nil n0
  show Go p e below s (QrmWn Z a h0 n0) ({ frames := 0, cells := 0, slots := 0, locals := 0 } : Room).cells ({ frames := 0, cells := 0, slots := 0, locals := 0 } : Room).slots s₁ (entryFrame m #[(.ref a)] 1)
  refine Go.eq (ef_rmWn m a) ?_
  show Go p e below s _ _ _ s₁ (mkF m 0 #[.val (.ref a)] [])
  refine Go.st (fun _ => XS.aloadN X0.here hx rfl (hb hby d4_0) rfl rfl) ?_
  show Go p e below s _ _ _ s₁ (mkF m 1 #[.val (.ref a)] [(.ref a)])
  obtain ⟨T_1, X_1, e_1, st_1⟩ := getF X0 hx hZ hown (host := "") (Or.inl (hw _ (List.mem_of_getElem? (i := 16) rfl))) Via.refl e0 F_refusal_a (g := (mkF m 1 #[.val (.ref a)] [(.ref a)])) rfl rfl (hb hby d4_1)
  refine Go.st st_1 ?_
  show Go p e below s _ _ _ T_1 (mkF m 4 #[.val (.ref a)] [.null])
  refine Go.st (fun _ => XS.ifnonnullNo X_1.here hx rfl (hb hby d4_4) rfl) ?_
  show Go p e below s _ _ _ T_1 (mkF m 7 #[.val (.ref a)] [])
  refine Go.st (fun _ => XS.iconst X_1.here hx rfl (hb hby d4_7)) ?_
  show Go p e below s _ _ _ T_1 (mkF m 8 #[.val (.ref a)] [(.int (1 : Int32))])
  refine Go.st (fun _ => XS.goto X_1.here hx rfl (pc0 := 8) (pc' := 12) rfl (hb hby d4_8) (by decide) (by decide)) ?_
  show Go p e below s _ _ _ T_1 (mkF m 12 #[.val (.ref a)] [(.int (1 : Int32))])
  exact Go.retZ X_1 hx hlk Bd.returns (hb hby d4_12) rfl (by rw [e_1]; exact ⟨rfl, N0, rfl⟩) (by decide) (by decide)
theorem d4_11 : decode prog_36_method_4_code 11 = .ok (.iconst 0, 1) := by decide +kernel
theorem ef_rmWr (m : MethodId) (a : Addr) : entryFrame m #[(.ref a)] 1 = mkF m 0 #[.val (.ref a)] [] := by first | (simp [entryFrame, mkF, argsToLocals, Value.category]; done) | rfl
def QrmWr (Z : State) (a : Addr) (r : Addr) (h0 : Heap) (n0 : Nat) (rV : Option Value) (hE : Heap) (LE : List Loc) : Prop := rV = some (.int (0 : Int32)) ∧ Fr n0 LE ∧ hE = h0
set_option maxRecDepth 65536 in
set_option maxHeartbeats 40000000 in
theorem rmWr (l : Launch) (Z : State) (a0 : Array Value) (hw : ∀ d ∈ tables_1, d.before a0 Z = true) (ws : List Jvm.Cond) (a : Addr) (r : Addr) (h0 : Heap) (n0 : Nat) (Z0 : n0 ≤ h0.size) (F_refusal_a : Fld Z h0 a "com/example/plaingrant/plaingrant/server/http/Request$Body" "refusal" "Lcom/example/plaingrant/plaingrant/server/http/ApiException;" (.ref r)) :
    MetFree l (⟨"com/example/plaingrant/plaingrant/server/http/Request$Body", "whole", "()Z"⟩ : MethodName) (head1 (Jvm.Cond.code (⟨"com/example/plaingrant/plaingrant/server/http/Request$Body", "whole", "()Z"⟩ : MethodName) prog_36_method_4_code 1 (some .boolean) :: ws) ({ frames := 0, cells := 0, slots := 0, locals := 0 } : Room)) (fun aA UA => aA = #[(.ref a)] ∧ Z.Warmed39 UA.vm ∧ UA.heap = h0) (fun _ _ _ _ _ => True) (fun _ UA oA UB => ∃ rV LE, oA = .returned rV ∧ QrmWr Z a r h0 n0 rV UB.heap LE ∧ FrameEnd UA oA UB LE ({ frames := 0, cells := 0, slots := 0, locals := 0 } : Room).cells ({ frames := 0, cells := 0, slots := 0, locals := 0 } : Room).slots) := by
  refine MetFree.of_bodySF (plainFor_of_name pn_4) hisR ?_
  intro p e s m args below meth c s₁ Bd hml0 hP hK
  obtain ⟨rfl, hZ, hh⟩ := hP
  have hx := Bd.exec
  have hby := Bd.bytes
  have hml : c.maxLocals = 1 := hml0
  have hown : s.vm.findClass "com/example/plaingrant/plaingrant/server/http/Request$Body" = some m.cls := findClass_of_methodNamed Bd.named
  have hnm := (name_of_methodNamed Bd.named Bd.method).1
  have hlk := Bd.notSynchronized
  have X0 : Stand p l e ({ frames := 0, cells := 0, slots := 0, locals := 0 } : Room) s m #[(.ref a)] below meth c s₁ [] 0 0 := Stand.of_body Bd
  have e0 : s₁.heap = h0 := by rw [← hh, Bd.state]; rfl
  have N0 := Fr.nil n0
  show Go p e below s (QrmWr Z a r h0 n0) ({ frames := 0, cells := 0, slots := 0, locals := 0 } : Room).cells ({ frames := 0, cells := 0, slots := 0, locals := 0 } : Room).slots s₁ (entryFrame m #[(.ref a)] 1)
  refine Go.eq (ef_rmWr m a) ?_
  show Go p e below s _ _ _ s₁ (mkF m 0 #[.val (.ref a)] [])
  refine Go.st (fun _ => XS.aloadN X0.here hx rfl (hb hby d4_0) rfl rfl) ?_
  show Go p e below s _ _ _ s₁ (mkF m 1 #[.val (.ref a)] [(.ref a)])
  obtain ⟨T_1, X_1, e_1, st_1⟩ := getF X0 hx hZ hown (host := "") (Or.inl (hw _ (List.mem_of_getElem? (i := 16) rfl))) Via.refl e0 F_refusal_a (g := (mkF m 1 #[.val (.ref a)] [(.ref a)])) rfl rfl (hb hby d4_1)
  refine Go.st st_1 ?_
  show Go p e below s _ _ _ T_1 (mkF m 4 #[.val (.ref a)] [(.ref r)])
  refine Go.st (fun _ => XS.ifnonnullYes X_1.here hx rfl (pc0 := 4) (pc' := 11) rfl (hb hby d4_4) rfl (by decide) (by decide)) ?_
  show Go p e below s _ _ _ T_1 (mkF m 11 #[.val (.ref a)] [])
  refine Go.st (fun _ => XS.iconst X_1.here hx rfl (hb hby d4_11)) ?_
  show Go p e below s _ _ _ T_1 (mkF m 12 #[.val (.ref a)] [(.int (0 : Int32))])
  exact Go.retZ X_1 hx hlk Bd.returns (hb hby d4_12) rfl (by rw [e_1]; exact ⟨rfl, N0, rfl⟩) (by decide) (by decide)
theorem d5_0 : decode prog_36_method_5_code 0 = .ok (.aload_n 0, 1) := by decide +kernel
theorem d5_1 : decode prog_36_method_5_code 1 = .ok (.getfield 13, 3) := by decide +kernel
theorem d5_4 : decode prog_36_method_5_code 4 = .ok (.ifnull 8, 3) := by decide +kernel
theorem d5_12 : decode prog_36_method_5_code 12 = .ok (.aload_n 0, 1) := by decide +kernel
theorem d5_13 : decode prog_36_method_5_code 13 = .ok (.getfield 7, 3) := by decide +kernel
theorem d5_16 : decode prog_36_method_5_code 16 = .ok (.areturn, 1) := by decide +kernel
theorem ef_rmTn (m : MethodId) (a : Addr) : entryFrame m #[(.ref a)] 1 = mkF m 0 #[.val (.ref a)] [] := by first | (simp [entryFrame, mkF, argsToLocals, Value.category]; done) | rfl
def QrmTn (Z : State) (a : Addr) (h0 : Heap) (n0 : Nat) (rV : Option Value) (hE : Heap) (LE : List Loc) : Prop := rV = some .null ∧ Fr n0 LE ∧ hE = h0
set_option maxRecDepth 65536 in
set_option maxHeartbeats 40000000 in
theorem rmTn (l : Launch) (Z : State) (a0 : Array Value) (hw : ∀ d ∈ tables_1, d.before a0 Z = true) (ws : List Jvm.Cond) (a : Addr) (h0 : Heap) (n0 : Nat) (Z0 : n0 ≤ h0.size) (F_bytes_a : Fld Z h0 a "com/example/plaingrant/plaingrant/server/http/Request$Body" "bytes" "[B" .null) (F_refusal_a : Fld Z h0 a "com/example/plaingrant/plaingrant/server/http/Request$Body" "refusal" "Lcom/example/plaingrant/plaingrant/server/http/ApiException;" .null) :
    MetFree l (⟨"com/example/plaingrant/plaingrant/server/http/Request$Body", "take", "()[B"⟩ : MethodName) (head1 (Jvm.Cond.code (⟨"com/example/plaingrant/plaingrant/server/http/Request$Body", "take", "()[B"⟩ : MethodName) prog_36_method_5_code 1 (some (.array .byte)) :: ws) ({ frames := 0, cells := 0, slots := 0, locals := 0 } : Room)) (fun aA UA => aA = #[(.ref a)] ∧ Z.Warmed39 UA.vm ∧ UA.heap = h0) (fun _ _ _ _ _ => True) (fun _ UA oA UB => ∃ rV LE, oA = .returned rV ∧ QrmTn Z a h0 n0 rV UB.heap LE ∧ FrameEnd UA oA UB LE ({ frames := 0, cells := 0, slots := 0, locals := 0 } : Room).cells ({ frames := 0, cells := 0, slots := 0, locals := 0 } : Room).slots) := by
  refine MetFree.of_bodySF (plainFor_of_name pn_4) hisR ?_
  intro p e s m args below meth c s₁ Bd hml0 hP hK
  obtain ⟨rfl, hZ, hh⟩ := hP
  have hx := Bd.exec
  have hby := Bd.bytes
  have hml : c.maxLocals = 1 := hml0
  have hown : s.vm.findClass "com/example/plaingrant/plaingrant/server/http/Request$Body" = some m.cls := findClass_of_methodNamed Bd.named
  have hnm := (name_of_methodNamed Bd.named Bd.method).1
  have hlk := Bd.notSynchronized
  have X0 : Stand p l e ({ frames := 0, cells := 0, slots := 0, locals := 0 } : Room) s m #[(.ref a)] below meth c s₁ [] 0 0 := Stand.of_body Bd
  have e0 : s₁.heap = h0 := by rw [← hh, Bd.state]; rfl
  have N0 := Fr.nil n0
  show Go p e below s (QrmTn Z a h0 n0) ({ frames := 0, cells := 0, slots := 0, locals := 0 } : Room).cells ({ frames := 0, cells := 0, slots := 0, locals := 0 } : Room).slots s₁ (entryFrame m #[(.ref a)] 1)
  refine Go.eq (ef_rmTn m a) ?_
  show Go p e below s _ _ _ s₁ (mkF m 0 #[.val (.ref a)] [])
  refine Go.st (fun _ => XS.aloadN X0.here hx rfl (hb hby d5_0) rfl rfl) ?_
  show Go p e below s _ _ _ s₁ (mkF m 1 #[.val (.ref a)] [(.ref a)])
  obtain ⟨T_1, X_1, e_1, st_1⟩ := getF X0 hx hZ hown (host := "") (Or.inl (hw _ (List.mem_of_getElem? (i := 16) rfl))) Via.refl e0 F_refusal_a (g := (mkF m 1 #[.val (.ref a)] [(.ref a)])) rfl rfl (hb hby d5_1)
  refine Go.st st_1 ?_
  show Go p e below s _ _ _ T_1 (mkF m 4 #[.val (.ref a)] [.null])
  refine Go.st (fun _ => XS.ifnullYes X_1.here hx rfl (pc0 := 4) (pc' := 12) rfl (hb hby d5_4) rfl (by decide) (by decide)) ?_
  show Go p e below s _ _ _ T_1 (mkF m 12 #[.val (.ref a)] [])
  refine Go.st (fun _ => XS.aloadN X_1.here hx rfl (hb hby d5_12) rfl rfl) ?_
  show Go p e below s _ _ _ T_1 (mkF m 13 #[.val (.ref a)] [(.ref a)])
  obtain ⟨T_2, X_2, e_2, st_2⟩ := getF X_1 hx hZ hown (host := "") (Or.inl (hw _ (List.mem_of_getElem? (i := 14) rfl))) Via.refl e_1 F_bytes_a (g := (mkF m 13 #[.val (.ref a)] [(.ref a)])) rfl rfl (hb hby d5_13)
  refine Go.st st_2 ?_
  show Go p e below s _ _ _ T_2 (mkF m 16 #[.val (.ref a)] [.null])
  exact Go.retA X_2 hx hlk Bd.returns rfl rfl (hb hby d5_16) (by rw [e_2]; exact ⟨rfl, N0, rfl⟩) (by decide) (by decide)
theorem ef_rmTr (m : MethodId) (a : Addr) : entryFrame m #[(.ref a)] 1 = mkF m 0 #[.val (.ref a)] [] := by first | (simp [entryFrame, mkF, argsToLocals, Value.category]; done) | rfl
def QrmTr (Z : State) (a : Addr) (t : Addr) (h0 : Heap) (n0 : Nat) (rV : Option Value) (hE : Heap) (LE : List Loc) : Prop := rV = some (.ref t) ∧ Fr n0 LE ∧ hE = h0
set_option maxRecDepth 65536 in
set_option maxHeartbeats 40000000 in
theorem rmTr (l : Launch) (Z : State) (a0 : Array Value) (hw : ∀ d ∈ tables_1, d.before a0 Z = true) (ws : List Jvm.Cond) (a : Addr) (t : Addr) (h0 : Heap) (n0 : Nat) (Z0 : n0 ≤ h0.size) (F_bytes_a : Fld Z h0 a "com/example/plaingrant/plaingrant/server/http/Request$Body" "bytes" "[B" (.ref t)) (F_refusal_a : Fld Z h0 a "com/example/plaingrant/plaingrant/server/http/Request$Body" "refusal" "Lcom/example/plaingrant/plaingrant/server/http/ApiException;" .null) :
    MetFree l (⟨"com/example/plaingrant/plaingrant/server/http/Request$Body", "take", "()[B"⟩ : MethodName) (head1 (Jvm.Cond.code (⟨"com/example/plaingrant/plaingrant/server/http/Request$Body", "take", "()[B"⟩ : MethodName) prog_36_method_5_code 1 (some (.array .byte)) :: ws) ({ frames := 0, cells := 0, slots := 0, locals := 0 } : Room)) (fun aA UA => aA = #[(.ref a)] ∧ Z.Warmed39 UA.vm ∧ UA.heap = h0) (fun _ _ _ _ _ => True) (fun _ UA oA UB => ∃ rV LE, oA = .returned rV ∧ QrmTr Z a t h0 n0 rV UB.heap LE ∧ FrameEnd UA oA UB LE ({ frames := 0, cells := 0, slots := 0, locals := 0 } : Room).cells ({ frames := 0, cells := 0, slots := 0, locals := 0 } : Room).slots) := by
  refine MetFree.of_bodySF (plainFor_of_name pn_4) hisR ?_
  intro p e s m args below meth c s₁ Bd hml0 hP hK
  obtain ⟨rfl, hZ, hh⟩ := hP
  have hx := Bd.exec
  have hby := Bd.bytes
  have hml : c.maxLocals = 1 := hml0
  have hown : s.vm.findClass "com/example/plaingrant/plaingrant/server/http/Request$Body" = some m.cls := findClass_of_methodNamed Bd.named
  have hnm := (name_of_methodNamed Bd.named Bd.method).1
  have hlk := Bd.notSynchronized
  have X0 : Stand p l e ({ frames := 0, cells := 0, slots := 0, locals := 0 } : Room) s m #[(.ref a)] below meth c s₁ [] 0 0 := Stand.of_body Bd
  have e0 : s₁.heap = h0 := by rw [← hh, Bd.state]; rfl
  have N0 := Fr.nil n0
  show Go p e below s (QrmTr Z a t h0 n0) ({ frames := 0, cells := 0, slots := 0, locals := 0 } : Room).cells ({ frames := 0, cells := 0, slots := 0, locals := 0 } : Room).slots s₁ (entryFrame m #[(.ref a)] 1)
  refine Go.eq (ef_rmTr m a) ?_
  show Go p e below s _ _ _ s₁ (mkF m 0 #[.val (.ref a)] [])
  refine Go.st (fun _ => XS.aloadN X0.here hx rfl (hb hby d5_0) rfl rfl) ?_
  show Go p e below s _ _ _ s₁ (mkF m 1 #[.val (.ref a)] [(.ref a)])
  obtain ⟨T_1, X_1, e_1, st_1⟩ := getF X0 hx hZ hown (host := "") (Or.inl (hw _ (List.mem_of_getElem? (i := 16) rfl))) Via.refl e0 F_refusal_a (g := (mkF m 1 #[.val (.ref a)] [(.ref a)])) rfl rfl (hb hby d5_1)
  refine Go.st st_1 ?_
  show Go p e below s _ _ _ T_1 (mkF m 4 #[.val (.ref a)] [.null])
  refine Go.st (fun _ => XS.ifnullYes X_1.here hx rfl (pc0 := 4) (pc' := 12) rfl (hb hby d5_4) rfl (by decide) (by decide)) ?_
  show Go p e below s _ _ _ T_1 (mkF m 12 #[.val (.ref a)] [])
  refine Go.st (fun _ => XS.aloadN X_1.here hx rfl (hb hby d5_12) rfl rfl) ?_
  show Go p e below s _ _ _ T_1 (mkF m 13 #[.val (.ref a)] [(.ref a)])
  obtain ⟨T_2, X_2, e_2, st_2⟩ := getF X_1 hx hZ hown (host := "") (Or.inl (hw _ (List.mem_of_getElem? (i := 14) rfl))) Via.refl e_1 F_bytes_a (g := (mkF m 13 #[.val (.ref a)] [(.ref a)])) rfl rfl (hb hby d5_13)
  refine Go.st st_2 ?_
  show Go p e below s _ _ _ T_2 (mkF m 16 #[.val (.ref a)] [(.ref t)])
  exact Go.retA X_2 hx hlk Bd.returns rfl rfl (hb hby d5_16) (by rw [e_2]; exact ⟨rfl, N0, rfl⟩) (by decide) (by decide)
theorem d7_0 : decode jdk_43_method_3_code 0 = .ok (.iload_n 0, 1) := by decide +kernel
theorem d7_1 : decode jdk_43_method_3_code 1 = .ok (.sipush 255, 3) := by decide +kernel
theorem d7_4 : decode jdk_43_method_3_code 4 = .ok (.if_icmp .gt 7, 3) := by decide +kernel
theorem d7_11 : decode jdk_43_method_3_code 11 = .ok (.iconst 0, 1) := by decide +kernel
theorem d7_12 : decode jdk_43_method_3_code 12 = .ok (.ireturn, 1) := by decide +kernel
theorem d7_7 : decode jdk_43_method_3_code 7 = .ok (.iconst 1, 1) := by decide +kernel
theorem d7_8 : decode jdk_43_method_3_code 8 = .ok (.goto 4, 3) := by decide +kernel
theorem pn_5 : plainName "java/lang/StringLatin1" = true := by first | (simp [plainName, overriddenIn]; done) | decide +kernel
theorem ef_rmCan (m : MethodId) (ch : Int32) : entryFrame m #[(.int ch)] 1 = mkF m 0 #[.val (.int ch)] [] := by first | (simp [entryFrame, mkF, argsToLocals, Value.category]; done) | rfl
def QrmCan (Z : State) (ch : Int32) (h0 : Heap) (n0 : Nat) (rV : Option Value) (hE : Heap) (LE : List Loc) : Prop := rV = some (.int (b2i (¬ ((255 : Int32) < ch)))) ∧ Fr n0 LE ∧ hE = h0
set_option maxRecDepth 65536 in
set_option maxHeartbeats 40000000 in
theorem rmCan (l : Launch) (Z : State) (a0 : Array Value) (hw : ∀ d ∈ tables_1, d.before a0 Z = true) (ws : List Jvm.Cond) (ch : Int32) (h0 : Heap) (n0 : Nat) (Z0 : n0 ≤ h0.size) :
    MetFree l (⟨"java/lang/StringLatin1", "canEncode", "(C)Z"⟩ : MethodName) (head1 (Jvm.Cond.code (⟨"java/lang/StringLatin1", "canEncode", "(C)Z"⟩ : MethodName) jdk_43_method_3_code 1 (some .boolean) :: ws) ({ frames := 0, cells := 0, slots := 0, locals := 0 } : Room)) (fun aA UA => aA = #[(.int ch)] ∧ Z.Warmed39 UA.vm ∧ UA.heap = h0) (fun _ _ _ _ _ => True) (fun _ UA oA UB => ∃ rV LE, oA = .returned rV ∧ QrmCan Z ch h0 n0 rV UB.heap LE ∧ FrameEnd UA oA UB LE ({ frames := 0, cells := 0, slots := 0, locals := 0 } : Room).cells ({ frames := 0, cells := 0, slots := 0, locals := 0 } : Room).slots) := by
  refine MetFree.of_bodySF (plainFor_of_name pn_5) hisR ?_
  intro p e s m args below meth c s₁ Bd hml0 hP hK
  obtain ⟨rfl, hZ, hh⟩ := hP
  have hx := Bd.exec
  have hby := Bd.bytes
  have hml : c.maxLocals = 1 := hml0
  have hown : s.vm.findClass "java/lang/StringLatin1" = some m.cls := findClass_of_methodNamed Bd.named
  have hnm := (name_of_methodNamed Bd.named Bd.method).1
  have hlk := Bd.notSynchronized
  have X0 : Stand p l e ({ frames := 0, cells := 0, slots := 0, locals := 0 } : Room) s m #[(.int ch)] below meth c s₁ [] 0 0 := Stand.of_body Bd
  have e0 : s₁.heap = h0 := by rw [← hh, Bd.state]; rfl
  have N0 := Fr.nil n0
  show Go p e below s (QrmCan Z ch h0 n0) ({ frames := 0, cells := 0, slots := 0, locals := 0 } : Room).cells ({ frames := 0, cells := 0, slots := 0, locals := 0 } : Room).slots s₁ (entryFrame m #[(.int ch)] 1)
  refine Go.eq (ef_rmCan m ch) ?_
  show Go p e below s _ _ _ s₁ (mkF m 0 #[.val (.int ch)] [])
  refine Go.st (fun _ => XS.iloadN X0.here hx rfl (hb hby d7_0) rfl) ?_
  show Go p e below s _ _ _ s₁ (mkF m 1 #[.val (.int ch)] [(.int ch)])
  refine Go.st (fun _ => XS.sipush X0.here hx rfl (hb hby d7_1)) ?_
  show Go p e below s _ _ _ s₁ (mkF m 4 #[.val (.int ch)] [(.int (255 : Int32)), (.int ch)])
  by_cases hc_1 : (255 : Int32) < ch
  · refine Go.st (fun _ => XS.icmpYes X0.here hx rfl (pc0 := 4) (pc' := 11) rfl (hb hby d7_4) rfl (tlt hc_1).2.2.1 (by decide) (by decide)) ?_
    show Go p e below s _ _ _ s₁ (mkF m 11 #[.val (.int ch)] [])
    refine Go.st (fun _ => XS.iconst X0.here hx rfl (hb hby d7_11)) ?_
    show Go p e below s _ _ _ s₁ (mkF m 12 #[.val (.int ch)] [(.int (0 : Int32))])
    exact Go.retZ X0 hx hlk Bd.returns (hb hby d7_12) rfl (by rw [e0]; exact ⟨(own_b2i_f (not_not_intro hc_1)), N0, rfl⟩) (by decide) (by decide)
  · refine Go.st (fun _ => XS.icmpNo X0.here hx rfl (hb hby d7_4) rfl (flt hc_1).2.2.1) ?_
    show Go p e below s _ _ _ s₁ (mkF m 7 #[.val (.int ch)] [])
    refine Go.st (fun _ => XS.iconst X0.here hx rfl (hb hby d7_7)) ?_
    show Go p e below s _ _ _ s₁ (mkF m 8 #[.val (.int ch)] [(.int (1 : Int32))])
    refine Go.st (fun _ => XS.goto X0.here hx rfl (pc0 := 8) (pc' := 12) rfl (hb hby d7_8) (by decide) (by decide)) ?_
    show Go p e below s _ _ _ s₁ (mkF m 12 #[.val (.int ch)] [(.int (1 : Int32))])
    exact Go.retZ X0 hx hlk Bd.returns (hb hby d7_12) rfl (by rw [e0]; exact ⟨(own_b2i_t hc_1), N0, rfl⟩) (by decide) (by decide)
theorem d8_0 : decode jdk_43_method_46_code 0 = .ok (.iconst 1, 1) := by decide +kernel
theorem d8_1 : decode jdk_43_method_46_code 1 = .ok (.newarray .byte, 2) := by decide +kernel
theorem d8_3 : decode jdk_43_method_46_code 3 = .ok (.dup, 1) := by decide +kernel
theorem d8_4 : decode jdk_43_method_46_code 4 = .ok (.iconst 0, 1) := by decide +kernel
theorem d8_5 : decode jdk_43_method_46_code 5 = .ok (.iload_n 0, 1) := by decide +kernel
theorem d8_6 : decode jdk_43_method_46_code 6 = .ok (.i2b, 1) := by decide +kernel
theorem d8_7 : decode jdk_43_method_46_code 7 = .ok (.bastore, 1) := by decide +kernel
theorem d8_8 : decode jdk_43_method_46_code 8 = .ok (.areturn, 1) := by decide +kernel
theorem ef_rmTob (m : MethodId) (ch : Int32) : entryFrame m #[(.int ch)] 1 = mkF m 0 #[.val (.int ch)] [] := by first | (simp [entryFrame, mkF, argsToLocals, Value.category]; done) | rfl
def QrmTob (Z : State) (ch : Int32) (h0 : Heap) (n0 : Nat) (rV : Option Value) (hE : Heap) (LE : List Loc) : Prop := ∃ d : Addr, ∃ kd : ClassId, rV = some (.ref d) ∧ Fr n0 LE ∧ Keep h0 hE [] ∧ h0.size ≤ d ∧ n0 ≤ d ∧ Arv Z hE d kd .byte (1 : Int32) [(.int (ch.toInt8.toInt32))] (.int (0 : Int32))
set_option maxRecDepth 65536 in
set_option maxHeartbeats 40000000 in
theorem rmTob (l : Launch) (Z : State) (a0 : Array Value) (hw : ∀ d ∈ tables_1, d.before a0 Z = true) (ws : List Jvm.Cond) (ch : Int32) (h0 : Heap) (n0 : Nat) (Z0 : n0 ≤ h0.size) :
    MetFree l (⟨"java/lang/StringLatin1", "toBytes", "(C)[B"⟩ : MethodName) (head1 (Jvm.Cond.code (⟨"java/lang/StringLatin1", "toBytes", "(C)[B"⟩ : MethodName) jdk_43_method_46_code 1 (some (.array .byte)) :: ws) ({ frames := 0, cells := 1, slots := 1, locals := 0 } : Room)) (fun aA UA => aA = #[(.int ch)] ∧ Z.Warmed39 UA.vm ∧ UA.heap = h0) (fun _ _ _ _ _ => True) (fun _ UA oA UB => ∃ rV LE, oA = .returned rV ∧ QrmTob Z ch h0 n0 rV UB.heap LE ∧ FrameEnd UA oA UB LE ({ frames := 0, cells := 1, slots := 1, locals := 0 } : Room).cells ({ frames := 0, cells := 1, slots := 1, locals := 0 } : Room).slots) := by
  refine MetFree.of_bodySF (plainFor_of_name pn_5) hisR ?_
  intro p e s m args below meth c s₁ Bd hml0 hP hK
  obtain ⟨rfl, hZ, hh⟩ := hP
  have hx := Bd.exec
  have hby := Bd.bytes
  have hml : c.maxLocals = 1 := hml0
  have hown : s.vm.findClass "java/lang/StringLatin1" = some m.cls := findClass_of_methodNamed Bd.named
  have hnm := (name_of_methodNamed Bd.named Bd.method).1
  have hlk := Bd.notSynchronized
  have X0 : Stand p l e ({ frames := 0, cells := 1, slots := 1, locals := 0 } : Room) s m #[(.int ch)] below meth c s₁ [] 0 0 := Stand.of_body Bd
  have e0 : s₁.heap = h0 := by rw [← hh, Bd.state]; rfl
  have N0 := Fr.nil n0
  show Go p e below s (QrmTob Z ch h0 n0) ({ frames := 0, cells := 1, slots := 1, locals := 0 } : Room).cells ({ frames := 0, cells := 1, slots := 1, locals := 0 } : Room).slots s₁ (entryFrame m #[(.int ch)] 1)
  refine Go.eq (ef_rmTob m ch) ?_
  show Go p e below s _ _ _ s₁ (mkF m 0 #[.val (.int ch)] [])
  refine Go.st (fun _ => XS.iconst X0.here hx rfl (hb hby d8_0)) ?_
  show Go p e below s _ _ _ s₁ (mkF m 1 #[.val (.int ch)] [(.int (1 : Int32))])
  obtain ⟨T_1, h_1, kA_1, X_1, e_1, E_1, A_1, st_1⟩ := newP X0 hx hZ (hw _ (List.mem_of_getElem? (i := 28) rfl)) e0 (g := (mkF m 1 #[.val (.int ch)] [(.int (1 : Int32))])) rfl (hb hby d8_1) rfl (by decide) (cap := 1) (by decide) (by decide) (by decide) (by decide)
  obtain ⟨b_1, g_1⟩ : ∃ z, z = h0.size := ⟨_, rfl⟩
  rw [← g_1] at A_1 st_1
  refine Go.st st_1 ?_
  have gg_1 : n0 ≤ b_1 := Nat.le_trans Z0 (Nat.le_of_eq g_1.symm)
  have sz_1 : h0.size ≤ b_1 := Nat.le_trans (Keep.refl h0 []).1 (Nat.le_of_eq g_1.symm)
  have K_1 : Keep h0 h_1 [] := (Keep.refl h0 []).ext E_1
  have z_1 : n0 ≤ h_1.size := Nat.le_trans Z0 E_1.1
  have V_b_1 : Arv Z h_1 b_1 kA_1 .byte (1 : Int32) [(.int (0 : Int32))] (.int (0 : Int32)) := (Arv.new A_1 (by decide)).pad (pad_rep [] (.int (0 : Int32)) 1)
  show Go p e below s _ _ _ T_1 (mkF m 3 #[.val (.int ch)] [(.ref b_1)])
  refine Go.st (fun _ => XS.dup X_1.here hx rfl (hb hby d8_3) rfl rfl) ?_
  show Go p e below s _ _ _ T_1 (mkF m 4 #[.val (.int ch)] [(.ref b_1), (.ref b_1)])
  refine Go.st (fun _ => XS.iconst X_1.here hx rfl (hb hby d8_4)) ?_
  show Go p e below s _ _ _ T_1 (mkF m 5 #[.val (.int ch)] [(.int (0 : Int32)), (.ref b_1), (.ref b_1)])
  refine Go.st (fun _ => XS.iloadN X_1.here hx rfl (hb hby d8_5) rfl) ?_
  show Go p e below s _ _ _ T_1 (mkF m 6 #[.val (.int ch)] [(.int ch), (.int (0 : Int32)), (.ref b_1), (.ref b_1)])
  refine Go.st (fun _ => XS.i2b X_1.here hx rfl (hb hby d8_6) rfl) ?_
  show Go p e below s _ _ _ T_1 (mkF m 7 #[.val (.int ch)] [(.int (ch.toInt8.toInt32)), (.int (0 : Int32)), (.ref b_1), (.ref b_1)])
  obtain ⟨cl_2, Ar_2, q_2, S_2, M_2, H_2, G_2⟩ := id V_b_1
  have hin_2 : ¬ ((0 : Int32) < 0 ∨ cl_2.slots.size ≤ ((0 : Int32)).toNatClampNeg) := inb_of S_2 ⟨by decide, by decide⟩
  obtain ⟨T_2, h_2, X_2, e_2, W_2, st_2⟩ := stB X_1 hx hZ e_1 Ar_2 (j := (0 : Int32)) hin_2 (g := (mkF m 7 #[.val (.int ch)] [(.int (ch.toInt8.toInt32)), (.int (0 : Int32)), (.ref b_1), (.ref b_1)])) rfl rfl (hb hby d8_7)
  refine Go.st st_2 ?_
  rw [own_nb] at W_2
  have V_2 : Arv Z h_2 b_1 kA_1 .byte (1 : Int32) [(.int (ch.toInt8.toInt32))] (.int (0 : Int32)) := Arv.set Ar_2 q_2 S_2 M_2 H_2 G_2 (fits_nar_byte _) W_2 0 rfl (Nat.le_of_ble_eq_true rfl)
  have N_2 := Fr.snoc X_2 N0 gg_1
  have K_2 : Keep h0 h_2 [] := K_1.wr W_2 (Or.inr sz_1)
  have z_2 : n0 ≤ h_2.size := Nat.le_trans z_1 (Nat.le_of_eq W_2.size.symm)
  show Go p e below s _ _ _ T_2 (mkF m 8 #[.val (.int ch)] [(.ref b_1)])
  exact Go.retA X_2 hx hlk Bd.returns rfl rfl (hb hby d8_8) (by rw [e_2]; exact ⟨b_1, kA_1, rfl, N_2, K_2, sz_1, gg_1, V_2⟩) (by decide) (by decide)
theorem d9_0 : decode jdk_42_method_151_code 0 = .ok (.aload_n 0, 1) := by decide +kernel
theorem d9_1 : decode jdk_42_method_151_code 1 = .ok (.invokespecial 1, 3) := by decide +kernel
theorem d9_4 : decode jdk_42_method_151_code 4 = .ok (.aload_n 0, 1) := by decide +kernel
theorem d9_5 : decode jdk_42_method_151_code 5 = .ok (.aload_n 1, 1) := by decide +kernel
theorem d9_6 : decode jdk_42_method_151_code 6 = .ok (.putfield 9, 3) := by decide +kernel
theorem d9_9 : decode jdk_42_method_151_code 9 = .ok (.aload_n 0, 1) := by decide +kernel
theorem d9_10 : decode jdk_42_method_151_code 10 = .ok (.iload_n 2, 1) := by decide +kernel
theorem d9_11 : decode jdk_42_method_151_code 11 = .ok (.putfield 15, 3) := by decide +kernel
theorem d9_14 : decode jdk_42_method_151_code 14 = .ok (.return_, 1) := by decide +kernel
theorem pn_6 : plainName "java/lang/String" = true := by first | (simp [plainName, overriddenIn]; done) | decide +kernel
theorem ef_rmSi (m : MethodId) (a : Addr) (t : Addr) : entryFrame m #[(.ref a), (.ref t), (.int (0 : Int32))] 3 = mkF m 0 #[.val (.ref a), .val (.ref t), .val (.int (0 : Int32))] [] := by first | (simp [entryFrame, mkF, argsToLocals, Value.category]; done) | rfl
def QrmSi (Z : State) (a : Addr) (t : Addr) (h0 : Heap) (n0 : Nat) (rV : Option Value) (hE : Heap) (LE : List Loc) : Prop := rV = none ∧ Fr n0 LE ∧ Keep h0 hE [a] ∧ Exa Z hE a "java/lang/String" ∧ Fld Z hE a "java/lang/String" "value" "[B" (.ref t) ∧ Fld Z hE a "java/lang/String" "coder" "B" (.int (0 : Int32))
set_option maxRecDepth 65536 in
set_option maxHeartbeats 40000000 in
theorem rmSi (l : Launch) (Z : State) (a0 : Array Value) (hw : ∀ d ∈ tables_1, d.before a0 Z = true) (ws : List Jvm.Cond) (a : Addr) (t : Addr) (h0 : Heap) (n0 : Nat) (Z0 : n0 ≤ h0.size) (E_a : Exa Z h0 a "java/lang/String") (F_value_a : Fld Z h0 a "java/lang/String" "value" "[B" .null) (F_coder_a : Fld Z h0 a "java/lang/String" "coder" "B" (.int (0 : Int32))) (g_a : n0 ≤ a) :
    MetFree l (⟨"java/lang/String", "<init>", "([BB)V"⟩ : MethodName) (head1 (Jvm.Cond.code (⟨"java/lang/String", "<init>", "([BB)V"⟩ : MethodName) jdk_42_method_151_code 3 none :: ws) ({ frames := 1, cells := 0, slots := 0, locals := 12 } : Room)) (fun aA UA => aA = #[(.ref a), (.ref t), (.int (0 : Int32))] ∧ Z.Warmed39 UA.vm ∧ UA.heap = h0) (fun _ _ _ _ _ => True) (fun _ UA oA UB => ∃ rV LE, oA = .returned rV ∧ QrmSi Z a t h0 n0 rV UB.heap LE ∧ FrameEnd UA oA UB LE ({ frames := 1, cells := 0, slots := 0, locals := 12 } : Room).cells ({ frames := 1, cells := 0, slots := 0, locals := 12 } : Room).slots) := by
  refine MetFree.of_bodySF (plainFor_of_name pn_6) hisR ?_
  intro p e s m args below meth c s₁ Bd hml0 hP hK
  obtain ⟨rfl, hZ, hh⟩ := hP
  have hx := Bd.exec
  have hby := Bd.bytes
  have hml : c.maxLocals = 3 := hml0
  have hown : s.vm.findClass "java/lang/String" = some m.cls := findClass_of_methodNamed Bd.named
  have hnm := (name_of_methodNamed Bd.named Bd.method).1
  have hlk := Bd.notSynchronized
  have X0 : Stand p l e ({ frames := 1, cells := 0, slots := 0, locals := 12 } : Room) s m #[(.ref a), (.ref t), (.int (0 : Int32))] below meth c s₁ [] 0 0 := Stand.of_body Bd
  have e0 : s₁.heap = h0 := by rw [← hh, Bd.state]; rfl
  have N0 := Fr.nil n0
  show Go p e below s (QrmSi Z a t h0 n0) ({ frames := 1, cells := 0, slots := 0, locals := 12 } : Room).cells ({ frames := 1, cells := 0, slots := 0, locals := 12 } : Room).slots s₁ (entryFrame m #[(.ref a), (.ref t), (.int (0 : Int32))] 3)
  refine Go.eq (ef_rmSi m a t) ?_
  show Go p e below s _ _ _ s₁ (mkF m 0 #[.val (.ref a), .val (.ref t), .val (.int (0 : Int32))] [])
  refine Go.st (fun _ => XS.aloadN X0.here hx rfl (hb hby d9_0) rfl rfl) ?_
  show Go p e below s _ _ _ s₁ (mkF m 1 #[.val (.ref a), .val (.ref t), .val (.int (0 : Int32))] [(.ref a)])
  obtain ⟨T_1, X_1, e_1, st_1⟩ := initO X0 hx hZ hown (hw _ (List.mem_of_getElem? (i := 50) rfl)) (hw _ (List.mem_of_getElem? (i := 12) rfl)) (hw _ (List.mem_of_getElem? (i := 13) rfl)) e0 (g := (mkF m 1 #[.val (.ref a), .val (.ref t), .val (.int (0 : Int32))] [(.ref a)])) rfl (by rw [hml]; rfl) rfl (hb hby d9_1) (by decide) (W := 0) (by show 2 * 0 + _ ≤ _; exact Nat.le_of_eq rfl) (by decide)
  refine Go.st st_1 ?_
  show Go p e below s _ _ _ T_1 (mkF m 4 #[.val (.ref a), .val (.ref t), .val (.int (0 : Int32))] [])
  refine Go.st (fun _ => XS.aloadN X_1.here hx rfl (hb hby d9_4) rfl rfl) ?_
  show Go p e below s _ _ _ T_1 (mkF m 5 #[.val (.ref a), .val (.ref t), .val (.int (0 : Int32))] [(.ref a)])
  refine Go.st (fun _ => XS.aloadN X_1.here hx rfl (hb hby d9_5) rfl rfl) ?_
  show Go p e below s _ _ _ T_1 (mkF m 6 #[.val (.ref a), .val (.ref t), .val (.int (0 : Int32))] [(.ref t), (.ref a)])
  obtain ⟨T_2, h_2, X_2, e_2, W_2, st_2⟩ := putF X_1 hx hZ hown (host := "") (Or.inl (hw _ (List.mem_of_getElem? (i := 51) rfl))) Via.refl e_1 F_value_a E_a (Or.inr ⟨(hw _ (List.mem_of_getElem? (i := 52) rfl)), rfl, hnm⟩) (hw _ (List.mem_of_getElem? (i := 42) rfl)) (ty := (.array .byte)) (by decide) rfl rfl (g := (mkF m 6 #[.val (.ref a), .val (.ref t), .val (.int (0 : Int32))] [(.ref t), (.ref a)])) rfl rfl (hb hby d9_6)
  refine Go.st st_2 ?_
  have N_2 := Fr.snoc X_2 N0 g_a
  have K_2 : Keep h0 h_2 [a] := (Keep.refl h0 [a]).wr W_2 (Or.inl (List.mem_of_getElem? (i := 0) rfl))
  have z_2 : n0 ≤ h_2.size := Nat.le_trans Z0 (Nat.le_of_eq W_2.size.symm)
  have Fw_2 := F_value_a.same W_2
  show Go p e below s _ _ _ T_2 (mkF m 9 #[.val (.ref a), .val (.ref t), .val (.int (0 : Int32))] [])
  refine Go.st (fun _ => XS.aloadN X_2.here hx rfl (hb hby d9_9) rfl rfl) ?_
  show Go p e below s _ _ _ T_2 (mkF m 10 #[.val (.ref a), .val (.ref t), .val (.int (0 : Int32))] [(.ref a)])
  refine Go.st (fun _ => XS.iloadN X_2.here hx rfl (hb hby d9_10) rfl) ?_
  show Go p e below s _ _ _ T_2 (mkF m 11 #[.val (.ref a), .val (.ref t), .val (.int (0 : Int32))] [(.int (0 : Int32)), (.ref a)])
  have f_3 := (E_a.wr W_2)
  have f_4 := (F_coder_a.other W_2 (Or.inr (slot_ne (Or.inr (hw _ (List.mem_of_getElem? (i := 54) rfl))) (Or.inr (hw _ (List.mem_of_getElem? (i := 52) rfl))) (by decide) (t := .byte) (t' := (.array .byte)) (by decide) (by decide))))
  obtain ⟨T_5, h_5, X_5, e_5, W_5, st_5⟩ := putF X_2 hx hZ hown (host := "") (Or.inl (hw _ (List.mem_of_getElem? (i := 53) rfl))) Via.refl e_2 f_4 f_3 (Or.inr ⟨(hw _ (List.mem_of_getElem? (i := 54) rfl)), rfl, hnm⟩) (hw _ (List.mem_of_getElem? (i := 42) rfl)) (ty := .byte) (by decide) rfl rfl (g := (mkF m 11 #[.val (.ref a), .val (.ref t), .val (.int (0 : Int32))] [(.int (0 : Int32)), (.ref a)])) rfl rfl (hb hby d9_11)
  refine Go.st st_5 ?_
  have N_5 := Fr.snoc X_5 N_2 g_a
  have K_5 : Keep h0 h_5 [a] := K_2.wr W_5 (Or.inl (List.mem_of_getElem? (i := 0) rfl))
  have z_5 : n0 ≤ h_5.size := Nat.le_trans z_2 (Nat.le_of_eq W_5.size.symm)
  have Fw_5 := f_4.same W_5
  show Go p e below s _ _ _ T_5 (mkF m 14 #[.val (.ref a), .val (.ref t), .val (.int (0 : Int32))] [])
  have f_6 := (f_3.wr W_5)
  have f_7 := (Fw_2.other W_5 (Or.inr (slot_ne (Or.inr (hw _ (List.mem_of_getElem? (i := 52) rfl))) (Or.inr (hw _ (List.mem_of_getElem? (i := 54) rfl))) (by decide) (t := (.array .byte)) (t' := .byte) (by decide) (by decide))))
  exact Go.ret0 X_5 hx hlk Bd.returns (hb hby d9_14) (by rw [e_5]; exact ⟨rfl, N_5, K_5, f_6, f_7, Fw_5⟩) (by decide) (by decide)
theorem d6_0 : decode jdk_42_method_139_code 0 = .ok (.getstatic 38, 3) := by decide +kernel
theorem d6_3 : decode jdk_42_method_139_code 3 = .ok (.ifCond .eq 23, 3) := by decide +kernel
theorem d6_6 : decode jdk_42_method_139_code 6 = .ok (.iload_n 0, 1) := by decide +kernel
theorem d6_7 : decode jdk_42_method_139_code 7 = .ok (.invokestatic 1015, 3) := by decide +kernel
theorem pd_2 : parseMethodDescriptor "(C)Z" = some ⟨[.char], some .boolean⟩ := by decide +kernel
theorem d6_10 : decode jdk_42_method_139_code 10 = .ok (.ifCond .eq 16, 3) := by decide +kernel
theorem d6_13 : decode jdk_42_method_139_code 13 = .ok (.new 10, 3) := by decide +kernel
theorem d6_16 : decode jdk_42_method_139_code 16 = .ok (.dup, 1) := by decide +kernel
theorem d6_17 : decode jdk_42_method_139_code 17 = .ok (.iload_n 0, 1) := by decide +kernel
theorem d6_18 : decode jdk_42_method_139_code 18 = .ok (.invokestatic 1018, 3) := by decide +kernel
theorem pd_3 : parseMethodDescriptor "(C)[B" = some ⟨[.char], some (.array .byte)⟩ := by decide +kernel
theorem d6_21 : decode jdk_42_method_139_code 21 = .ok (.iconst 0, 1) := by decide +kernel
theorem d6_22 : decode jdk_42_method_139_code 22 = .ok (.invokespecial 209, 3) := by decide +kernel
theorem pd_4 : parseMethodDescriptor "([BB)V" = some ⟨[(.array .byte), .byte], none⟩ := by decide +kernel
theorem d6_25 : decode jdk_42_method_139_code 25 = .ok (.areturn, 1) := by decide +kernel
theorem ef_rmVo (m : MethodId) (ch : Int32) : entryFrame m #[(.int ch)] 1 = mkF m 0 #[.val (.int ch)] [] := by first | (simp [entryFrame, mkF, argsToLocals, Value.category]; done) | rfl
def QrmVo (Z : State) (ch : Int32) (cs : Int32) (h0 : Heap) (n0 : Nat) (rV : Option Value) (hE : Heap) (LE : List Loc) : Prop := ∃ b : Addr, ∃ d : Addr, ∃ kd : ClassId, rV = some (.ref b) ∧ Fr n0 LE ∧ Keep h0 hE [] ∧ h0.size ≤ b ∧ n0 ≤ b ∧ Exa Z hE b "java/lang/String" ∧ Fld Z hE b "java/lang/String" "value" "[B" (.ref d) ∧ Fld Z hE b "java/lang/String" "coder" "B" (.int (0 : Int32)) ∧ h0.size ≤ d ∧ n0 ≤ d ∧ Arv Z hE d kd .byte (1 : Int32) [(.int (ch.toInt8.toInt32))] (.int (0 : Int32)) ∧ b ≠ d
set_option maxRecDepth 65536 in
set_option maxHeartbeats 40000000 in
theorem rmVo (l : Launch) (Z : State) (a0 : Array Value) (hw : ∀ d ∈ tables_1, d.before a0 Z = true) (ws : List Jvm.Cond) (ch : Int32) (cs : Int32) (h0 : Heap) (n0 : Nat) (Z0 : n0 ≤ h0.size) (S_COMPACT_STRINGS : Sta Z h0 "java/lang/String" "COMPACT_STRINGS" "Z" (.int cs)) (hcs : ¬ (cs = (0 : Int32))) (hch : ¬ ((255 : Int32) < ch)) :
    MetFree l (⟨"java/lang/String", "valueOf", "(C)Ljava/lang/String;"⟩ : MethodName) (head1 (Jvm.Cond.code (⟨"java/lang/String", "valueOf", "(C)Ljava/lang/String;"⟩ : MethodName) jdk_42_method_139_code 1 (some (.object "java/lang/String")) :: ws) ({ frames := 2, cells := 2, slots := 5, locals := 27 } : Room)) (fun aA UA => aA = #[(.int ch)] ∧ Z.Warmed39 UA.vm ∧ UA.heap = h0) (fun _ _ _ _ _ => True) (fun _ UA oA UB => ∃ rV LE, oA = .returned rV ∧ QrmVo Z ch cs h0 n0 rV UB.heap LE ∧ FrameEnd UA oA UB LE ({ frames := 2, cells := 2, slots := 5, locals := 27 } : Room).cells ({ frames := 2, cells := 2, slots := 5, locals := 27 } : Room).slots) := by
  refine MetFree.of_bodySF (plainFor_of_name pn_6) hisR ?_
  intro p e s m args below meth c s₁ Bd hml0 hP hK
  obtain ⟨rfl, hZ, hh⟩ := hP
  have hx := Bd.exec
  have hby := Bd.bytes
  have hml : c.maxLocals = 1 := hml0
  have hown : s.vm.findClass "java/lang/String" = some m.cls := findClass_of_methodNamed Bd.named
  have hnm := (name_of_methodNamed Bd.named Bd.method).1
  have hlk := Bd.notSynchronized
  have X0 : Stand p l e ({ frames := 2, cells := 2, slots := 5, locals := 27 } : Room) s m #[(.int ch)] below meth c s₁ [] 0 0 := Stand.of_body Bd
  have e0 : s₁.heap = h0 := by rw [← hh, Bd.state]; rfl
  have N0 := Fr.nil n0
  show Go p e below s (QrmVo Z ch cs h0 n0) ({ frames := 2, cells := 2, slots := 5, locals := 27 } : Room).cells ({ frames := 2, cells := 2, slots := 5, locals := 27 } : Room).slots s₁ (entryFrame m #[(.int ch)] 1)
  refine Go.eq (ef_rmVo m ch) ?_
  show Go p e below s _ _ _ s₁ (mkF m 0 #[.val (.int ch)] [])
  obtain ⟨T_1, X_1, e_1, st_1⟩ := getS2 X0 hx hZ hown (host := "") (Or.inl (hw _ (List.mem_of_getElem? (i := 36) rfl))) Via.refl e0 S_COMPACT_STRINGS (g := (mkF m 0 #[.val (.int ch)] [])) rfl (hb hby d6_0)
  refine Go.st st_1 ?_
  show Go p e below s _ _ _ T_1 (mkF m 3 #[.val (.int ch)] [(.int cs)])
  refine Go.st (fun _ => XS.ifNo X_1.here hx rfl (hb hby d6_3) rfl ((if0 _ _).trans (feq hcs).1)) ?_
  show Go p e below s _ _ _ T_1 (mkF m 6 #[.val (.int ch)] [])
  refine Go.st (fun _ => XS.iloadN X_1.here hx rfl (hb hby d6_6) rfl) ?_
  show Go p e below s _ _ _ T_1 (mkF m 7 #[.val (.int ch)] [(.int ch)])
  obtain ⟨_, _, ⟨T_2, L_2, kc_2, nc_2⟩, -, X_2, ⟨Lc_2, hQ_2, l_2, y_2, z_2⟩, st_2⟩ := Jvm.LawKit.callS X_1 hx (y := (⟨"java/lang/StringLatin1", "canEncode", "(C)Z"⟩ : MethodName)) hown (mvT hZ (hw _ (List.mem_of_getElem? (i := 37) rfl))) (mvT hZ (hw _ (List.mem_of_getElem? (i := 38) rfl))) (mvT hZ (hw _ (List.mem_of_getElem? (i := 39) rfl))) (mvT hZ (hw _ (List.mem_of_getElem? (i := 40) rfl))) (by decide) (backOf (W := 0) (rmCan l Z a0 hw [] ch h0 n0 Z0 ) hZ (hw _ (List.mem_of_getElem? (i := 40) rfl)) (hw _ (List.mem_of_getElem? (i := 39) rfl)) (by decide) (by decide)) (g := (mkF m 7 #[.val (.int ch)] [(.int ch)])) rfl (by rw [hml]; rfl) (argsL := [(.int ch)]) (rest := []) (lenOf pd_2 rfl) rfl (by show 2 * 0 + _ ≤ _; exact Nat.le_of_eq rfl) (hb hby d6_7) (fun _ _ => ⟨rfl, e_1, (by decide : 0 + 0 ≤ _), (by decide : 0 + 0 ≤ _)⟩)
  dsimp only [Pt.U, Pt.locs, Pt.cells, Pt.slots] at X_2 l_2 y_2 z_2 st_2 hQ_2
  obtain rfl : kc_2 = 0 := y_2
  obtain rfl : nc_2 = 0 := z_2
  obtain ⟨h_2, e_2⟩ : ∃ hh, T_2.heap = hh := ⟨_, rfl⟩
  rw [e_2] at hQ_2
  obtain ⟨rfl, N_2q, sm_2⟩ := hQ_2
  have N_2 : Fr n0 L_2 := by rw [l_2]; exact Fr.app N0 N_2q
  refine Go.st st_2 ?_
  rw [sm_2] at e_2
  show Go p e below s _ _ _ T_2 (mkF m 10 #[.val (.int ch)] [(.int (b2i (¬ ((255 : Int32) < ch))))])
  rw [show (b2i (¬ ((255 : Int32) < ch))) = (1 : Int32) from b2i_pos hch]
  show Go p e below s _ _ _ T_2 (mkF m 10 #[.val (.int ch)] [(.int (1 : Int32))])
  refine Go.st (fun _ => XS.ifNo X_2.here hx rfl (hb hby d6_10) rfl ((if0 _ _).trans (feq (by decide : ¬ ((1 : Int32) = (0 : Int32)))).1)) ?_
  show Go p e below s _ _ _ T_2 (mkF m 13 #[.val (.int ch)] [])
  obtain ⟨T_3, h_3, X_3, e_3, E_3, A_3, D_3, -, st_3⟩ := newO X_2 hx hZ hown (hw _ (List.mem_of_getElem? (i := 41) rfl)) (hw _ (List.mem_of_getElem? (i := 42) rfl)) (hw _ (List.mem_of_getElem? (i := 34) rfl)) e_2 (g := (mkF m 13 #[.val (.int ch)] [])) rfl (hb hby d6_13) (by decide) (by decide)
  obtain ⟨b_3, g_3⟩ : ∃ z, z = h0.size := ⟨_, rfl⟩
  rw [← g_3] at A_3 D_3 st_3
  refine Go.st st_3 ?_
  have gg_3 : n0 ≤ b_3 := Nat.le_trans Z0 (Nat.le_of_eq g_3.symm)
  have sz_3 : h0.size ≤ b_3 := Nat.le_trans (Keep.refl h0 []).1 (Nat.le_of_eq g_3.symm)
  have K_3 : Keep h0 h_3 [] := (Keep.refl h0 []).ext E_3
  have z_3 : n0 ≤ h_3.size := Nat.le_trans Z0 E_3.1
  have F_value_b_3 : Fld Z h_3 b_3 "java/lang/String" "value" "[B" .null := D_3 (Or.inr (hw _ (List.mem_of_getElem? (i := 52) rfl))) (ty := (.array .byte)) (by decide)
  have F_coder_b_3 : Fld Z h_3 b_3 "java/lang/String" "coder" "B" (.int (0 : Int32)) := D_3 (Or.inr (hw _ (List.mem_of_getElem? (i := 54) rfl))) (ty := .byte) (by decide)
  show Go p e below s _ _ _ T_3 (mkF m 16 #[.val (.int ch)] [(.ref b_3)])
  refine Go.st (fun _ => XS.dup X_3.here hx rfl (hb hby d6_16) rfl rfl) ?_
  show Go p e below s _ _ _ T_3 (mkF m 17 #[.val (.int ch)] [(.ref b_3), (.ref b_3)])
  refine Go.st (fun _ => XS.iloadN X_3.here hx rfl (hb hby d6_17) rfl) ?_
  show Go p e below s _ _ _ T_3 (mkF m 18 #[.val (.int ch)] [(.int ch), (.ref b_3), (.ref b_3)])
  obtain ⟨_, _, ⟨T_4, L_4, kc_4, nc_4⟩, -, X_4, ⟨Lc_4, hQ_4, l_4, y_4, z_4⟩, st_4⟩ := Jvm.LawKit.callS X_3 hx (y := (⟨"java/lang/StringLatin1", "toBytes", "(C)[B"⟩ : MethodName)) hown (mvT hZ (hw _ (List.mem_of_getElem? (i := 43) rfl))) (mvT hZ (hw _ (List.mem_of_getElem? (i := 44) rfl))) (mvT hZ (hw _ (List.mem_of_getElem? (i := 39) rfl))) (mvT hZ (hw _ (List.mem_of_getElem? (i := 45) rfl))) (by decide) (backOf (W := 2) (rmTob l Z a0 hw [] ch h_3 n0 z_3 ) hZ (hw _ (List.mem_of_getElem? (i := 45) rfl)) (hw _ (List.mem_of_getElem? (i := 39) rfl)) (by decide) (by decide)) (g := (mkF m 18 #[.val (.int ch)] [(.int ch), (.ref b_3), (.ref b_3)])) rfl (by rw [hml]; rfl) (argsL := [(.int ch)]) (rest := [(.ref b_3), (.ref b_3)]) (lenOf pd_3 rfl) rfl (by show 2 * 0 + _ ≤ _; exact Nat.le_of_eq rfl) (hb hby d6_18) (fun _ _ => ⟨rfl, e_3, (by decide : 1 + 1 ≤ _), (by decide : 4 + 1 ≤ _)⟩)
  dsimp only [Pt.U, Pt.locs, Pt.cells, Pt.slots] at X_4 l_4 y_4 z_4 st_4 hQ_4
  obtain rfl : kc_4 = 2 := y_4
  obtain rfl : nc_4 = 5 := z_4
  obtain ⟨h_4, e_4⟩ : ∃ hh, T_4.heap = hh := ⟨_, rfl⟩
  rw [e_4] at hQ_4
  obtain ⟨d__4, kd__4, rfl, N_4q, K_4, p_4_0, p_4_1, p_4_2⟩ := hQ_4
  have N_4 : Fr n0 L_4 := by rw [l_4]; exact Fr.app N_2 N_4q
  refine Go.st st_4 ?_
  have ne_b_3_d__4 : b_3 ≠ d__4 := Nat.ne_of_lt (Nat.lt_of_lt_of_le A_3.lt p_4_0)
  have KK_4 : Keep h0 h_4 [] := K_3.trans K_4 all0
  have z_4q : n0 ≤ h_4.size := Nat.le_trans z_3 K_4.1
  have ns_4 : ∀ x ∈ ([] : List Addr), ∀ cell : Cell, h_3[x]? = some cell → cell.vm.isStatics = false := all0
  have sz_4_0 : h0.size ≤ d__4 := Nat.le_trans K_3.1 p_4_0
  show Go p e below s _ _ _ T_4 (mkF m 21 #[.val (.int ch)] [(.ref d__4), (.ref b_3), (.ref b_3)])
  refine Go.st (fun _ => XS.iconst X_4.here hx rfl (hb hby d6_21)) ?_
  show Go p e below s _ _ _ T_4 (mkF m 22 #[.val (.int ch)] [(.int (0 : Int32)), (.ref d__4), (.ref b_3), (.ref b_3)])
  have f_6 := (A_3.keep K_4)
  have f_7 := (F_value_b_3.keep K_4 nin0)
  have f_8 := (F_coder_b_3.keep K_4 nin0)
  obtain ⟨_, _, ⟨T_5, L_5, kc_5, nc_5⟩, -, X_5, ⟨Lc_5, hQ_5, l_5, y_5, z_5⟩, st_5⟩ := X_4.specialBack hx (y := (⟨"java/lang/String", "<init>", "([BB)V"⟩ : MethodName)) rfl hown (mvT hZ (hw _ (List.mem_of_getElem? (i := 46) rfl))) (mvT hZ (hw _ (List.mem_of_getElem? (i := 47) rfl))) (mvT hZ (hw _ (List.mem_of_getElem? (i := 49) rfl))) (by decide) (backOf (W := 1) (rmSi l Z a0 hw [] b_3 d__4 h_4 n0 z_4q f_6 f_7 f_8 gg_3) hZ (hw _ (List.mem_of_getElem? (i := 49) rfl)) (hw _ (List.mem_of_getElem? (i := 34) rfl)) (by decide) (by decide)) (g := (mkF m 22 #[.val (.int ch)] [(.int (0 : Int32)), (.ref d__4), (.ref b_3), (.ref b_3)])) rfl (by rw [hml]; rfl) (Steps.refl _) (a := b_3) (argsL := [(.ref d__4), (.int (0 : Int32))]) (rest := [(.ref b_3)]) (lenOf pd_4 rfl) rfl (by show 2 * 0 + _ ≤ _; exact Nat.le_of_eq rfl) (hb hby d6_22) (fun _ _ => ⟨rfl, e_4, (by decide : 2 + 0 ≤ _), (by decide : 5 + 0 ≤ _)⟩)
  dsimp only [Pt.U, Pt.locs, Pt.cells, Pt.slots] at X_5 l_5 y_5 z_5 st_5 hQ_5
  obtain rfl : kc_5 = 2 := y_5
  obtain rfl : nc_5 = 5 := z_5
  obtain ⟨h_5, e_5⟩ : ∃ hh, T_5.heap = hh := ⟨_, rfl⟩
  rw [e_5] at hQ_5
  obtain ⟨rfl, N_5q, K_5, p_5_0, p_5_1, p_5_2⟩ := hQ_5
  have N_5 : Fr n0 L_5 := by rw [l_5]; exact Fr.app N_4 N_5q
  refine Go.st (fun _ kk => st_5.trans kk) ?_
  have KK_5 : Keep h0 h_5 [] := KK_4.trans K_5 (allS (Or.inr sz_3) all0)
  have z_5q : n0 ≤ h_5.size := Nat.le_trans z_4q K_5.1
  have ns_5 : ∀ x ∈ ([b_3] : List Addr), ∀ cell : Cell, h_4[x]? = some cell → cell.vm.isStatics = false := (allS f_6.nostat all0)
  show Go p e below s _ _ _ T_5 (mkF m 25 #[.val (.int ch)] [(.ref b_3)])
  have f_9 := (p_4_2.keep K_5 (ninS (Ne.symm ne_b_3_d__4) nin0))
  exact Go.retA X_5 hx hlk Bd.returns rfl rfl (hb hby d6_25) (by rw [e_5]; exact ⟨b_3, d__4, kd__4, rfl, N_5, KK_5, sz_3, gg_3, p_5_0, p_5_1, p_5_2, sz_4_0, p_4_1, f_9, ne_b_3_d__4⟩) (by decide) (by decide)
theorem pd_5 : parseMethodDescriptor "([BLcom/example/plaingrant/plaingrant/server/http/ApiException;)V" = some ⟨[(.array .byte), (.object "com/example/plaingrant/plaingrant/server/http/ApiException")], none⟩ := by decide +kernel
theorem pd_6 : parseMethodDescriptor "()Z" = some ⟨[], some .boolean⟩ := by decide +kernel
theorem pd_7 : parseMethodDescriptor "()[B" = some ⟨[], some (.array .byte)⟩ := by decide +kernel
theorem pd_8 : parseMethodDescriptor "(C)Ljava/lang/String;" = some ⟨[.char], some (.object "java/lang/String")⟩ := by decide +kernel
theorem pd_9 : parseMethodDescriptor "(ILjava/lang/String;)V" = some ⟨[.int, (.object "java/lang/String")], none⟩ := by decide +kernel
theorem pn_7 : plainName "com/example/plaingrant/plaingrant/server/http/BodyWholePinLaw" = true := by first | (simp [plainName, overriddenIn]; done) | decide +kernel
theorem ef_rm0 (m : MethodId) (fl : Int32) (sx : Int32) (xc : Int32) (xd : Int32) : entryFrame m #[(.int fl), (.int sx), (.int xc), (.int xd)] maxLocals = mkF m 0 #[.val (.int fl), .val (.int sx), .val (.int xc), .val (.int xd), .unset, .unset, .unset, .unset, .unset, .unset, .unset] [] := by first | (simp [entryFrame, mkF, argsToLocals, Value.category, maxLocals]; done) | rfl
def Qrm0 (Z : State) (fl : Int32) (sx : Int32) (xc : Int32) (xd : Int32) (us : Value) (sn : Value) (cs : Int32) (h0 : Heap) (n0 : Nat) (rV : Option Value) (hE : Heap) (LE : List Loc) : Prop := rV = some (.int (1 : Int32)) ∧ Fr n0 LE
set_option maxRecDepth 65536 in
set_option maxHeartbeats 40000000 in
theorem rm0 (l : Launch) (Z : State) (a0 : Array Value) (hw : ∀ d ∈ tables_1, d.before a0 Z = true) (ws : List Jvm.Cond) (fl : Int32) (sx : Int32) (xc : Int32) (xd : Int32) (us : Value) (sn : Value) (cs : Int32) (h0 : Heap) (n0 : Nat) (Z0 : n0 ≤ h0.size) (hl : l.stackTraces = true) (S_UNASSIGNED_STACK : Sta Z h0 "java/lang/Throwable" "UNASSIGNED_STACK" "[Ljava/lang/StackTraceElement;" us) (S_SUPPRESSED_SENTINEL : Sta Z h0 "java/lang/Throwable" "SUPPRESSED_SENTINEL" "Ljava/util/List;" sn) (rf_us : us.isRef = true) (rf_sn : sn.isRef = true) (S_COMPACT_STRINGS : Sta Z h0 "java/lang/String" "COMPACT_STRINGS" "Z" (.int cs)) (hcs : ¬ (cs = (0 : Int32))) :
    MetFree l x (head1 (Jvm.Cond.code x code maxLocals ret :: ws) room_1) (fun aA UA => aA = #[(.int fl), (.int sx), (.int xc), (.int xd)] ∧ Z.Warmed39 UA.vm ∧ UA.heap = h0) (fun _ _ bl sK _ => sK.vm.MethodsKnown ∧ sK.vm.FramesKnown bl) (fun _ UA oA UB => ∃ rV LE, oA = .returned rV ∧ Qrm0 Z fl sx xc xd us sn cs h0 n0 rV UB.heap LE ∧ FrameEnd UA oA UB LE room_1.cells room_1.slots) := by
  refine MetFree.of_bodySF (plainFor_of_name pn_7) hisR ?_
  intro p e s m args below meth c s₁ Bd hml0 hP hK
  obtain ⟨hTK, hBe⟩ := hK
  obtain ⟨rfl, hZ, hh⟩ := hP
  have hx := Bd.exec
  have hby := Bd.bytes
  have hml : c.maxLocals = 11 := hml0
  have hown : s.vm.findClass "com/example/plaingrant/plaingrant/server/http/BodyWholePinLaw" = some m.cls := findClass_of_methodNamed Bd.named
  have hnm := (name_of_methodNamed Bd.named Bd.method).1
  have hlk := Bd.notSynchronized
  have X0 : Stand p l e room_1 s m #[(.int fl), (.int sx), (.int xc), (.int xd)] below meth c s₁ [] 0 0 := Stand.of_body Bd
  have e0 : s₁.heap = h0 := by rw [← hh, Bd.state]; rfl
  have N0 := Fr.nil n0
  show Go p e below s (Qrm0 Z fl sx xc xd us sn cs h0 n0) room_1.cells room_1.slots s₁ (entryFrame m #[(.int fl), (.int sx), (.int xc), (.int xd)] maxLocals)
  refine Go.eq (ef_rm0 m fl sx xc xd) ?_
  show Go p e below s _ _ _ s₁ (mkF m 0 #[.val (.int fl), .val (.int sx), .val (.int xc), .val (.int xd), .unset, .unset, .unset, .unset, .unset, .unset, .unset] [])
  refine Go.st (fun _ => XS.iloadN X0.here hx rfl (hb hby at_0) rfl) ?_
  show Go p e below s _ _ _ s₁ (mkF m 1 #[.val (.int fl), .val (.int sx), .val (.int xc), .val (.int xd), .unset, .unset, .unset, .unset, .unset, .unset, .unset] [(.int fl)])
  refine Go.st (fun _ => XS.iconst X0.here hx rfl (hb hby at_1)) ?_
  show Go p e below s _ _ _ s₁ (mkF m 2 #[.val (.int fl), .val (.int sx), .val (.int xc), .val (.int xd), .unset, .unset, .unset, .unset, .unset, .unset, .unset] [(.int (1 : Int32)), (.int fl)])
  refine Go.st (fun _ => XS.iand X0.here hx rfl (hb hby at_2) rfl) ?_
  show Go p e below s _ _ _ s₁ (mkF m 3 #[.val (.int fl), .val (.int sx), .val (.int xc), .val (.int xd), .unset, .unset, .unset, .unset, .unset, .unset, .unset] [(.int (fl &&& (1 : Int32)))])
  by_cases hc_1 : (fl &&& (1 : Int32)) = (0 : Int32)
  · refine Go.st (fun _ => XS.ifYes X0.here hx rfl (pc0 := 3) (pc' := 10) rfl (hb hby at_3) rfl ((if0 _ _).trans (teq hc_1).1) (by decide) (by decide)) ?_
    show Go p e below s _ _ _ s₁ (mkF m 10 #[.val (.int fl), .val (.int sx), .val (.int xc), .val (.int xd), .unset, .unset, .unset, .unset, .unset, .unset, .unset] [])
    refine Go.st (fun _ => XS.iconst X0.here hx rfl (hb hby at_10)) ?_
    show Go p e below s _ _ _ s₁ (mkF m 11 #[.val (.int fl), .val (.int sx), .val (.int xc), .val (.int xd), .unset, .unset, .unset, .unset, .unset, .unset, .unset] [(.int (0 : Int32))])
    refine Go.st (fun _ => XS.istore X0.here hx rfl (hb hby at_11) rfl (l' := #[.val (.int fl), .val (.int sx), .val (.int xc), .val (.int xd), .val (.int (0 : Int32)), .unset, .unset, .unset, .unset, .unset, .unset]) rfl) ?_
    show Go p e below s _ _ _ s₁ (mkF m 13 #[.val (.int fl), .val (.int sx), .val (.int xc), .val (.int xd), .val (.int (0 : Int32)), .unset, .unset, .unset, .unset, .unset, .unset] [])
    refine Go.st (fun _ => XS.iloadN X0.here hx rfl (hb hby at_13) rfl) ?_
    show Go p e below s _ _ _ s₁ (mkF m 14 #[.val (.int fl), .val (.int sx), .val (.int xc), .val (.int xd), .val (.int (0 : Int32)), .unset, .unset, .unset, .unset, .unset, .unset] [(.int fl)])
    refine Go.st (fun _ => XS.iconst X0.here hx rfl (hb hby at_14)) ?_
    show Go p e below s _ _ _ s₁ (mkF m 15 #[.val (.int fl), .val (.int sx), .val (.int xc), .val (.int xd), .val (.int (0 : Int32)), .unset, .unset, .unset, .unset, .unset, .unset] [(.int (1 : Int32)), (.int fl)])
    refine Go.st (fun _ => XS.iushr X0.here hx rfl (hb hby at_15) rfl) ?_
    show Go p e below s _ _ _ s₁ (mkF m 16 #[.val (.int fl), .val (.int sx), .val (.int xc), .val (.int xd), .val (.int (0 : Int32)), .unset, .unset, .unset, .unset, .unset, .unset] [(.int ((fl.toUInt32 >>> ((1 : Int32) &&& 31).toUInt32).toInt32))])
    refine Go.st (fun _ => XS.iconst X0.here hx rfl (hb hby at_16)) ?_
    show Go p e below s _ _ _ s₁ (mkF m 17 #[.val (.int fl), .val (.int sx), .val (.int xc), .val (.int xd), .val (.int (0 : Int32)), .unset, .unset, .unset, .unset, .unset, .unset] [(.int (3 : Int32)), (.int ((fl.toUInt32 >>> ((1 : Int32) &&& 31).toUInt32).toInt32))])
    refine Go.st (fun _ => XS.iand X0.here hx rfl (hb hby at_17) rfl) ?_
    show Go p e below s _ _ _ s₁ (mkF m 18 #[.val (.int fl), .val (.int sx), .val (.int xc), .val (.int xd), .val (.int (0 : Int32)), .unset, .unset, .unset, .unset, .unset, .unset] [(.int (((fl.toUInt32 >>> ((1 : Int32) &&& 31).toUInt32).toInt32) &&& (3 : Int32)))])
    refine Go.st (fun _ => XS.istore X0.here hx rfl (hb hby at_18) rfl (l' := #[.val (.int fl), .val (.int sx), .val (.int xc), .val (.int xd), .val (.int (0 : Int32)), .val (.int (((fl.toUInt32 >>> ((1 : Int32) &&& 31).toUInt32).toInt32) &&& (3 : Int32))), .unset, .unset, .unset, .unset, .unset]) rfl) ?_
    show Go p e below s _ _ _ s₁ (mkF m 20 #[.val (.int fl), .val (.int sx), .val (.int xc), .val (.int xd), .val (.int (0 : Int32)), .val (.int (((fl.toUInt32 >>> ((1 : Int32) &&& 31).toUInt32).toInt32) &&& (3 : Int32))), .unset, .unset, .unset, .unset, .unset] [])
    refine Go.st (fun _ => XS.aconstNull X0.here hx rfl (hb hby at_20)) ?_
    show Go p e below s _ _ _ s₁ (mkF m 21 #[.val (.int fl), .val (.int sx), .val (.int xc), .val (.int xd), .val (.int (0 : Int32)), .val (.int (((fl.toUInt32 >>> ((1 : Int32) &&& 31).toUInt32).toInt32) &&& (3 : Int32))), .unset, .unset, .unset, .unset, .unset] [.null])
    refine Go.st (fun _ => XS.astore X0.here hx rfl (hb hby at_21) rfl rfl (l' := #[.val (.int fl), .val (.int sx), .val (.int xc), .val (.int xd), .val (.int (0 : Int32)), .val (.int (((fl.toUInt32 >>> ((1 : Int32) &&& 31).toUInt32).toInt32) &&& (3 : Int32))), .val .null, .unset, .unset, .unset, .unset]) rfl) ?_
    show Go p e below s _ _ _ s₁ (mkF m 23 #[.val (.int fl), .val (.int sx), .val (.int xc), .val (.int xd), .val (.int (0 : Int32)), .val (.int (((fl.toUInt32 >>> ((1 : Int32) &&& 31).toUInt32).toInt32) &&& (3 : Int32))), .val .null, .unset, .unset, .unset, .unset] [])
    refine Go.st (fun _ => XS.iload X0.here hx rfl (hb hby at_23) rfl) ?_
    show Go p e below s _ _ _ s₁ (mkF m 25 #[.val (.int fl), .val (.int sx), .val (.int xc), .val (.int xd), .val (.int (0 : Int32)), .val (.int (((fl.toUInt32 >>> ((1 : Int32) &&& 31).toUInt32).toInt32) &&& (3 : Int32))), .val .null, .unset, .unset, .unset, .unset] [(.int (((fl.toUInt32 >>> ((1 : Int32) &&& 31).toUInt32).toInt32) &&& (3 : Int32)))])
    refine Go.st (fun _ => XS.iconst X0.here hx rfl (hb hby at_25)) ?_
    show Go p e below s _ _ _ s₁ (mkF m 26 #[.val (.int fl), .val (.int sx), .val (.int xc), .val (.int xd), .val (.int (0 : Int32)), .val (.int (((fl.toUInt32 >>> ((1 : Int32) &&& 31).toUInt32).toInt32) &&& (3 : Int32))), .val .null, .unset, .unset, .unset, .unset] [(.int (1 : Int32)), (.int (((fl.toUInt32 >>> ((1 : Int32) &&& 31).toUInt32).toInt32) &&& (3 : Int32)))])
    by_cases hc_2 : (((fl.toUInt32 >>> ((1 : Int32) &&& 31).toUInt32).toInt32) &&& (3 : Int32)) = (1 : Int32)
    · refine Go.st (fun _ => XS.icmpNo X0.here hx rfl (hb hby at_26) rfl (teq hc_2).2) ?_
      show Go p e below s _ _ _ s₁ (mkF m 29 #[.val (.int fl), .val (.int sx), .val (.int xc), .val (.int xd), .val (.int (0 : Int32)), .val (.int (((fl.toUInt32 >>> ((1 : Int32) &&& 31).toUInt32).toInt32) &&& (3 : Int32))), .val .null, .unset, .unset, .unset, .unset] [])
      refine Go.st (fun _ => XS.iconst X0.here hx rfl (hb hby at_29)) ?_
      show Go p e below s _ _ _ s₁ (mkF m 30 #[.val (.int fl), .val (.int sx), .val (.int xc), .val (.int xd), .val (.int (0 : Int32)), .val (.int (((fl.toUInt32 >>> ((1 : Int32) &&& 31).toUInt32).toInt32) &&& (3 : Int32))), .val .null, .unset, .unset, .unset, .unset] [(.int (0 : Int32))])
      obtain ⟨T_3, h_3, kA_3, X_3, e_3, E_3, A_3, st_3⟩ := newP X0 hx hZ (hw _ (List.mem_of_getElem? (i := 28) rfl)) e0 (g := (mkF m 30 #[.val (.int fl), .val (.int sx), .val (.int xc), .val (.int xd), .val (.int (0 : Int32)), .val (.int (((fl.toUInt32 >>> ((1 : Int32) &&& 31).toUInt32).toInt32) &&& (3 : Int32))), .val .null, .unset, .unset, .unset, .unset] [(.int (0 : Int32))])) rfl (hb hby at_30) rfl (by decide) (cap := 0) (by decide) (by decide) (by decide) (by decide)
      obtain ⟨b_3, g_3⟩ : ∃ z, z = h0.size := ⟨_, rfl⟩
      rw [← g_3] at A_3 st_3
      refine Go.st st_3 ?_
      have gg_3 : n0 ≤ b_3 := Nat.le_trans Z0 (Nat.le_of_eq g_3.symm)
      have z_3 : n0 ≤ h_3.size := Nat.le_trans Z0 E_3.1
      have V_b_3 : Arv Z h_3 b_3 kA_3 .byte (0 : Int32) [] (.int (0 : Int32)) := (Arv.new A_3 (by decide)).pad (pad_rep [] (.int (0 : Int32)) 0)
      show Go p e below s _ _ _ T_3 (mkF m 32 #[.val (.int fl), .val (.int sx), .val (.int xc), .val (.int xd), .val (.int (0 : Int32)), .val (.int (((fl.toUInt32 >>> ((1 : Int32) &&& 31).toUInt32).toInt32) &&& (3 : Int32))), .val .null, .unset, .unset, .unset, .unset] [(.ref b_3)])
      refine Go.st (fun _ => XS.astore X_3.here hx rfl (hb hby at_32) rfl rfl (l' := #[.val (.int fl), .val (.int sx), .val (.int xc), .val (.int xd), .val (.int (0 : Int32)), .val (.int (((fl.toUInt32 >>> ((1 : Int32) &&& 31).toUInt32).toInt32) &&& (3 : Int32))), .val (.ref b_3), .unset, .unset, .unset, .unset]) rfl) ?_
      show Go p e below s _ _ _ T_3 (mkF m 34 #[.val (.int fl), .val (.int sx), .val (.int xc), .val (.int xd), .val (.int (0 : Int32)), .val (.int (((fl.toUInt32 >>> ((1 : Int32) &&& 31).toUInt32).toInt32) &&& (3 : Int32))), .val (.ref b_3), .unset, .unset, .unset, .unset] [])
      refine Go.st (fun _ => XS.goto X_3.here hx rfl (pc0 := 34) (pc' := 60) rfl (hb hby at_34) (by decide) (by decide)) ?_
      show Go p e below s _ _ _ T_3 (mkF m 60 #[.val (.int fl), .val (.int sx), .val (.int xc), .val (.int xd), .val (.int (0 : Int32)), .val (.int (((fl.toUInt32 >>> ((1 : Int32) &&& 31).toUInt32).toInt32) &&& (3 : Int32))), .val (.ref b_3), .unset, .unset, .unset, .unset] [])
      refine Go.st (fun _ => XS.aconstNull X_3.here hx rfl (hb hby at_60)) ?_
      show Go p e below s _ _ _ T_3 (mkF m 61 #[.val (.int fl), .val (.int sx), .val (.int xc), .val (.int xd), .val (.int (0 : Int32)), .val (.int (((fl.toUInt32 >>> ((1 : Int32) &&& 31).toUInt32).toInt32) &&& (3 : Int32))), .val (.ref b_3), .unset, .unset, .unset, .unset] [.null])
      refine Go.st (fun _ => XS.astore X_3.here hx rfl (hb hby at_61) rfl rfl (l' := #[.val (.int fl), .val (.int sx), .val (.int xc), .val (.int xd), .val (.int (0 : Int32)), .val (.int (((fl.toUInt32 >>> ((1 : Int32) &&& 31).toUInt32).toInt32) &&& (3 : Int32))), .val (.ref b_3), .val .null, .unset, .unset, .unset]) rfl) ?_
      show Go p e below s _ _ _ T_3 (mkF m 63 #[.val (.int fl), .val (.int sx), .val (.int xc), .val (.int xd), .val (.int (0 : Int32)), .val (.int (((fl.toUInt32 >>> ((1 : Int32) &&& 31).toUInt32).toInt32) &&& (3 : Int32))), .val (.ref b_3), .val .null, .unset, .unset, .unset] [])
      refine Go.st (fun _ => XS.iload X_3.here hx rfl (hb hby at_63) rfl) ?_
      show Go p e below s _ _ _ T_3 (mkF m 65 #[.val (.int fl), .val (.int sx), .val (.int xc), .val (.int xd), .val (.int (0 : Int32)), .val (.int (((fl.toUInt32 >>> ((1 : Int32) &&& 31).toUInt32).toInt32) &&& (3 : Int32))), .val (.ref b_3), .val .null, .unset, .unset, .unset] [(.int (0 : Int32))])
      refine Go.st (fun _ => XS.ifYes X_3.here hx rfl (pc0 := 65) (pc' := 87) rfl (hb hby at_65) rfl ((if0 _ _).trans (teq (by decide : (0 : Int32) = (0 : Int32))).1) (by decide) (by decide)) ?_
      show Go p e below s _ _ _ T_3 (mkF m 87 #[.val (.int fl), .val (.int sx), .val (.int xc), .val (.int xd), .val (.int (0 : Int32)), .val (.int (((fl.toUInt32 >>> ((1 : Int32) &&& 31).toUInt32).toInt32) &&& (3 : Int32))), .val (.ref b_3), .val .null, .unset, .unset, .unset] [])
      obtain ⟨T_4, h_4, X_4, e_4, E_4, A_4, D_4, U_4, st_4⟩ := newO X_3 hx hZ hown (hw _ (List.mem_of_getElem? (i := 0) rfl)) (hw _ (List.mem_of_getElem? (i := 1) rfl)) (hw _ (List.mem_of_getElem? (i := 2) rfl)) e_3 (g := (mkF m 87 #[.val (.int fl), .val (.int sx), .val (.int xc), .val (.int xd), .val (.int (0 : Int32)), .val (.int (((fl.toUInt32 >>> ((1 : Int32) &&& 31).toUInt32).toInt32) &&& (3 : Int32))), .val (.ref b_3), .val .null, .unset, .unset, .unset] [])) rfl (hb hby at_87) (by decide) (by decide)
      obtain ⟨b_4, g_4⟩ : ∃ z, z = h_3.size := ⟨_, rfl⟩
      rw [← g_4] at A_4 D_4 st_4 U_4
      refine Go.st st_4 ?_
      have ne_b_3_b_4 : b_3 ≠ b_4 := Nat.ne_of_lt (Nat.lt_of_lt_of_eq V_b_3.lt g_4.symm)
      have gg_4 : n0 ≤ b_4 := Nat.le_trans z_3 (Nat.le_of_eq g_4.symm)
      have z_4 : n0 ≤ h_4.size := Nat.le_trans z_3 E_4.1
      have Un_4 : Unt h_4 b_4 := U_4
      have F_bytes_b_4 : Fld Z h_4 b_4 "com/example/plaingrant/plaingrant/server/http/Request$Body" "bytes" "[B" .null := D_4 (Or.inr (hw _ (List.mem_of_getElem? (i := 15) rfl))) (ty := (.array .byte)) (by decide)
      have F_refusal_b_4 : Fld Z h_4 b_4 "com/example/plaingrant/plaingrant/server/http/Request$Body" "refusal" "Lcom/example/plaingrant/plaingrant/server/http/ApiException;" .null := D_4 (Or.inr (hw _ (List.mem_of_getElem? (i := 17) rfl))) (ty := (.object "com/example/plaingrant/plaingrant/server/http/ApiException")) (by decide)
      show Go p e below s _ _ _ T_4 (mkF m 90 #[.val (.int fl), .val (.int sx), .val (.int xc), .val (.int xd), .val (.int (0 : Int32)), .val (.int (((fl.toUInt32 >>> ((1 : Int32) &&& 31).toUInt32).toInt32) &&& (3 : Int32))), .val (.ref b_3), .val .null, .unset, .unset, .unset] [(.ref b_4)])
      refine Go.st (fun _ => XS.dup X_4.here hx rfl (hb hby at_90) rfl rfl) ?_
      show Go p e below s _ _ _ T_4 (mkF m 91 #[.val (.int fl), .val (.int sx), .val (.int xc), .val (.int xd), .val (.int (0 : Int32)), .val (.int (((fl.toUInt32 >>> ((1 : Int32) &&& 31).toUInt32).toInt32) &&& (3 : Int32))), .val (.ref b_3), .val .null, .unset, .unset, .unset] [(.ref b_4), (.ref b_4)])
      refine Go.st (fun _ => XS.aload X_4.here hx rfl (hb hby at_91) rfl rfl) ?_
      show Go p e below s _ _ _ T_4 (mkF m 93 #[.val (.int fl), .val (.int sx), .val (.int xc), .val (.int xd), .val (.int (0 : Int32)), .val (.int (((fl.toUInt32 >>> ((1 : Int32) &&& 31).toUInt32).toInt32) &&& (3 : Int32))), .val (.ref b_3), .val .null, .unset, .unset, .unset] [(.ref b_3), (.ref b_4), (.ref b_4)])
      refine Go.st (fun _ => XS.aload X_4.here hx rfl (hb hby at_93) rfl rfl) ?_
      show Go p e below s _ _ _ T_4 (mkF m 95 #[.val (.int fl), .val (.int sx), .val (.int xc), .val (.int xd), .val (.int (0 : Int32)), .val (.int (((fl.toUInt32 >>> ((1 : Int32) &&& 31).toUInt32).toInt32) &&& (3 : Int32))), .val (.ref b_3), .val .null, .unset, .unset, .unset] [.null, (.ref b_3), (.ref b_4), (.ref b_4)])
      obtain ⟨_, _, ⟨T_5, L_5, kc_5, nc_5⟩, -, X_5, ⟨Lc_5, hQ_5, l_5, y_5, z_5⟩, st_5⟩ := X_4.specialBack hx (y := (⟨"com/example/plaingrant/plaingrant/server/http/Request$Body", "<init>", "([BLcom/example/plaingrant/plaingrant/server/http/ApiException;)V"⟩ : MethodName)) rfl hown (mvT hZ (hw _ (List.mem_of_getElem? (i := 3) rfl))) (mvT hZ (hw _ (List.mem_of_getElem? (i := 4) rfl))) (mvT hZ (hw _ (List.mem_of_getElem? (i := 5) rfl))) (by decide) (backOf (W := 1) (rmIrn l Z a0 hw [] b_4 b_3 h_4 n0 z_4 A_4 F_bytes_b_4 F_refusal_b_4 gg_4) hZ (hw _ (List.mem_of_getElem? (i := 5) rfl)) (hw _ (List.mem_of_getElem? (i := 2) rfl)) (by decide) (by decide)) (g := (mkF m 95 #[.val (.int fl), .val (.int sx), .val (.int xc), .val (.int xd), .val (.int (0 : Int32)), .val (.int (((fl.toUInt32 >>> ((1 : Int32) &&& 31).toUInt32).toInt32) &&& (3 : Int32))), .val (.ref b_3), .val .null, .unset, .unset, .unset] [.null, (.ref b_3), (.ref b_4), (.ref b_4)])) rfl (by rw [hml]; rfl) (Steps.refl _) (a := b_4) (argsL := [(.ref b_3), .null]) (rest := [(.ref b_4)]) (lenOf pd_5 rfl) rfl (by show 2 * 0 + _ ≤ _; exact Nat.le_of_eq rfl) (hb hby at_95) (fun _ _ => ⟨rfl, e_4, (by decide : 2 + 0 ≤ _), (by decide : 2 + 0 ≤ _)⟩)
      dsimp only [Pt.U, Pt.locs, Pt.cells, Pt.slots] at X_5 l_5 y_5 z_5 st_5 hQ_5
      obtain rfl : kc_5 = 2 := y_5
      obtain rfl : nc_5 = 2 := z_5
      obtain ⟨h_5, e_5⟩ : ∃ hh, T_5.heap = hh := ⟨_, rfl⟩
      rw [e_5] at hQ_5
      obtain ⟨rfl, N_5q, K_5, p_5_0, p_5_1, p_5_2⟩ := hQ_5
      have N_5 : Fr n0 L_5 := by rw [l_5]; exact Fr.app N0 N_5q
      refine Go.st (fun _ kk => st_5.trans kk) ?_
      have z_5q : n0 ≤ h_5.size := Nat.le_trans z_4 K_5.1
      have ns_5 : ∀ x ∈ ([b_4] : List Addr), ∀ cell : Cell, h_4[x]? = some cell → cell.vm.isStatics = false := (allS A_4.nostat all0)
      show Go p e below s _ _ _ T_5 (mkF m 98 #[.val (.int fl), .val (.int sx), .val (.int xc), .val (.int xd), .val (.int (0 : Int32)), .val (.int (((fl.toUInt32 >>> ((1 : Int32) &&& 31).toUInt32).toInt32) &&& (3 : Int32))), .val (.ref b_3), .val .null, .unset, .unset, .unset] [(.ref b_4)])
      refine Go.st (fun _ => XS.astore X_5.here hx rfl (hb hby at_98) rfl rfl (l' := #[.val (.int fl), .val (.int sx), .val (.int xc), .val (.int xd), .val (.int (0 : Int32)), .val (.int (((fl.toUInt32 >>> ((1 : Int32) &&& 31).toUInt32).toInt32) &&& (3 : Int32))), .val (.ref b_3), .val .null, .val (.ref b_4), .unset, .unset]) rfl) ?_
      show Go p e below s _ _ _ T_5 (mkF m 100 #[.val (.int fl), .val (.int sx), .val (.int xc), .val (.int xd), .val (.int (0 : Int32)), .val (.int (((fl.toUInt32 >>> ((1 : Int32) &&& 31).toUInt32).toInt32) &&& (3 : Int32))), .val (.ref b_3), .val .null, .val (.ref b_4), .unset, .unset] [])
      refine Go.st (fun _ => XS.aload X_5.here hx rfl (hb hby at_100) rfl rfl) ?_
      show Go p e below s _ _ _ T_5 (mkF m 102 #[.val (.int fl), .val (.int sx), .val (.int xc), .val (.int xd), .val (.int (0 : Int32)), .val (.int (((fl.toUInt32 >>> ((1 : Int32) &&& 31).toUInt32).toInt32) &&& (3 : Int32))), .val (.ref b_3), .val .null, .val (.ref b_4), .unset, .unset] [(.ref b_4)])
      obtain ⟨cq_6, kq_6, q_6a, q_6b, q_6c⟩ := isOf hZ e_5 p_5_0
      obtain ⟨_, _, ⟨T_6, L_6, kc_6, nc_6⟩, -, X_6, ⟨Lc_6, hQ_6, l_6, y_6, z_6⟩, st_6⟩ := X_5.virtualBack hx (y := (⟨"com/example/plaingrant/plaingrant/server/http/Request$Body", "whole", "()Z"⟩ : MethodName)) (z := (⟨"com/example/plaingrant/plaingrant/server/http/Request$Body", "whole", "()Z"⟩ : MethodName)) hown (mvT hZ (hw _ (List.mem_of_getElem? (i := 18) rfl))) (mvT hZ (hw _ (List.mem_of_getElem? (i := 19) rfl))) (notFace_of_selects (args := #[]) (mvT hZ (hw _ (List.mem_of_getElem? (i := 21) rfl)))) (mvT hZ (hw _ (List.mem_of_getElem? (i := 21) rfl))) (mvT hZ (hw _ (List.mem_of_getElem? (i := 20) rfl))) (by decide) (backOf (W := 0) (rmWn l Z a0 hw [] b_4 h_5 n0 z_5q p_5_2) hZ (hw _ (List.mem_of_getElem? (i := 22) rfl)) (hw _ (List.mem_of_getElem? (i := 2) rfl)) (by decide) (by decide)) q_6a q_6c (g := (mkF m 102 #[.val (.int fl), .val (.int sx), .val (.int xc), .val (.int xd), .val (.int (0 : Int32)), .val (.int (((fl.toUInt32 >>> ((1 : Int32) &&& 31).toUInt32).toInt32) &&& (3 : Int32))), .val (.ref b_3), .val .null, .val (.ref b_4), .unset, .unset] [(.ref b_4)])) rfl (by rw [hml]; rfl) (Steps.refl _) (argsL := []) (rest := []) (lenOf pd_6 rfl) rfl (by show 2 * 0 + _ ≤ _; exact Nat.le_of_eq rfl) (hb hby at_102) (fun _ _ => ⟨rfl, e_5, (by decide : 2 + 0 ≤ _), (by decide : 2 + 0 ≤ _)⟩)
      dsimp only [Pt.U, Pt.locs, Pt.cells, Pt.slots] at X_6 l_6 y_6 z_6 st_6 hQ_6
      obtain rfl : kc_6 = 2 := y_6
      obtain rfl : nc_6 = 2 := z_6
      obtain ⟨h_6, e_6⟩ : ∃ hh, T_6.heap = hh := ⟨_, rfl⟩
      rw [e_6] at hQ_6
      obtain ⟨rfl, N_6q, sm_6⟩ := hQ_6
      have N_6 : Fr n0 L_6 := by rw [l_6]; exact Fr.app N_5 N_6q
      refine Go.st (fun _ kk => st_6.trans kk) ?_
      rw [sm_6] at e_6
      show Go p e below s _ _ _ T_6 (mkF m 105 #[.val (.int fl), .val (.int sx), .val (.int xc), .val (.int xd), .val (.int (0 : Int32)), .val (.int (((fl.toUInt32 >>> ((1 : Int32) &&& 31).toUInt32).toInt32) &&& (3 : Int32))), .val (.ref b_3), .val .null, .val (.ref b_4), .unset, .unset] [(.int (1 : Int32))])
      refine Go.st (fun _ => XS.istore X_6.here hx rfl (hb hby at_105) rfl (l' := #[.val (.int fl), .val (.int sx), .val (.int xc), .val (.int xd), .val (.int (0 : Int32)), .val (.int (((fl.toUInt32 >>> ((1 : Int32) &&& 31).toUInt32).toInt32) &&& (3 : Int32))), .val (.ref b_3), .val .null, .val (.ref b_4), .val (.int (1 : Int32)), .unset]) rfl) ?_
      show Go p e below s _ _ _ T_6 (mkF m 107 #[.val (.int fl), .val (.int sx), .val (.int xc), .val (.int xd), .val (.int (0 : Int32)), .val (.int (((fl.toUInt32 >>> ((1 : Int32) &&& 31).toUInt32).toInt32) &&& (3 : Int32))), .val (.ref b_3), .val .null, .val (.ref b_4), .val (.int (1 : Int32)), .unset] [])
      refine Go.st (fun _ => XS.iload X_6.here hx rfl (hb hby at_107) rfl) ?_
      show Go p e below s _ _ _ T_6 (mkF m 109 #[.val (.int fl), .val (.int sx), .val (.int xc), .val (.int xd), .val (.int (0 : Int32)), .val (.int (((fl.toUInt32 >>> ((1 : Int32) &&& 31).toUInt32).toInt32) &&& (3 : Int32))), .val (.ref b_3), .val .null, .val (.ref b_4), .val (.int (1 : Int32)), .unset] [(.int (1 : Int32))])
      refine Go.st (fun _ => XS.iload X_6.here hx rfl (hb hby at_109) rfl) ?_
      show Go p e below s _ _ _ T_6 (mkF m 111 #[.val (.int fl), .val (.int sx), .val (.int xc), .val (.int xd), .val (.int (0 : Int32)), .val (.int (((fl.toUInt32 >>> ((1 : Int32) &&& 31).toUInt32).toInt32) &&& (3 : Int32))), .val (.ref b_3), .val .null, .val (.ref b_4), .val (.int (1 : Int32)), .unset] [(.int (0 : Int32)), (.int (1 : Int32))])
      refine Go.st (fun _ => XS.icmpYes X_6.here hx rfl (pc0 := 111) (pc' := 116) rfl (hb hby at_111) rfl (feq (by decide : ¬ ((1 : Int32) = (0 : Int32)))).2 (by decide) (by decide)) ?_
      show Go p e below s _ _ _ T_6 (mkF m 116 #[.val (.int fl), .val (.int sx), .val (.int xc), .val (.int xd), .val (.int (0 : Int32)), .val (.int (((fl.toUInt32 >>> ((1 : Int32) &&& 31).toUInt32).toInt32) &&& (3 : Int32))), .val (.ref b_3), .val .null, .val (.ref b_4), .val (.int (1 : Int32)), .unset] [])
      refine Go.st (fun _ => XS.iload X_6.here hx rfl (hb hby at_116) rfl) ?_
      show Go p e below s _ _ _ T_6 (mkF m 118 #[.val (.int fl), .val (.int sx), .val (.int xc), .val (.int xd), .val (.int (0 : Int32)), .val (.int (((fl.toUInt32 >>> ((1 : Int32) &&& 31).toUInt32).toInt32) &&& (3 : Int32))), .val (.ref b_3), .val .null, .val (.ref b_4), .val (.int (1 : Int32)), .unset] [(.int (1 : Int32))])
      refine Go.st (fun _ => XS.ifNo X_6.here hx rfl (hb hby at_118) rfl ((if0 _ _).trans (feq (by decide : ¬ ((1 : Int32) = (0 : Int32)))).1)) ?_
      show Go p e below s _ _ _ T_6 (mkF m 121 #[.val (.int fl), .val (.int sx), .val (.int xc), .val (.int xd), .val (.int (0 : Int32)), .val (.int (((fl.toUInt32 >>> ((1 : Int32) &&& 31).toUInt32).toInt32) &&& (3 : Int32))), .val (.ref b_3), .val .null, .val (.ref b_4), .val (.int (1 : Int32)), .unset] [])
      refine Go.st (fun _ => XS.aload X_6.here hx rfl (hb hby at_121) rfl rfl) ?_
      show Go p e below s _ _ _ T_6 (mkF m 123 #[.val (.int fl), .val (.int sx), .val (.int xc), .val (.int xd), .val (.int (0 : Int32)), .val (.int (((fl.toUInt32 >>> ((1 : Int32) &&& 31).toUInt32).toInt32) &&& (3 : Int32))), .val (.ref b_3), .val .null, .val (.ref b_4), .val (.int (1 : Int32)), .unset] [(.ref b_4)])
      obtain ⟨cq_7, kq_7, q_7a, q_7b, q_7c⟩ := isOf hZ e_6 p_5_0
      obtain ⟨_, _, ⟨T_7, L_7, kc_7, nc_7⟩, -, X_7, ⟨Lc_7, hQ_7, l_7, y_7, z_7⟩, st_7⟩ := X_6.virtualBack hx (y := (⟨"com/example/plaingrant/plaingrant/server/http/Request$Body", "take", "()[B"⟩ : MethodName)) (z := (⟨"com/example/plaingrant/plaingrant/server/http/Request$Body", "take", "()[B"⟩ : MethodName)) hown (mvT hZ (hw _ (List.mem_of_getElem? (i := 23) rfl))) (mvT hZ (hw _ (List.mem_of_getElem? (i := 24) rfl))) (notFace_of_selects (args := #[]) (mvT hZ (hw _ (List.mem_of_getElem? (i := 26) rfl)))) (mvT hZ (hw _ (List.mem_of_getElem? (i := 26) rfl))) (mvT hZ (hw _ (List.mem_of_getElem? (i := 25) rfl))) (by decide) (backOf (W := 0) (rmTr l Z a0 hw [] b_4 b_3 h_5 n0 z_5q p_5_1 p_5_2) hZ (hw _ (List.mem_of_getElem? (i := 27) rfl)) (hw _ (List.mem_of_getElem? (i := 2) rfl)) (by decide) (by decide)) q_7a q_7c (g := (mkF m 123 #[.val (.int fl), .val (.int sx), .val (.int xc), .val (.int xd), .val (.int (0 : Int32)), .val (.int (((fl.toUInt32 >>> ((1 : Int32) &&& 31).toUInt32).toInt32) &&& (3 : Int32))), .val (.ref b_3), .val .null, .val (.ref b_4), .val (.int (1 : Int32)), .unset] [(.ref b_4)])) rfl (by rw [hml]; rfl) (Steps.refl _) (argsL := []) (rest := []) (lenOf pd_7 rfl) rfl (by show 2 * 0 + _ ≤ _; exact Nat.le_of_eq rfl) (hb hby at_123) (fun _ _ => ⟨rfl, e_6, (by decide : 2 + 0 ≤ _), (by decide : 2 + 0 ≤ _)⟩)
      dsimp only [Pt.U, Pt.locs, Pt.cells, Pt.slots] at X_7 l_7 y_7 z_7 st_7 hQ_7
      obtain rfl : kc_7 = 2 := y_7
      obtain rfl : nc_7 = 2 := z_7
      obtain ⟨h_7, e_7⟩ : ∃ hh, T_7.heap = hh := ⟨_, rfl⟩
      rw [e_7] at hQ_7
      obtain ⟨rfl, N_7q, sm_7⟩ := hQ_7
      have N_7 : Fr n0 L_7 := by rw [l_7]; exact Fr.app N_6 N_7q
      refine Go.st (fun _ kk => st_7.trans kk) ?_
      rw [sm_7] at e_7
      show Go p e below s _ _ _ T_7 (mkF m 126 #[.val (.int fl), .val (.int sx), .val (.int xc), .val (.int xd), .val (.int (0 : Int32)), .val (.int (((fl.toUInt32 >>> ((1 : Int32) &&& 31).toUInt32).toInt32) &&& (3 : Int32))), .val (.ref b_3), .val .null, .val (.ref b_4), .val (.int (1 : Int32)), .unset] [(.ref b_3)])
      refine Go.st (fun _ => XS.astore X_7.here hx rfl (hb hby at_126) rfl rfl (l' := #[.val (.int fl), .val (.int sx), .val (.int xc), .val (.int xd), .val (.int (0 : Int32)), .val (.int (((fl.toUInt32 >>> ((1 : Int32) &&& 31).toUInt32).toInt32) &&& (3 : Int32))), .val (.ref b_3), .val .null, .val (.ref b_4), .val (.int (1 : Int32)), .val (.ref b_3)]) rfl) ?_
      show Go p e below s _ _ _ T_7 (mkF m 128 #[.val (.int fl), .val (.int sx), .val (.int xc), .val (.int xd), .val (.int (0 : Int32)), .val (.int (((fl.toUInt32 >>> ((1 : Int32) &&& 31).toUInt32).toInt32) &&& (3 : Int32))), .val (.ref b_3), .val .null, .val (.ref b_4), .val (.int (1 : Int32)), .val (.ref b_3)] [])
      refine Go.st (fun _ => XS.aload X_7.here hx rfl (hb hby at_128) rfl rfl) ?_
      show Go p e below s _ _ _ T_7 (mkF m 130 #[.val (.int fl), .val (.int sx), .val (.int xc), .val (.int xd), .val (.int (0 : Int32)), .val (.int (((fl.toUInt32 >>> ((1 : Int32) &&& 31).toUInt32).toInt32) &&& (3 : Int32))), .val (.ref b_3), .val .null, .val (.ref b_4), .val (.int (1 : Int32)), .val (.ref b_3)] [(.ref b_3)])
      refine Go.st (fun _ => XS.aload X_7.here hx rfl (hb hby at_130) rfl rfl) ?_
      show Go p e below s _ _ _ T_7 (mkF m 132 #[.val (.int fl), .val (.int sx), .val (.int xc), .val (.int xd), .val (.int (0 : Int32)), .val (.int (((fl.toUInt32 >>> ((1 : Int32) &&& 31).toUInt32).toInt32) &&& (3 : Int32))), .val (.ref b_3), .val .null, .val (.ref b_4), .val (.int (1 : Int32)), .val (.ref b_3)] [(.ref b_3), (.ref b_3)])
      refine Go.st (fun _ => Jvm.RoadKit.acmp (g := (mkF m 132 #[.val (.int fl), .val (.int sx), .val (.int xc), .val (.int xd), .val (.int (0 : Int32)), .val (.int (((fl.toUInt32 >>> ((1 : Int32) &&& 31).toUInt32).toInt32) &&& (3 : Int32))), .val (.ref b_3), .val .null, .val (.ref b_4), .val (.int (1 : Int32)), .val (.ref b_3)] [(.ref b_3), (.ref b_3)])) X_7 hx rfl rfl rfl (pc0 := 132) (pc' := 135) (same := true) rfl (hb hby at_132) rfl (decide_eq_true rfl) (by decide) (by decide)) ?_
      show Go p e below s _ _ _ T_7 (mkF m 135 #[.val (.int fl), .val (.int sx), .val (.int xc), .val (.int xd), .val (.int (0 : Int32)), .val (.int (((fl.toUInt32 >>> ((1 : Int32) &&& 31).toUInt32).toInt32) &&& (3 : Int32))), .val (.ref b_3), .val .null, .val (.ref b_4), .val (.int (1 : Int32)), .val (.ref b_3)] [])
      refine Go.st (fun _ => XS.iconst X_7.here hx rfl (hb hby at_135)) ?_
      show Go p e below s _ _ _ T_7 (mkF m 136 #[.val (.int fl), .val (.int sx), .val (.int xc), .val (.int xd), .val (.int (0 : Int32)), .val (.int (((fl.toUInt32 >>> ((1 : Int32) &&& 31).toUInt32).toInt32) &&& (3 : Int32))), .val (.ref b_3), .val .null, .val (.ref b_4), .val (.int (1 : Int32)), .val (.ref b_3)] [(.int (1 : Int32))])
      refine Go.st (fun _ => XS.goto X_7.here hx rfl (pc0 := 136) (pc' := 140) rfl (hb hby at_136) (by decide) (by decide)) ?_
      show Go p e below s _ _ _ T_7 (mkF m 140 #[.val (.int fl), .val (.int sx), .val (.int xc), .val (.int xd), .val (.int (0 : Int32)), .val (.int (((fl.toUInt32 >>> ((1 : Int32) &&& 31).toUInt32).toInt32) &&& (3 : Int32))), .val (.ref b_3), .val .null, .val (.ref b_4), .val (.int (1 : Int32)), .val (.ref b_3)] [(.int (1 : Int32))])
      exact Go.retZ X_7 hx hlk Bd.returns (hb hby at_140) rfl (by rw [e_7]; exact ⟨rfl, N_7⟩) (by decide) (by decide)
    · refine Go.st (fun _ => XS.icmpYes X0.here hx rfl (pc0 := 26) (pc' := 37) rfl (hb hby at_26) rfl (feq hc_2).2 (by decide) (by decide)) ?_
      show Go p e below s _ _ _ s₁ (mkF m 37 #[.val (.int fl), .val (.int sx), .val (.int xc), .val (.int xd), .val (.int (0 : Int32)), .val (.int (((fl.toUInt32 >>> ((1 : Int32) &&& 31).toUInt32).toInt32) &&& (3 : Int32))), .val .null, .unset, .unset, .unset, .unset] [])
      refine Go.st (fun _ => XS.iload X0.here hx rfl (hb hby at_37) rfl) ?_
      show Go p e below s _ _ _ s₁ (mkF m 39 #[.val (.int fl), .val (.int sx), .val (.int xc), .val (.int xd), .val (.int (0 : Int32)), .val (.int (((fl.toUInt32 >>> ((1 : Int32) &&& 31).toUInt32).toInt32) &&& (3 : Int32))), .val .null, .unset, .unset, .unset, .unset] [(.int (((fl.toUInt32 >>> ((1 : Int32) &&& 31).toUInt32).toInt32) &&& (3 : Int32)))])
      refine Go.st (fun _ => XS.iconst X0.here hx rfl (hb hby at_39)) ?_
      show Go p e below s _ _ _ s₁ (mkF m 40 #[.val (.int fl), .val (.int sx), .val (.int xc), .val (.int xd), .val (.int (0 : Int32)), .val (.int (((fl.toUInt32 >>> ((1 : Int32) &&& 31).toUInt32).toInt32) &&& (3 : Int32))), .val .null, .unset, .unset, .unset, .unset] [(.int (2 : Int32)), (.int (((fl.toUInt32 >>> ((1 : Int32) &&& 31).toUInt32).toInt32) &&& (3 : Int32)))])
      by_cases hc_8 : (((fl.toUInt32 >>> ((1 : Int32) &&& 31).toUInt32).toInt32) &&& (3 : Int32)) < (2 : Int32)
      · refine Go.st (fun _ => XS.icmpYes X0.here hx rfl (pc0 := 40) (pc' := 60) rfl (hb hby at_40) rfl (tlt hc_8).1 (by decide) (by decide)) ?_
        show Go p e below s _ _ _ s₁ (mkF m 60 #[.val (.int fl), .val (.int sx), .val (.int xc), .val (.int xd), .val (.int (0 : Int32)), .val (.int (((fl.toUInt32 >>> ((1 : Int32) &&& 31).toUInt32).toInt32) &&& (3 : Int32))), .val .null, .unset, .unset, .unset, .unset] [])
        refine Go.st (fun _ => XS.aconstNull X0.here hx rfl (hb hby at_60)) ?_
        show Go p e below s _ _ _ s₁ (mkF m 61 #[.val (.int fl), .val (.int sx), .val (.int xc), .val (.int xd), .val (.int (0 : Int32)), .val (.int (((fl.toUInt32 >>> ((1 : Int32) &&& 31).toUInt32).toInt32) &&& (3 : Int32))), .val .null, .unset, .unset, .unset, .unset] [.null])
        refine Go.st (fun _ => XS.astore X0.here hx rfl (hb hby at_61) rfl rfl (l' := #[.val (.int fl), .val (.int sx), .val (.int xc), .val (.int xd), .val (.int (0 : Int32)), .val (.int (((fl.toUInt32 >>> ((1 : Int32) &&& 31).toUInt32).toInt32) &&& (3 : Int32))), .val .null, .val .null, .unset, .unset, .unset]) rfl) ?_
        show Go p e below s _ _ _ s₁ (mkF m 63 #[.val (.int fl), .val (.int sx), .val (.int xc), .val (.int xd), .val (.int (0 : Int32)), .val (.int (((fl.toUInt32 >>> ((1 : Int32) &&& 31).toUInt32).toInt32) &&& (3 : Int32))), .val .null, .val .null, .unset, .unset, .unset] [])
        refine Go.st (fun _ => XS.iload X0.here hx rfl (hb hby at_63) rfl) ?_
        show Go p e below s _ _ _ s₁ (mkF m 65 #[.val (.int fl), .val (.int sx), .val (.int xc), .val (.int xd), .val (.int (0 : Int32)), .val (.int (((fl.toUInt32 >>> ((1 : Int32) &&& 31).toUInt32).toInt32) &&& (3 : Int32))), .val .null, .val .null, .unset, .unset, .unset] [(.int (0 : Int32))])
        refine Go.st (fun _ => XS.ifYes X0.here hx rfl (pc0 := 65) (pc' := 87) rfl (hb hby at_65) rfl ((if0 _ _).trans (teq (by decide : (0 : Int32) = (0 : Int32))).1) (by decide) (by decide)) ?_
        show Go p e below s _ _ _ s₁ (mkF m 87 #[.val (.int fl), .val (.int sx), .val (.int xc), .val (.int xd), .val (.int (0 : Int32)), .val (.int (((fl.toUInt32 >>> ((1 : Int32) &&& 31).toUInt32).toInt32) &&& (3 : Int32))), .val .null, .val .null, .unset, .unset, .unset] [])
        obtain ⟨T_9, h_9, X_9, e_9, E_9, A_9, D_9, U_9, st_9⟩ := newO X0 hx hZ hown (hw _ (List.mem_of_getElem? (i := 0) rfl)) (hw _ (List.mem_of_getElem? (i := 1) rfl)) (hw _ (List.mem_of_getElem? (i := 2) rfl)) e0 (g := (mkF m 87 #[.val (.int fl), .val (.int sx), .val (.int xc), .val (.int xd), .val (.int (0 : Int32)), .val (.int (((fl.toUInt32 >>> ((1 : Int32) &&& 31).toUInt32).toInt32) &&& (3 : Int32))), .val .null, .val .null, .unset, .unset, .unset] [])) rfl (hb hby at_87) (by decide) (by decide)
        obtain ⟨b_9, g_9⟩ : ∃ z, z = h0.size := ⟨_, rfl⟩
        rw [← g_9] at A_9 D_9 st_9 U_9
        refine Go.st st_9 ?_
        have gg_9 : n0 ≤ b_9 := Nat.le_trans Z0 (Nat.le_of_eq g_9.symm)
        have z_9 : n0 ≤ h_9.size := Nat.le_trans Z0 E_9.1
        have Un_9 : Unt h_9 b_9 := U_9
        have F_bytes_b_9 : Fld Z h_9 b_9 "com/example/plaingrant/plaingrant/server/http/Request$Body" "bytes" "[B" .null := D_9 (Or.inr (hw _ (List.mem_of_getElem? (i := 15) rfl))) (ty := (.array .byte)) (by decide)
        have F_refusal_b_9 : Fld Z h_9 b_9 "com/example/plaingrant/plaingrant/server/http/Request$Body" "refusal" "Lcom/example/plaingrant/plaingrant/server/http/ApiException;" .null := D_9 (Or.inr (hw _ (List.mem_of_getElem? (i := 17) rfl))) (ty := (.object "com/example/plaingrant/plaingrant/server/http/ApiException")) (by decide)
        show Go p e below s _ _ _ T_9 (mkF m 90 #[.val (.int fl), .val (.int sx), .val (.int xc), .val (.int xd), .val (.int (0 : Int32)), .val (.int (((fl.toUInt32 >>> ((1 : Int32) &&& 31).toUInt32).toInt32) &&& (3 : Int32))), .val .null, .val .null, .unset, .unset, .unset] [(.ref b_9)])
        refine Go.st (fun _ => XS.dup X_9.here hx rfl (hb hby at_90) rfl rfl) ?_
        show Go p e below s _ _ _ T_9 (mkF m 91 #[.val (.int fl), .val (.int sx), .val (.int xc), .val (.int xd), .val (.int (0 : Int32)), .val (.int (((fl.toUInt32 >>> ((1 : Int32) &&& 31).toUInt32).toInt32) &&& (3 : Int32))), .val .null, .val .null, .unset, .unset, .unset] [(.ref b_9), (.ref b_9)])
        refine Go.st (fun _ => XS.aload X_9.here hx rfl (hb hby at_91) rfl rfl) ?_
        show Go p e below s _ _ _ T_9 (mkF m 93 #[.val (.int fl), .val (.int sx), .val (.int xc), .val (.int xd), .val (.int (0 : Int32)), .val (.int (((fl.toUInt32 >>> ((1 : Int32) &&& 31).toUInt32).toInt32) &&& (3 : Int32))), .val .null, .val .null, .unset, .unset, .unset] [.null, (.ref b_9), (.ref b_9)])
        refine Go.st (fun _ => XS.aload X_9.here hx rfl (hb hby at_93) rfl rfl) ?_
        show Go p e below s _ _ _ T_9 (mkF m 95 #[.val (.int fl), .val (.int sx), .val (.int xc), .val (.int xd), .val (.int (0 : Int32)), .val (.int (((fl.toUInt32 >>> ((1 : Int32) &&& 31).toUInt32).toInt32) &&& (3 : Int32))), .val .null, .val .null, .unset, .unset, .unset] [.null, .null, (.ref b_9), (.ref b_9)])
        obtain ⟨_, _, ⟨T_10, L_10, kc_10, nc_10⟩, -, X_10, ⟨Lc_10, hQ_10, l_10, y_10, z_10⟩, st_10⟩ := X_9.specialBack hx (y := (⟨"com/example/plaingrant/plaingrant/server/http/Request$Body", "<init>", "([BLcom/example/plaingrant/plaingrant/server/http/ApiException;)V"⟩ : MethodName)) rfl hown (mvT hZ (hw _ (List.mem_of_getElem? (i := 3) rfl))) (mvT hZ (hw _ (List.mem_of_getElem? (i := 4) rfl))) (mvT hZ (hw _ (List.mem_of_getElem? (i := 5) rfl))) (by decide) (backOf (W := 1) (rmInn l Z a0 hw [] b_9 h_9 n0 z_9 A_9 F_bytes_b_9 F_refusal_b_9 gg_9) hZ (hw _ (List.mem_of_getElem? (i := 5) rfl)) (hw _ (List.mem_of_getElem? (i := 2) rfl)) (by decide) (by decide)) (g := (mkF m 95 #[.val (.int fl), .val (.int sx), .val (.int xc), .val (.int xd), .val (.int (0 : Int32)), .val (.int (((fl.toUInt32 >>> ((1 : Int32) &&& 31).toUInt32).toInt32) &&& (3 : Int32))), .val .null, .val .null, .unset, .unset, .unset] [.null, .null, (.ref b_9), (.ref b_9)])) rfl (by rw [hml]; rfl) (Steps.refl _) (a := b_9) (argsL := [.null, .null]) (rest := [(.ref b_9)]) (lenOf pd_5 rfl) rfl (by show 2 * 0 + _ ≤ _; exact Nat.le_of_eq rfl) (hb hby at_95) (fun _ _ => ⟨rfl, e_9, (by decide : 1 + 0 ≤ _), (by decide : 2 + 0 ≤ _)⟩)
        dsimp only [Pt.U, Pt.locs, Pt.cells, Pt.slots] at X_10 l_10 y_10 z_10 st_10 hQ_10
        obtain rfl : kc_10 = 1 := y_10
        obtain rfl : nc_10 = 2 := z_10
        obtain ⟨h_10, e_10⟩ : ∃ hh, T_10.heap = hh := ⟨_, rfl⟩
        rw [e_10] at hQ_10
        obtain ⟨rfl, N_10q, K_10, p_10_0, p_10_1, p_10_2⟩ := hQ_10
        have N_10 : Fr n0 L_10 := by rw [l_10]; exact Fr.app N0 N_10q
        refine Go.st (fun _ kk => st_10.trans kk) ?_
        have z_10q : n0 ≤ h_10.size := Nat.le_trans z_9 K_10.1
        have ns_10 : ∀ x ∈ ([b_9] : List Addr), ∀ cell : Cell, h_9[x]? = some cell → cell.vm.isStatics = false := (allS A_9.nostat all0)
        show Go p e below s _ _ _ T_10 (mkF m 98 #[.val (.int fl), .val (.int sx), .val (.int xc), .val (.int xd), .val (.int (0 : Int32)), .val (.int (((fl.toUInt32 >>> ((1 : Int32) &&& 31).toUInt32).toInt32) &&& (3 : Int32))), .val .null, .val .null, .unset, .unset, .unset] [(.ref b_9)])
        refine Go.st (fun _ => XS.astore X_10.here hx rfl (hb hby at_98) rfl rfl (l' := #[.val (.int fl), .val (.int sx), .val (.int xc), .val (.int xd), .val (.int (0 : Int32)), .val (.int (((fl.toUInt32 >>> ((1 : Int32) &&& 31).toUInt32).toInt32) &&& (3 : Int32))), .val .null, .val .null, .val (.ref b_9), .unset, .unset]) rfl) ?_
        show Go p e below s _ _ _ T_10 (mkF m 100 #[.val (.int fl), .val (.int sx), .val (.int xc), .val (.int xd), .val (.int (0 : Int32)), .val (.int (((fl.toUInt32 >>> ((1 : Int32) &&& 31).toUInt32).toInt32) &&& (3 : Int32))), .val .null, .val .null, .val (.ref b_9), .unset, .unset] [])
        refine Go.st (fun _ => XS.aload X_10.here hx rfl (hb hby at_100) rfl rfl) ?_
        show Go p e below s _ _ _ T_10 (mkF m 102 #[.val (.int fl), .val (.int sx), .val (.int xc), .val (.int xd), .val (.int (0 : Int32)), .val (.int (((fl.toUInt32 >>> ((1 : Int32) &&& 31).toUInt32).toInt32) &&& (3 : Int32))), .val .null, .val .null, .val (.ref b_9), .unset, .unset] [(.ref b_9)])
        obtain ⟨cq_11, kq_11, q_11a, q_11b, q_11c⟩ := isOf hZ e_10 p_10_0
        obtain ⟨_, _, ⟨T_11, L_11, kc_11, nc_11⟩, -, X_11, ⟨Lc_11, hQ_11, l_11, y_11, z_11⟩, st_11⟩ := X_10.virtualBack hx (y := (⟨"com/example/plaingrant/plaingrant/server/http/Request$Body", "whole", "()Z"⟩ : MethodName)) (z := (⟨"com/example/plaingrant/plaingrant/server/http/Request$Body", "whole", "()Z"⟩ : MethodName)) hown (mvT hZ (hw _ (List.mem_of_getElem? (i := 18) rfl))) (mvT hZ (hw _ (List.mem_of_getElem? (i := 19) rfl))) (notFace_of_selects (args := #[]) (mvT hZ (hw _ (List.mem_of_getElem? (i := 21) rfl)))) (mvT hZ (hw _ (List.mem_of_getElem? (i := 21) rfl))) (mvT hZ (hw _ (List.mem_of_getElem? (i := 20) rfl))) (by decide) (backOf (W := 0) (rmWn l Z a0 hw [] b_9 h_10 n0 z_10q p_10_2) hZ (hw _ (List.mem_of_getElem? (i := 22) rfl)) (hw _ (List.mem_of_getElem? (i := 2) rfl)) (by decide) (by decide)) q_11a q_11c (g := (mkF m 102 #[.val (.int fl), .val (.int sx), .val (.int xc), .val (.int xd), .val (.int (0 : Int32)), .val (.int (((fl.toUInt32 >>> ((1 : Int32) &&& 31).toUInt32).toInt32) &&& (3 : Int32))), .val .null, .val .null, .val (.ref b_9), .unset, .unset] [(.ref b_9)])) rfl (by rw [hml]; rfl) (Steps.refl _) (argsL := []) (rest := []) (lenOf pd_6 rfl) rfl (by show 2 * 0 + _ ≤ _; exact Nat.le_of_eq rfl) (hb hby at_102) (fun _ _ => ⟨rfl, e_10, (by decide : 1 + 0 ≤ _), (by decide : 2 + 0 ≤ _)⟩)
        dsimp only [Pt.U, Pt.locs, Pt.cells, Pt.slots] at X_11 l_11 y_11 z_11 st_11 hQ_11
        obtain rfl : kc_11 = 1 := y_11
        obtain rfl : nc_11 = 2 := z_11
        obtain ⟨h_11, e_11⟩ : ∃ hh, T_11.heap = hh := ⟨_, rfl⟩
        rw [e_11] at hQ_11
        obtain ⟨rfl, N_11q, sm_11⟩ := hQ_11
        have N_11 : Fr n0 L_11 := by rw [l_11]; exact Fr.app N_10 N_11q
        refine Go.st (fun _ kk => st_11.trans kk) ?_
        rw [sm_11] at e_11
        show Go p e below s _ _ _ T_11 (mkF m 105 #[.val (.int fl), .val (.int sx), .val (.int xc), .val (.int xd), .val (.int (0 : Int32)), .val (.int (((fl.toUInt32 >>> ((1 : Int32) &&& 31).toUInt32).toInt32) &&& (3 : Int32))), .val .null, .val .null, .val (.ref b_9), .unset, .unset] [(.int (1 : Int32))])
        refine Go.st (fun _ => XS.istore X_11.here hx rfl (hb hby at_105) rfl (l' := #[.val (.int fl), .val (.int sx), .val (.int xc), .val (.int xd), .val (.int (0 : Int32)), .val (.int (((fl.toUInt32 >>> ((1 : Int32) &&& 31).toUInt32).toInt32) &&& (3 : Int32))), .val .null, .val .null, .val (.ref b_9), .val (.int (1 : Int32)), .unset]) rfl) ?_
        show Go p e below s _ _ _ T_11 (mkF m 107 #[.val (.int fl), .val (.int sx), .val (.int xc), .val (.int xd), .val (.int (0 : Int32)), .val (.int (((fl.toUInt32 >>> ((1 : Int32) &&& 31).toUInt32).toInt32) &&& (3 : Int32))), .val .null, .val .null, .val (.ref b_9), .val (.int (1 : Int32)), .unset] [])
        refine Go.st (fun _ => XS.iload X_11.here hx rfl (hb hby at_107) rfl) ?_
        show Go p e below s _ _ _ T_11 (mkF m 109 #[.val (.int fl), .val (.int sx), .val (.int xc), .val (.int xd), .val (.int (0 : Int32)), .val (.int (((fl.toUInt32 >>> ((1 : Int32) &&& 31).toUInt32).toInt32) &&& (3 : Int32))), .val .null, .val .null, .val (.ref b_9), .val (.int (1 : Int32)), .unset] [(.int (1 : Int32))])
        refine Go.st (fun _ => XS.iload X_11.here hx rfl (hb hby at_109) rfl) ?_
        show Go p e below s _ _ _ T_11 (mkF m 111 #[.val (.int fl), .val (.int sx), .val (.int xc), .val (.int xd), .val (.int (0 : Int32)), .val (.int (((fl.toUInt32 >>> ((1 : Int32) &&& 31).toUInt32).toInt32) &&& (3 : Int32))), .val .null, .val .null, .val (.ref b_9), .val (.int (1 : Int32)), .unset] [(.int (0 : Int32)), (.int (1 : Int32))])
        refine Go.st (fun _ => XS.icmpYes X_11.here hx rfl (pc0 := 111) (pc' := 116) rfl (hb hby at_111) rfl (feq (by decide : ¬ ((1 : Int32) = (0 : Int32)))).2 (by decide) (by decide)) ?_
        show Go p e below s _ _ _ T_11 (mkF m 116 #[.val (.int fl), .val (.int sx), .val (.int xc), .val (.int xd), .val (.int (0 : Int32)), .val (.int (((fl.toUInt32 >>> ((1 : Int32) &&& 31).toUInt32).toInt32) &&& (3 : Int32))), .val .null, .val .null, .val (.ref b_9), .val (.int (1 : Int32)), .unset] [])
        refine Go.st (fun _ => XS.iload X_11.here hx rfl (hb hby at_116) rfl) ?_
        show Go p e below s _ _ _ T_11 (mkF m 118 #[.val (.int fl), .val (.int sx), .val (.int xc), .val (.int xd), .val (.int (0 : Int32)), .val (.int (((fl.toUInt32 >>> ((1 : Int32) &&& 31).toUInt32).toInt32) &&& (3 : Int32))), .val .null, .val .null, .val (.ref b_9), .val (.int (1 : Int32)), .unset] [(.int (1 : Int32))])
        refine Go.st (fun _ => XS.ifNo X_11.here hx rfl (hb hby at_118) rfl ((if0 _ _).trans (feq (by decide : ¬ ((1 : Int32) = (0 : Int32)))).1)) ?_
        show Go p e below s _ _ _ T_11 (mkF m 121 #[.val (.int fl), .val (.int sx), .val (.int xc), .val (.int xd), .val (.int (0 : Int32)), .val (.int (((fl.toUInt32 >>> ((1 : Int32) &&& 31).toUInt32).toInt32) &&& (3 : Int32))), .val .null, .val .null, .val (.ref b_9), .val (.int (1 : Int32)), .unset] [])
        refine Go.st (fun _ => XS.aload X_11.here hx rfl (hb hby at_121) rfl rfl) ?_
        show Go p e below s _ _ _ T_11 (mkF m 123 #[.val (.int fl), .val (.int sx), .val (.int xc), .val (.int xd), .val (.int (0 : Int32)), .val (.int (((fl.toUInt32 >>> ((1 : Int32) &&& 31).toUInt32).toInt32) &&& (3 : Int32))), .val .null, .val .null, .val (.ref b_9), .val (.int (1 : Int32)), .unset] [(.ref b_9)])
        obtain ⟨cq_12, kq_12, q_12a, q_12b, q_12c⟩ := isOf hZ e_11 p_10_0
        obtain ⟨_, _, ⟨T_12, L_12, kc_12, nc_12⟩, -, X_12, ⟨Lc_12, hQ_12, l_12, y_12, z_12⟩, st_12⟩ := X_11.virtualBack hx (y := (⟨"com/example/plaingrant/plaingrant/server/http/Request$Body", "take", "()[B"⟩ : MethodName)) (z := (⟨"com/example/plaingrant/plaingrant/server/http/Request$Body", "take", "()[B"⟩ : MethodName)) hown (mvT hZ (hw _ (List.mem_of_getElem? (i := 23) rfl))) (mvT hZ (hw _ (List.mem_of_getElem? (i := 24) rfl))) (notFace_of_selects (args := #[]) (mvT hZ (hw _ (List.mem_of_getElem? (i := 26) rfl)))) (mvT hZ (hw _ (List.mem_of_getElem? (i := 26) rfl))) (mvT hZ (hw _ (List.mem_of_getElem? (i := 25) rfl))) (by decide) (backOf (W := 0) (rmTn l Z a0 hw [] b_9 h_10 n0 z_10q p_10_1 p_10_2) hZ (hw _ (List.mem_of_getElem? (i := 27) rfl)) (hw _ (List.mem_of_getElem? (i := 2) rfl)) (by decide) (by decide)) q_12a q_12c (g := (mkF m 123 #[.val (.int fl), .val (.int sx), .val (.int xc), .val (.int xd), .val (.int (0 : Int32)), .val (.int (((fl.toUInt32 >>> ((1 : Int32) &&& 31).toUInt32).toInt32) &&& (3 : Int32))), .val .null, .val .null, .val (.ref b_9), .val (.int (1 : Int32)), .unset] [(.ref b_9)])) rfl (by rw [hml]; rfl) (Steps.refl _) (argsL := []) (rest := []) (lenOf pd_7 rfl) rfl (by show 2 * 0 + _ ≤ _; exact Nat.le_of_eq rfl) (hb hby at_123) (fun _ _ => ⟨rfl, e_11, (by decide : 1 + 0 ≤ _), (by decide : 2 + 0 ≤ _)⟩)
        dsimp only [Pt.U, Pt.locs, Pt.cells, Pt.slots] at X_12 l_12 y_12 z_12 st_12 hQ_12
        obtain rfl : kc_12 = 1 := y_12
        obtain rfl : nc_12 = 2 := z_12
        obtain ⟨h_12, e_12⟩ : ∃ hh, T_12.heap = hh := ⟨_, rfl⟩
        rw [e_12] at hQ_12
        obtain ⟨rfl, N_12q, sm_12⟩ := hQ_12
        have N_12 : Fr n0 L_12 := by rw [l_12]; exact Fr.app N_11 N_12q
        refine Go.st (fun _ kk => st_12.trans kk) ?_
        rw [sm_12] at e_12
        show Go p e below s _ _ _ T_12 (mkF m 126 #[.val (.int fl), .val (.int sx), .val (.int xc), .val (.int xd), .val (.int (0 : Int32)), .val (.int (((fl.toUInt32 >>> ((1 : Int32) &&& 31).toUInt32).toInt32) &&& (3 : Int32))), .val .null, .val .null, .val (.ref b_9), .val (.int (1 : Int32)), .unset] [.null])
        refine Go.st (fun _ => XS.astore X_12.here hx rfl (hb hby at_126) rfl rfl (l' := #[.val (.int fl), .val (.int sx), .val (.int xc), .val (.int xd), .val (.int (0 : Int32)), .val (.int (((fl.toUInt32 >>> ((1 : Int32) &&& 31).toUInt32).toInt32) &&& (3 : Int32))), .val .null, .val .null, .val (.ref b_9), .val (.int (1 : Int32)), .val .null]) rfl) ?_
        show Go p e below s _ _ _ T_12 (mkF m 128 #[.val (.int fl), .val (.int sx), .val (.int xc), .val (.int xd), .val (.int (0 : Int32)), .val (.int (((fl.toUInt32 >>> ((1 : Int32) &&& 31).toUInt32).toInt32) &&& (3 : Int32))), .val .null, .val .null, .val (.ref b_9), .val (.int (1 : Int32)), .val .null] [])
        refine Go.st (fun _ => XS.aload X_12.here hx rfl (hb hby at_128) rfl rfl) ?_
        show Go p e below s _ _ _ T_12 (mkF m 130 #[.val (.int fl), .val (.int sx), .val (.int xc), .val (.int xd), .val (.int (0 : Int32)), .val (.int (((fl.toUInt32 >>> ((1 : Int32) &&& 31).toUInt32).toInt32) &&& (3 : Int32))), .val .null, .val .null, .val (.ref b_9), .val (.int (1 : Int32)), .val .null] [.null])
        refine Go.st (fun _ => XS.aload X_12.here hx rfl (hb hby at_130) rfl rfl) ?_
        show Go p e below s _ _ _ T_12 (mkF m 132 #[.val (.int fl), .val (.int sx), .val (.int xc), .val (.int xd), .val (.int (0 : Int32)), .val (.int (((fl.toUInt32 >>> ((1 : Int32) &&& 31).toUInt32).toInt32) &&& (3 : Int32))), .val .null, .val .null, .val (.ref b_9), .val (.int (1 : Int32)), .val .null] [.null, .null])
        refine Go.st (fun _ => Jvm.RoadKit.acmp (g := (mkF m 132 #[.val (.int fl), .val (.int sx), .val (.int xc), .val (.int xd), .val (.int (0 : Int32)), .val (.int (((fl.toUInt32 >>> ((1 : Int32) &&& 31).toUInt32).toInt32) &&& (3 : Int32))), .val .null, .val .null, .val (.ref b_9), .val (.int (1 : Int32)), .val .null] [.null, .null])) X_12 hx rfl rfl rfl (pc0 := 132) (pc' := 135) (same := true) rfl (hb hby at_132) rfl (decide_eq_true rfl) (by decide) (by decide)) ?_
        show Go p e below s _ _ _ T_12 (mkF m 135 #[.val (.int fl), .val (.int sx), .val (.int xc), .val (.int xd), .val (.int (0 : Int32)), .val (.int (((fl.toUInt32 >>> ((1 : Int32) &&& 31).toUInt32).toInt32) &&& (3 : Int32))), .val .null, .val .null, .val (.ref b_9), .val (.int (1 : Int32)), .val .null] [])
        refine Go.st (fun _ => XS.iconst X_12.here hx rfl (hb hby at_135)) ?_
        show Go p e below s _ _ _ T_12 (mkF m 136 #[.val (.int fl), .val (.int sx), .val (.int xc), .val (.int xd), .val (.int (0 : Int32)), .val (.int (((fl.toUInt32 >>> ((1 : Int32) &&& 31).toUInt32).toInt32) &&& (3 : Int32))), .val .null, .val .null, .val (.ref b_9), .val (.int (1 : Int32)), .val .null] [(.int (1 : Int32))])
        refine Go.st (fun _ => XS.goto X_12.here hx rfl (pc0 := 136) (pc' := 140) rfl (hb hby at_136) (by decide) (by decide)) ?_
        show Go p e below s _ _ _ T_12 (mkF m 140 #[.val (.int fl), .val (.int sx), .val (.int xc), .val (.int xd), .val (.int (0 : Int32)), .val (.int (((fl.toUInt32 >>> ((1 : Int32) &&& 31).toUInt32).toInt32) &&& (3 : Int32))), .val .null, .val .null, .val (.ref b_9), .val (.int (1 : Int32)), .val .null] [(.int (1 : Int32))])
        exact Go.retZ X_12 hx hlk Bd.returns (hb hby at_140) rfl (by rw [e_12]; exact ⟨rfl, N_12⟩) (by decide) (by decide)
      · refine Go.st (fun _ => XS.icmpNo X0.here hx rfl (hb hby at_40) rfl (flt hc_8).1) ?_
        show Go p e below s _ _ _ s₁ (mkF m 43 #[.val (.int fl), .val (.int sx), .val (.int xc), .val (.int xd), .val (.int (0 : Int32)), .val (.int (((fl.toUInt32 >>> ((1 : Int32) &&& 31).toUInt32).toInt32) &&& (3 : Int32))), .val .null, .unset, .unset, .unset, .unset] [])
        refine Go.st (fun _ => XS.iconst X0.here hx rfl (hb hby at_43)) ?_
        show Go p e below s _ _ _ s₁ (mkF m 44 #[.val (.int fl), .val (.int sx), .val (.int xc), .val (.int xd), .val (.int (0 : Int32)), .val (.int (((fl.toUInt32 >>> ((1 : Int32) &&& 31).toUInt32).toInt32) &&& (3 : Int32))), .val .null, .unset, .unset, .unset, .unset] [(.int (2 : Int32))])
        obtain ⟨T_13, h_13, kA_13, X_13, e_13, E_13, A_13, st_13⟩ := newP X0 hx hZ (hw _ (List.mem_of_getElem? (i := 28) rfl)) e0 (g := (mkF m 44 #[.val (.int fl), .val (.int sx), .val (.int xc), .val (.int xd), .val (.int (0 : Int32)), .val (.int (((fl.toUInt32 >>> ((1 : Int32) &&& 31).toUInt32).toInt32) &&& (3 : Int32))), .val .null, .unset, .unset, .unset, .unset] [(.int (2 : Int32))])) rfl (hb hby at_44) rfl (by decide) (cap := 2) (by decide) (by decide) (by decide) (by decide)
        obtain ⟨b_13, g_13⟩ : ∃ z, z = h0.size := ⟨_, rfl⟩
        rw [← g_13] at A_13 st_13
        refine Go.st st_13 ?_
        have gg_13 : n0 ≤ b_13 := Nat.le_trans Z0 (Nat.le_of_eq g_13.symm)
        have z_13 : n0 ≤ h_13.size := Nat.le_trans Z0 E_13.1
        have V_b_13 : Arv Z h_13 b_13 kA_13 .byte (2 : Int32) [(.int (0 : Int32)), (.int (0 : Int32))] (.int (0 : Int32)) := (Arv.new A_13 (by decide)).pad (pad_rep [] (.int (0 : Int32)) 2)
        show Go p e below s _ _ _ T_13 (mkF m 46 #[.val (.int fl), .val (.int sx), .val (.int xc), .val (.int xd), .val (.int (0 : Int32)), .val (.int (((fl.toUInt32 >>> ((1 : Int32) &&& 31).toUInt32).toInt32) &&& (3 : Int32))), .val .null, .unset, .unset, .unset, .unset] [(.ref b_13)])
        refine Go.st (fun _ => XS.astore X_13.here hx rfl (hb hby at_46) rfl rfl (l' := #[.val (.int fl), .val (.int sx), .val (.int xc), .val (.int xd), .val (.int (0 : Int32)), .val (.int (((fl.toUInt32 >>> ((1 : Int32) &&& 31).toUInt32).toInt32) &&& (3 : Int32))), .val (.ref b_13), .unset, .unset, .unset, .unset]) rfl) ?_
        show Go p e below s _ _ _ T_13 (mkF m 48 #[.val (.int fl), .val (.int sx), .val (.int xc), .val (.int xd), .val (.int (0 : Int32)), .val (.int (((fl.toUInt32 >>> ((1 : Int32) &&& 31).toUInt32).toInt32) &&& (3 : Int32))), .val (.ref b_13), .unset, .unset, .unset, .unset] [])
        refine Go.st (fun _ => XS.aload X_13.here hx rfl (hb hby at_48) rfl rfl) ?_
        show Go p e below s _ _ _ T_13 (mkF m 50 #[.val (.int fl), .val (.int sx), .val (.int xc), .val (.int xd), .val (.int (0 : Int32)), .val (.int (((fl.toUInt32 >>> ((1 : Int32) &&& 31).toUInt32).toInt32) &&& (3 : Int32))), .val (.ref b_13), .unset, .unset, .unset, .unset] [(.ref b_13)])
        refine Go.st (fun _ => XS.iconst X_13.here hx rfl (hb hby at_50)) ?_
        show Go p e below s _ _ _ T_13 (mkF m 51 #[.val (.int fl), .val (.int sx), .val (.int xc), .val (.int xd), .val (.int (0 : Int32)), .val (.int (((fl.toUInt32 >>> ((1 : Int32) &&& 31).toUInt32).toInt32) &&& (3 : Int32))), .val (.ref b_13), .unset, .unset, .unset, .unset] [(.int (0 : Int32)), (.ref b_13)])
        refine Go.st (fun _ => XS.iloadN X_13.here hx rfl (hb hby at_51) rfl) ?_
        show Go p e below s _ _ _ T_13 (mkF m 52 #[.val (.int fl), .val (.int sx), .val (.int xc), .val (.int xd), .val (.int (0 : Int32)), .val (.int (((fl.toUInt32 >>> ((1 : Int32) &&& 31).toUInt32).toInt32) &&& (3 : Int32))), .val (.ref b_13), .unset, .unset, .unset, .unset] [(.int xc), (.int (0 : Int32)), (.ref b_13)])
        refine Go.st (fun _ => XS.i2b X_13.here hx rfl (hb hby at_52) rfl) ?_
        show Go p e below s _ _ _ T_13 (mkF m 53 #[.val (.int fl), .val (.int sx), .val (.int xc), .val (.int xd), .val (.int (0 : Int32)), .val (.int (((fl.toUInt32 >>> ((1 : Int32) &&& 31).toUInt32).toInt32) &&& (3 : Int32))), .val (.ref b_13), .unset, .unset, .unset, .unset] [(.int (xc.toInt8.toInt32)), (.int (0 : Int32)), (.ref b_13)])
        obtain ⟨cl_14, Ar_14, q_14, S_14, M_14, H_14, G_14⟩ := id V_b_13
        have hin_14 : ¬ ((0 : Int32) < 0 ∨ cl_14.slots.size ≤ ((0 : Int32)).toNatClampNeg) := inb_of S_14 ⟨by decide, by decide⟩
        obtain ⟨T_14, h_14, X_14, e_14, W_14, st_14⟩ := stB X_13 hx hZ e_13 Ar_14 (j := (0 : Int32)) hin_14 (g := (mkF m 53 #[.val (.int fl), .val (.int sx), .val (.int xc), .val (.int xd), .val (.int (0 : Int32)), .val (.int (((fl.toUInt32 >>> ((1 : Int32) &&& 31).toUInt32).toInt32) &&& (3 : Int32))), .val (.ref b_13), .unset, .unset, .unset, .unset] [(.int (xc.toInt8.toInt32)), (.int (0 : Int32)), (.ref b_13)])) rfl rfl (hb hby at_53)
        refine Go.st st_14 ?_
        rw [own_nb] at W_14
        have V_14 : Arv Z h_14 b_13 kA_13 .byte (2 : Int32) [(.int (xc.toInt8.toInt32)), (.int (0 : Int32))] (.int (0 : Int32)) := Arv.set Ar_14 q_14 S_14 M_14 H_14 G_14 (fits_nar_byte _) W_14 0 rfl (Nat.le_of_ble_eq_true rfl)
        have N_14 := Fr.snoc X_14 N0 gg_13
        have z_14 : n0 ≤ h_14.size := Nat.le_trans z_13 (Nat.le_of_eq W_14.size.symm)
        show Go p e below s _ _ _ T_14 (mkF m 54 #[.val (.int fl), .val (.int sx), .val (.int xc), .val (.int xd), .val (.int (0 : Int32)), .val (.int (((fl.toUInt32 >>> ((1 : Int32) &&& 31).toUInt32).toInt32) &&& (3 : Int32))), .val (.ref b_13), .unset, .unset, .unset, .unset] [])
        refine Go.st (fun _ => XS.aload X_14.here hx rfl (hb hby at_54) rfl rfl) ?_
        show Go p e below s _ _ _ T_14 (mkF m 56 #[.val (.int fl), .val (.int sx), .val (.int xc), .val (.int xd), .val (.int (0 : Int32)), .val (.int (((fl.toUInt32 >>> ((1 : Int32) &&& 31).toUInt32).toInt32) &&& (3 : Int32))), .val (.ref b_13), .unset, .unset, .unset, .unset] [(.ref b_13)])
        refine Go.st (fun _ => XS.iconst X_14.here hx rfl (hb hby at_56)) ?_
        show Go p e below s _ _ _ T_14 (mkF m 57 #[.val (.int fl), .val (.int sx), .val (.int xc), .val (.int xd), .val (.int (0 : Int32)), .val (.int (((fl.toUInt32 >>> ((1 : Int32) &&& 31).toUInt32).toInt32) &&& (3 : Int32))), .val (.ref b_13), .unset, .unset, .unset, .unset] [(.int (1 : Int32)), (.ref b_13)])
        refine Go.st (fun _ => XS.iloadN X_14.here hx rfl (hb hby at_57) rfl) ?_
        show Go p e below s _ _ _ T_14 (mkF m 58 #[.val (.int fl), .val (.int sx), .val (.int xc), .val (.int xd), .val (.int (0 : Int32)), .val (.int (((fl.toUInt32 >>> ((1 : Int32) &&& 31).toUInt32).toInt32) &&& (3 : Int32))), .val (.ref b_13), .unset, .unset, .unset, .unset] [(.int xd), (.int (1 : Int32)), (.ref b_13)])
        refine Go.st (fun _ => XS.i2b X_14.here hx rfl (hb hby at_58) rfl) ?_
        show Go p e below s _ _ _ T_14 (mkF m 59 #[.val (.int fl), .val (.int sx), .val (.int xc), .val (.int xd), .val (.int (0 : Int32)), .val (.int (((fl.toUInt32 >>> ((1 : Int32) &&& 31).toUInt32).toInt32) &&& (3 : Int32))), .val (.ref b_13), .unset, .unset, .unset, .unset] [(.int (xd.toInt8.toInt32)), (.int (1 : Int32)), (.ref b_13)])
        obtain ⟨cl_15, Ar_15, q_15, S_15, M_15, H_15, G_15⟩ := id V_14
        have hin_15 : ¬ ((1 : Int32) < 0 ∨ cl_15.slots.size ≤ ((1 : Int32)).toNatClampNeg) := inb_of S_15 ⟨by decide, by decide⟩
        obtain ⟨T_15, h_15, X_15, e_15, W_15, st_15⟩ := stB X_14 hx hZ e_14 Ar_15 (j := (1 : Int32)) hin_15 (g := (mkF m 59 #[.val (.int fl), .val (.int sx), .val (.int xc), .val (.int xd), .val (.int (0 : Int32)), .val (.int (((fl.toUInt32 >>> ((1 : Int32) &&& 31).toUInt32).toInt32) &&& (3 : Int32))), .val (.ref b_13), .unset, .unset, .unset, .unset] [(.int (xd.toInt8.toInt32)), (.int (1 : Int32)), (.ref b_13)])) rfl rfl (hb hby at_59)
        refine Go.st st_15 ?_
        rw [own_nb] at W_15
        have V_15 : Arv Z h_15 b_13 kA_13 .byte (2 : Int32) [(.int (xc.toInt8.toInt32)), (.int (xd.toInt8.toInt32))] (.int (0 : Int32)) := Arv.set Ar_15 q_15 S_15 M_15 H_15 G_15 (fits_nar_byte _) W_15 1 rfl (Nat.le_of_ble_eq_true rfl)
        have N_15 := Fr.snoc X_15 N_14 gg_13
        have z_15 : n0 ≤ h_15.size := Nat.le_trans z_14 (Nat.le_of_eq W_15.size.symm)
        show Go p e below s _ _ _ T_15 (mkF m 60 #[.val (.int fl), .val (.int sx), .val (.int xc), .val (.int xd), .val (.int (0 : Int32)), .val (.int (((fl.toUInt32 >>> ((1 : Int32) &&& 31).toUInt32).toInt32) &&& (3 : Int32))), .val (.ref b_13), .unset, .unset, .unset, .unset] [])
        refine Go.st (fun _ => XS.aconstNull X_15.here hx rfl (hb hby at_60)) ?_
        show Go p e below s _ _ _ T_15 (mkF m 61 #[.val (.int fl), .val (.int sx), .val (.int xc), .val (.int xd), .val (.int (0 : Int32)), .val (.int (((fl.toUInt32 >>> ((1 : Int32) &&& 31).toUInt32).toInt32) &&& (3 : Int32))), .val (.ref b_13), .unset, .unset, .unset, .unset] [.null])
        refine Go.st (fun _ => XS.astore X_15.here hx rfl (hb hby at_61) rfl rfl (l' := #[.val (.int fl), .val (.int sx), .val (.int xc), .val (.int xd), .val (.int (0 : Int32)), .val (.int (((fl.toUInt32 >>> ((1 : Int32) &&& 31).toUInt32).toInt32) &&& (3 : Int32))), .val (.ref b_13), .val .null, .unset, .unset, .unset]) rfl) ?_
        show Go p e below s _ _ _ T_15 (mkF m 63 #[.val (.int fl), .val (.int sx), .val (.int xc), .val (.int xd), .val (.int (0 : Int32)), .val (.int (((fl.toUInt32 >>> ((1 : Int32) &&& 31).toUInt32).toInt32) &&& (3 : Int32))), .val (.ref b_13), .val .null, .unset, .unset, .unset] [])
        refine Go.st (fun _ => XS.iload X_15.here hx rfl (hb hby at_63) rfl) ?_
        show Go p e below s _ _ _ T_15 (mkF m 65 #[.val (.int fl), .val (.int sx), .val (.int xc), .val (.int xd), .val (.int (0 : Int32)), .val (.int (((fl.toUInt32 >>> ((1 : Int32) &&& 31).toUInt32).toInt32) &&& (3 : Int32))), .val (.ref b_13), .val .null, .unset, .unset, .unset] [(.int (0 : Int32))])
        refine Go.st (fun _ => XS.ifYes X_15.here hx rfl (pc0 := 65) (pc' := 87) rfl (hb hby at_65) rfl ((if0 _ _).trans (teq (by decide : (0 : Int32) = (0 : Int32))).1) (by decide) (by decide)) ?_
        show Go p e below s _ _ _ T_15 (mkF m 87 #[.val (.int fl), .val (.int sx), .val (.int xc), .val (.int xd), .val (.int (0 : Int32)), .val (.int (((fl.toUInt32 >>> ((1 : Int32) &&& 31).toUInt32).toInt32) &&& (3 : Int32))), .val (.ref b_13), .val .null, .unset, .unset, .unset] [])
        obtain ⟨T_16, h_16, X_16, e_16, E_16, A_16, D_16, U_16, st_16⟩ := newO X_15 hx hZ hown (hw _ (List.mem_of_getElem? (i := 0) rfl)) (hw _ (List.mem_of_getElem? (i := 1) rfl)) (hw _ (List.mem_of_getElem? (i := 2) rfl)) e_15 (g := (mkF m 87 #[.val (.int fl), .val (.int sx), .val (.int xc), .val (.int xd), .val (.int (0 : Int32)), .val (.int (((fl.toUInt32 >>> ((1 : Int32) &&& 31).toUInt32).toInt32) &&& (3 : Int32))), .val (.ref b_13), .val .null, .unset, .unset, .unset] [])) rfl (hb hby at_87) (by decide) (by decide)
        obtain ⟨b_16, g_16⟩ : ∃ z, z = h_15.size := ⟨_, rfl⟩
        rw [← g_16] at A_16 D_16 st_16 U_16
        refine Go.st st_16 ?_
        have ne_b_13_b_16 : b_13 ≠ b_16 := Nat.ne_of_lt (Nat.lt_of_lt_of_eq V_15.lt g_16.symm)
        have gg_16 : n0 ≤ b_16 := Nat.le_trans z_15 (Nat.le_of_eq g_16.symm)
        have z_16 : n0 ≤ h_16.size := Nat.le_trans z_15 E_16.1
        have Un_16 : Unt h_16 b_16 := U_16
        have F_bytes_b_16 : Fld Z h_16 b_16 "com/example/plaingrant/plaingrant/server/http/Request$Body" "bytes" "[B" .null := D_16 (Or.inr (hw _ (List.mem_of_getElem? (i := 15) rfl))) (ty := (.array .byte)) (by decide)
        have F_refusal_b_16 : Fld Z h_16 b_16 "com/example/plaingrant/plaingrant/server/http/Request$Body" "refusal" "Lcom/example/plaingrant/plaingrant/server/http/ApiException;" .null := D_16 (Or.inr (hw _ (List.mem_of_getElem? (i := 17) rfl))) (ty := (.object "com/example/plaingrant/plaingrant/server/http/ApiException")) (by decide)
        show Go p e below s _ _ _ T_16 (mkF m 90 #[.val (.int fl), .val (.int sx), .val (.int xc), .val (.int xd), .val (.int (0 : Int32)), .val (.int (((fl.toUInt32 >>> ((1 : Int32) &&& 31).toUInt32).toInt32) &&& (3 : Int32))), .val (.ref b_13), .val .null, .unset, .unset, .unset] [(.ref b_16)])
        refine Go.st (fun _ => XS.dup X_16.here hx rfl (hb hby at_90) rfl rfl) ?_
        show Go p e below s _ _ _ T_16 (mkF m 91 #[.val (.int fl), .val (.int sx), .val (.int xc), .val (.int xd), .val (.int (0 : Int32)), .val (.int (((fl.toUInt32 >>> ((1 : Int32) &&& 31).toUInt32).toInt32) &&& (3 : Int32))), .val (.ref b_13), .val .null, .unset, .unset, .unset] [(.ref b_16), (.ref b_16)])
        refine Go.st (fun _ => XS.aload X_16.here hx rfl (hb hby at_91) rfl rfl) ?_
        show Go p e below s _ _ _ T_16 (mkF m 93 #[.val (.int fl), .val (.int sx), .val (.int xc), .val (.int xd), .val (.int (0 : Int32)), .val (.int (((fl.toUInt32 >>> ((1 : Int32) &&& 31).toUInt32).toInt32) &&& (3 : Int32))), .val (.ref b_13), .val .null, .unset, .unset, .unset] [(.ref b_13), (.ref b_16), (.ref b_16)])
        refine Go.st (fun _ => XS.aload X_16.here hx rfl (hb hby at_93) rfl rfl) ?_
        show Go p e below s _ _ _ T_16 (mkF m 95 #[.val (.int fl), .val (.int sx), .val (.int xc), .val (.int xd), .val (.int (0 : Int32)), .val (.int (((fl.toUInt32 >>> ((1 : Int32) &&& 31).toUInt32).toInt32) &&& (3 : Int32))), .val (.ref b_13), .val .null, .unset, .unset, .unset] [.null, (.ref b_13), (.ref b_16), (.ref b_16)])
        obtain ⟨_, _, ⟨T_17, L_17, kc_17, nc_17⟩, -, X_17, ⟨Lc_17, hQ_17, l_17, y_17, z_17⟩, st_17⟩ := X_16.specialBack hx (y := (⟨"com/example/plaingrant/plaingrant/server/http/Request$Body", "<init>", "([BLcom/example/plaingrant/plaingrant/server/http/ApiException;)V"⟩ : MethodName)) rfl hown (mvT hZ (hw _ (List.mem_of_getElem? (i := 3) rfl))) (mvT hZ (hw _ (List.mem_of_getElem? (i := 4) rfl))) (mvT hZ (hw _ (List.mem_of_getElem? (i := 5) rfl))) (by decide) (backOf (W := 1) (rmIrn l Z a0 hw [] b_16 b_13 h_16 n0 z_16 A_16 F_bytes_b_16 F_refusal_b_16 gg_16) hZ (hw _ (List.mem_of_getElem? (i := 5) rfl)) (hw _ (List.mem_of_getElem? (i := 2) rfl)) (by decide) (by decide)) (g := (mkF m 95 #[.val (.int fl), .val (.int sx), .val (.int xc), .val (.int xd), .val (.int (0 : Int32)), .val (.int (((fl.toUInt32 >>> ((1 : Int32) &&& 31).toUInt32).toInt32) &&& (3 : Int32))), .val (.ref b_13), .val .null, .unset, .unset, .unset] [.null, (.ref b_13), (.ref b_16), (.ref b_16)])) rfl (by rw [hml]; rfl) (Steps.refl _) (a := b_16) (argsL := [(.ref b_13), .null]) (rest := [(.ref b_16)]) (lenOf pd_5 rfl) rfl (by show 2 * 0 + _ ≤ _; exact Nat.le_of_eq rfl) (hb hby at_95) (fun _ _ => ⟨rfl, e_16, (by decide : 2 + 0 ≤ _), (by decide : 4 + 0 ≤ _)⟩)
        dsimp only [Pt.U, Pt.locs, Pt.cells, Pt.slots] at X_17 l_17 y_17 z_17 st_17 hQ_17
        obtain rfl : kc_17 = 2 := y_17
        obtain rfl : nc_17 = 4 := z_17
        obtain ⟨h_17, e_17⟩ : ∃ hh, T_17.heap = hh := ⟨_, rfl⟩
        rw [e_17] at hQ_17
        obtain ⟨rfl, N_17q, K_17, p_17_0, p_17_1, p_17_2⟩ := hQ_17
        have N_17 : Fr n0 L_17 := by rw [l_17]; exact Fr.app N_15 N_17q
        refine Go.st (fun _ kk => st_17.trans kk) ?_
        have z_17q : n0 ≤ h_17.size := Nat.le_trans z_16 K_17.1
        have ns_17 : ∀ x ∈ ([b_16] : List Addr), ∀ cell : Cell, h_16[x]? = some cell → cell.vm.isStatics = false := (allS A_16.nostat all0)
        show Go p e below s _ _ _ T_17 (mkF m 98 #[.val (.int fl), .val (.int sx), .val (.int xc), .val (.int xd), .val (.int (0 : Int32)), .val (.int (((fl.toUInt32 >>> ((1 : Int32) &&& 31).toUInt32).toInt32) &&& (3 : Int32))), .val (.ref b_13), .val .null, .unset, .unset, .unset] [(.ref b_16)])
        refine Go.st (fun _ => XS.astore X_17.here hx rfl (hb hby at_98) rfl rfl (l' := #[.val (.int fl), .val (.int sx), .val (.int xc), .val (.int xd), .val (.int (0 : Int32)), .val (.int (((fl.toUInt32 >>> ((1 : Int32) &&& 31).toUInt32).toInt32) &&& (3 : Int32))), .val (.ref b_13), .val .null, .val (.ref b_16), .unset, .unset]) rfl) ?_
        show Go p e below s _ _ _ T_17 (mkF m 100 #[.val (.int fl), .val (.int sx), .val (.int xc), .val (.int xd), .val (.int (0 : Int32)), .val (.int (((fl.toUInt32 >>> ((1 : Int32) &&& 31).toUInt32).toInt32) &&& (3 : Int32))), .val (.ref b_13), .val .null, .val (.ref b_16), .unset, .unset] [])
        refine Go.st (fun _ => XS.aload X_17.here hx rfl (hb hby at_100) rfl rfl) ?_
        show Go p e below s _ _ _ T_17 (mkF m 102 #[.val (.int fl), .val (.int sx), .val (.int xc), .val (.int xd), .val (.int (0 : Int32)), .val (.int (((fl.toUInt32 >>> ((1 : Int32) &&& 31).toUInt32).toInt32) &&& (3 : Int32))), .val (.ref b_13), .val .null, .val (.ref b_16), .unset, .unset] [(.ref b_16)])
        obtain ⟨cq_18, kq_18, q_18a, q_18b, q_18c⟩ := isOf hZ e_17 p_17_0
        obtain ⟨_, _, ⟨T_18, L_18, kc_18, nc_18⟩, -, X_18, ⟨Lc_18, hQ_18, l_18, y_18, z_18⟩, st_18⟩ := X_17.virtualBack hx (y := (⟨"com/example/plaingrant/plaingrant/server/http/Request$Body", "whole", "()Z"⟩ : MethodName)) (z := (⟨"com/example/plaingrant/plaingrant/server/http/Request$Body", "whole", "()Z"⟩ : MethodName)) hown (mvT hZ (hw _ (List.mem_of_getElem? (i := 18) rfl))) (mvT hZ (hw _ (List.mem_of_getElem? (i := 19) rfl))) (notFace_of_selects (args := #[]) (mvT hZ (hw _ (List.mem_of_getElem? (i := 21) rfl)))) (mvT hZ (hw _ (List.mem_of_getElem? (i := 21) rfl))) (mvT hZ (hw _ (List.mem_of_getElem? (i := 20) rfl))) (by decide) (backOf (W := 0) (rmWn l Z a0 hw [] b_16 h_17 n0 z_17q p_17_2) hZ (hw _ (List.mem_of_getElem? (i := 22) rfl)) (hw _ (List.mem_of_getElem? (i := 2) rfl)) (by decide) (by decide)) q_18a q_18c (g := (mkF m 102 #[.val (.int fl), .val (.int sx), .val (.int xc), .val (.int xd), .val (.int (0 : Int32)), .val (.int (((fl.toUInt32 >>> ((1 : Int32) &&& 31).toUInt32).toInt32) &&& (3 : Int32))), .val (.ref b_13), .val .null, .val (.ref b_16), .unset, .unset] [(.ref b_16)])) rfl (by rw [hml]; rfl) (Steps.refl _) (argsL := []) (rest := []) (lenOf pd_6 rfl) rfl (by show 2 * 0 + _ ≤ _; exact Nat.le_of_eq rfl) (hb hby at_102) (fun _ _ => ⟨rfl, e_17, (by decide : 2 + 0 ≤ _), (by decide : 4 + 0 ≤ _)⟩)
        dsimp only [Pt.U, Pt.locs, Pt.cells, Pt.slots] at X_18 l_18 y_18 z_18 st_18 hQ_18
        obtain rfl : kc_18 = 2 := y_18
        obtain rfl : nc_18 = 4 := z_18
        obtain ⟨h_18, e_18⟩ : ∃ hh, T_18.heap = hh := ⟨_, rfl⟩
        rw [e_18] at hQ_18
        obtain ⟨rfl, N_18q, sm_18⟩ := hQ_18
        have N_18 : Fr n0 L_18 := by rw [l_18]; exact Fr.app N_17 N_18q
        refine Go.st (fun _ kk => st_18.trans kk) ?_
        rw [sm_18] at e_18
        show Go p e below s _ _ _ T_18 (mkF m 105 #[.val (.int fl), .val (.int sx), .val (.int xc), .val (.int xd), .val (.int (0 : Int32)), .val (.int (((fl.toUInt32 >>> ((1 : Int32) &&& 31).toUInt32).toInt32) &&& (3 : Int32))), .val (.ref b_13), .val .null, .val (.ref b_16), .unset, .unset] [(.int (1 : Int32))])
        refine Go.st (fun _ => XS.istore X_18.here hx rfl (hb hby at_105) rfl (l' := #[.val (.int fl), .val (.int sx), .val (.int xc), .val (.int xd), .val (.int (0 : Int32)), .val (.int (((fl.toUInt32 >>> ((1 : Int32) &&& 31).toUInt32).toInt32) &&& (3 : Int32))), .val (.ref b_13), .val .null, .val (.ref b_16), .val (.int (1 : Int32)), .unset]) rfl) ?_
        show Go p e below s _ _ _ T_18 (mkF m 107 #[.val (.int fl), .val (.int sx), .val (.int xc), .val (.int xd), .val (.int (0 : Int32)), .val (.int (((fl.toUInt32 >>> ((1 : Int32) &&& 31).toUInt32).toInt32) &&& (3 : Int32))), .val (.ref b_13), .val .null, .val (.ref b_16), .val (.int (1 : Int32)), .unset] [])
        refine Go.st (fun _ => XS.iload X_18.here hx rfl (hb hby at_107) rfl) ?_
        show Go p e below s _ _ _ T_18 (mkF m 109 #[.val (.int fl), .val (.int sx), .val (.int xc), .val (.int xd), .val (.int (0 : Int32)), .val (.int (((fl.toUInt32 >>> ((1 : Int32) &&& 31).toUInt32).toInt32) &&& (3 : Int32))), .val (.ref b_13), .val .null, .val (.ref b_16), .val (.int (1 : Int32)), .unset] [(.int (1 : Int32))])
        refine Go.st (fun _ => XS.iload X_18.here hx rfl (hb hby at_109) rfl) ?_
        show Go p e below s _ _ _ T_18 (mkF m 111 #[.val (.int fl), .val (.int sx), .val (.int xc), .val (.int xd), .val (.int (0 : Int32)), .val (.int (((fl.toUInt32 >>> ((1 : Int32) &&& 31).toUInt32).toInt32) &&& (3 : Int32))), .val (.ref b_13), .val .null, .val (.ref b_16), .val (.int (1 : Int32)), .unset] [(.int (0 : Int32)), (.int (1 : Int32))])
        refine Go.st (fun _ => XS.icmpYes X_18.here hx rfl (pc0 := 111) (pc' := 116) rfl (hb hby at_111) rfl (feq (by decide : ¬ ((1 : Int32) = (0 : Int32)))).2 (by decide) (by decide)) ?_
        show Go p e below s _ _ _ T_18 (mkF m 116 #[.val (.int fl), .val (.int sx), .val (.int xc), .val (.int xd), .val (.int (0 : Int32)), .val (.int (((fl.toUInt32 >>> ((1 : Int32) &&& 31).toUInt32).toInt32) &&& (3 : Int32))), .val (.ref b_13), .val .null, .val (.ref b_16), .val (.int (1 : Int32)), .unset] [])
        refine Go.st (fun _ => XS.iload X_18.here hx rfl (hb hby at_116) rfl) ?_
        show Go p e below s _ _ _ T_18 (mkF m 118 #[.val (.int fl), .val (.int sx), .val (.int xc), .val (.int xd), .val (.int (0 : Int32)), .val (.int (((fl.toUInt32 >>> ((1 : Int32) &&& 31).toUInt32).toInt32) &&& (3 : Int32))), .val (.ref b_13), .val .null, .val (.ref b_16), .val (.int (1 : Int32)), .unset] [(.int (1 : Int32))])
        refine Go.st (fun _ => XS.ifNo X_18.here hx rfl (hb hby at_118) rfl ((if0 _ _).trans (feq (by decide : ¬ ((1 : Int32) = (0 : Int32)))).1)) ?_
        show Go p e below s _ _ _ T_18 (mkF m 121 #[.val (.int fl), .val (.int sx), .val (.int xc), .val (.int xd), .val (.int (0 : Int32)), .val (.int (((fl.toUInt32 >>> ((1 : Int32) &&& 31).toUInt32).toInt32) &&& (3 : Int32))), .val (.ref b_13), .val .null, .val (.ref b_16), .val (.int (1 : Int32)), .unset] [])
        refine Go.st (fun _ => XS.aload X_18.here hx rfl (hb hby at_121) rfl rfl) ?_
        show Go p e below s _ _ _ T_18 (mkF m 123 #[.val (.int fl), .val (.int sx), .val (.int xc), .val (.int xd), .val (.int (0 : Int32)), .val (.int (((fl.toUInt32 >>> ((1 : Int32) &&& 31).toUInt32).toInt32) &&& (3 : Int32))), .val (.ref b_13), .val .null, .val (.ref b_16), .val (.int (1 : Int32)), .unset] [(.ref b_16)])
        obtain ⟨cq_19, kq_19, q_19a, q_19b, q_19c⟩ := isOf hZ e_18 p_17_0
        obtain ⟨_, _, ⟨T_19, L_19, kc_19, nc_19⟩, -, X_19, ⟨Lc_19, hQ_19, l_19, y_19, z_19⟩, st_19⟩ := X_18.virtualBack hx (y := (⟨"com/example/plaingrant/plaingrant/server/http/Request$Body", "take", "()[B"⟩ : MethodName)) (z := (⟨"com/example/plaingrant/plaingrant/server/http/Request$Body", "take", "()[B"⟩ : MethodName)) hown (mvT hZ (hw _ (List.mem_of_getElem? (i := 23) rfl))) (mvT hZ (hw _ (List.mem_of_getElem? (i := 24) rfl))) (notFace_of_selects (args := #[]) (mvT hZ (hw _ (List.mem_of_getElem? (i := 26) rfl)))) (mvT hZ (hw _ (List.mem_of_getElem? (i := 26) rfl))) (mvT hZ (hw _ (List.mem_of_getElem? (i := 25) rfl))) (by decide) (backOf (W := 0) (rmTr l Z a0 hw [] b_16 b_13 h_17 n0 z_17q p_17_1 p_17_2) hZ (hw _ (List.mem_of_getElem? (i := 27) rfl)) (hw _ (List.mem_of_getElem? (i := 2) rfl)) (by decide) (by decide)) q_19a q_19c (g := (mkF m 123 #[.val (.int fl), .val (.int sx), .val (.int xc), .val (.int xd), .val (.int (0 : Int32)), .val (.int (((fl.toUInt32 >>> ((1 : Int32) &&& 31).toUInt32).toInt32) &&& (3 : Int32))), .val (.ref b_13), .val .null, .val (.ref b_16), .val (.int (1 : Int32)), .unset] [(.ref b_16)])) rfl (by rw [hml]; rfl) (Steps.refl _) (argsL := []) (rest := []) (lenOf pd_7 rfl) rfl (by show 2 * 0 + _ ≤ _; exact Nat.le_of_eq rfl) (hb hby at_123) (fun _ _ => ⟨rfl, e_18, (by decide : 2 + 0 ≤ _), (by decide : 4 + 0 ≤ _)⟩)
        dsimp only [Pt.U, Pt.locs, Pt.cells, Pt.slots] at X_19 l_19 y_19 z_19 st_19 hQ_19
        obtain rfl : kc_19 = 2 := y_19
        obtain rfl : nc_19 = 4 := z_19
        obtain ⟨h_19, e_19⟩ : ∃ hh, T_19.heap = hh := ⟨_, rfl⟩
        rw [e_19] at hQ_19
        obtain ⟨rfl, N_19q, sm_19⟩ := hQ_19
        have N_19 : Fr n0 L_19 := by rw [l_19]; exact Fr.app N_18 N_19q
        refine Go.st (fun _ kk => st_19.trans kk) ?_
        rw [sm_19] at e_19
        show Go p e below s _ _ _ T_19 (mkF m 126 #[.val (.int fl), .val (.int sx), .val (.int xc), .val (.int xd), .val (.int (0 : Int32)), .val (.int (((fl.toUInt32 >>> ((1 : Int32) &&& 31).toUInt32).toInt32) &&& (3 : Int32))), .val (.ref b_13), .val .null, .val (.ref b_16), .val (.int (1 : Int32)), .unset] [(.ref b_13)])
        refine Go.st (fun _ => XS.astore X_19.here hx rfl (hb hby at_126) rfl rfl (l' := #[.val (.int fl), .val (.int sx), .val (.int xc), .val (.int xd), .val (.int (0 : Int32)), .val (.int (((fl.toUInt32 >>> ((1 : Int32) &&& 31).toUInt32).toInt32) &&& (3 : Int32))), .val (.ref b_13), .val .null, .val (.ref b_16), .val (.int (1 : Int32)), .val (.ref b_13)]) rfl) ?_
        show Go p e below s _ _ _ T_19 (mkF m 128 #[.val (.int fl), .val (.int sx), .val (.int xc), .val (.int xd), .val (.int (0 : Int32)), .val (.int (((fl.toUInt32 >>> ((1 : Int32) &&& 31).toUInt32).toInt32) &&& (3 : Int32))), .val (.ref b_13), .val .null, .val (.ref b_16), .val (.int (1 : Int32)), .val (.ref b_13)] [])
        refine Go.st (fun _ => XS.aload X_19.here hx rfl (hb hby at_128) rfl rfl) ?_
        show Go p e below s _ _ _ T_19 (mkF m 130 #[.val (.int fl), .val (.int sx), .val (.int xc), .val (.int xd), .val (.int (0 : Int32)), .val (.int (((fl.toUInt32 >>> ((1 : Int32) &&& 31).toUInt32).toInt32) &&& (3 : Int32))), .val (.ref b_13), .val .null, .val (.ref b_16), .val (.int (1 : Int32)), .val (.ref b_13)] [(.ref b_13)])
        refine Go.st (fun _ => XS.aload X_19.here hx rfl (hb hby at_130) rfl rfl) ?_
        show Go p e below s _ _ _ T_19 (mkF m 132 #[.val (.int fl), .val (.int sx), .val (.int xc), .val (.int xd), .val (.int (0 : Int32)), .val (.int (((fl.toUInt32 >>> ((1 : Int32) &&& 31).toUInt32).toInt32) &&& (3 : Int32))), .val (.ref b_13), .val .null, .val (.ref b_16), .val (.int (1 : Int32)), .val (.ref b_13)] [(.ref b_13), (.ref b_13)])
        refine Go.st (fun _ => Jvm.RoadKit.acmp (g := (mkF m 132 #[.val (.int fl), .val (.int sx), .val (.int xc), .val (.int xd), .val (.int (0 : Int32)), .val (.int (((fl.toUInt32 >>> ((1 : Int32) &&& 31).toUInt32).toInt32) &&& (3 : Int32))), .val (.ref b_13), .val .null, .val (.ref b_16), .val (.int (1 : Int32)), .val (.ref b_13)] [(.ref b_13), (.ref b_13)])) X_19 hx rfl rfl rfl (pc0 := 132) (pc' := 135) (same := true) rfl (hb hby at_132) rfl (decide_eq_true rfl) (by decide) (by decide)) ?_
        show Go p e below s _ _ _ T_19 (mkF m 135 #[.val (.int fl), .val (.int sx), .val (.int xc), .val (.int xd), .val (.int (0 : Int32)), .val (.int (((fl.toUInt32 >>> ((1 : Int32) &&& 31).toUInt32).toInt32) &&& (3 : Int32))), .val (.ref b_13), .val .null, .val (.ref b_16), .val (.int (1 : Int32)), .val (.ref b_13)] [])
        refine Go.st (fun _ => XS.iconst X_19.here hx rfl (hb hby at_135)) ?_
        show Go p e below s _ _ _ T_19 (mkF m 136 #[.val (.int fl), .val (.int sx), .val (.int xc), .val (.int xd), .val (.int (0 : Int32)), .val (.int (((fl.toUInt32 >>> ((1 : Int32) &&& 31).toUInt32).toInt32) &&& (3 : Int32))), .val (.ref b_13), .val .null, .val (.ref b_16), .val (.int (1 : Int32)), .val (.ref b_13)] [(.int (1 : Int32))])
        refine Go.st (fun _ => XS.goto X_19.here hx rfl (pc0 := 136) (pc' := 140) rfl (hb hby at_136) (by decide) (by decide)) ?_
        show Go p e below s _ _ _ T_19 (mkF m 140 #[.val (.int fl), .val (.int sx), .val (.int xc), .val (.int xd), .val (.int (0 : Int32)), .val (.int (((fl.toUInt32 >>> ((1 : Int32) &&& 31).toUInt32).toInt32) &&& (3 : Int32))), .val (.ref b_13), .val .null, .val (.ref b_16), .val (.int (1 : Int32)), .val (.ref b_13)] [(.int (1 : Int32))])
        exact Go.retZ X_19 hx hlk Bd.returns (hb hby at_140) rfl (by rw [e_19]; exact ⟨rfl, N_19⟩) (by decide) (by decide)
  · refine Go.st (fun _ => XS.ifNo X0.here hx rfl (hb hby at_3) rfl ((if0 _ _).trans (feq hc_1).1)) ?_
    show Go p e below s _ _ _ s₁ (mkF m 6 #[.val (.int fl), .val (.int sx), .val (.int xc), .val (.int xd), .unset, .unset, .unset, .unset, .unset, .unset, .unset] [])
    refine Go.st (fun _ => XS.iconst X0.here hx rfl (hb hby at_6)) ?_
    show Go p e below s _ _ _ s₁ (mkF m 7 #[.val (.int fl), .val (.int sx), .val (.int xc), .val (.int xd), .unset, .unset, .unset, .unset, .unset, .unset, .unset] [(.int (1 : Int32))])
    refine Go.st (fun _ => XS.goto X0.here hx rfl (pc0 := 7) (pc' := 11) rfl (hb hby at_7) (by decide) (by decide)) ?_
    show Go p e below s _ _ _ s₁ (mkF m 11 #[.val (.int fl), .val (.int sx), .val (.int xc), .val (.int xd), .unset, .unset, .unset, .unset, .unset, .unset, .unset] [(.int (1 : Int32))])
    refine Go.st (fun _ => XS.istore X0.here hx rfl (hb hby at_11) rfl (l' := #[.val (.int fl), .val (.int sx), .val (.int xc), .val (.int xd), .val (.int (1 : Int32)), .unset, .unset, .unset, .unset, .unset, .unset]) rfl) ?_
    show Go p e below s _ _ _ s₁ (mkF m 13 #[.val (.int fl), .val (.int sx), .val (.int xc), .val (.int xd), .val (.int (1 : Int32)), .unset, .unset, .unset, .unset, .unset, .unset] [])
    refine Go.st (fun _ => XS.iloadN X0.here hx rfl (hb hby at_13) rfl) ?_
    show Go p e below s _ _ _ s₁ (mkF m 14 #[.val (.int fl), .val (.int sx), .val (.int xc), .val (.int xd), .val (.int (1 : Int32)), .unset, .unset, .unset, .unset, .unset, .unset] [(.int fl)])
    refine Go.st (fun _ => XS.iconst X0.here hx rfl (hb hby at_14)) ?_
    show Go p e below s _ _ _ s₁ (mkF m 15 #[.val (.int fl), .val (.int sx), .val (.int xc), .val (.int xd), .val (.int (1 : Int32)), .unset, .unset, .unset, .unset, .unset, .unset] [(.int (1 : Int32)), (.int fl)])
    refine Go.st (fun _ => XS.iushr X0.here hx rfl (hb hby at_15) rfl) ?_
    show Go p e below s _ _ _ s₁ (mkF m 16 #[.val (.int fl), .val (.int sx), .val (.int xc), .val (.int xd), .val (.int (1 : Int32)), .unset, .unset, .unset, .unset, .unset, .unset] [(.int ((fl.toUInt32 >>> ((1 : Int32) &&& 31).toUInt32).toInt32))])
    refine Go.st (fun _ => XS.iconst X0.here hx rfl (hb hby at_16)) ?_
    show Go p e below s _ _ _ s₁ (mkF m 17 #[.val (.int fl), .val (.int sx), .val (.int xc), .val (.int xd), .val (.int (1 : Int32)), .unset, .unset, .unset, .unset, .unset, .unset] [(.int (3 : Int32)), (.int ((fl.toUInt32 >>> ((1 : Int32) &&& 31).toUInt32).toInt32))])
    refine Go.st (fun _ => XS.iand X0.here hx rfl (hb hby at_17) rfl) ?_
    show Go p e below s _ _ _ s₁ (mkF m 18 #[.val (.int fl), .val (.int sx), .val (.int xc), .val (.int xd), .val (.int (1 : Int32)), .unset, .unset, .unset, .unset, .unset, .unset] [(.int (((fl.toUInt32 >>> ((1 : Int32) &&& 31).toUInt32).toInt32) &&& (3 : Int32)))])
    refine Go.st (fun _ => XS.istore X0.here hx rfl (hb hby at_18) rfl (l' := #[.val (.int fl), .val (.int sx), .val (.int xc), .val (.int xd), .val (.int (1 : Int32)), .val (.int (((fl.toUInt32 >>> ((1 : Int32) &&& 31).toUInt32).toInt32) &&& (3 : Int32))), .unset, .unset, .unset, .unset, .unset]) rfl) ?_
    show Go p e below s _ _ _ s₁ (mkF m 20 #[.val (.int fl), .val (.int sx), .val (.int xc), .val (.int xd), .val (.int (1 : Int32)), .val (.int (((fl.toUInt32 >>> ((1 : Int32) &&& 31).toUInt32).toInt32) &&& (3 : Int32))), .unset, .unset, .unset, .unset, .unset] [])
    refine Go.st (fun _ => XS.aconstNull X0.here hx rfl (hb hby at_20)) ?_
    show Go p e below s _ _ _ s₁ (mkF m 21 #[.val (.int fl), .val (.int sx), .val (.int xc), .val (.int xd), .val (.int (1 : Int32)), .val (.int (((fl.toUInt32 >>> ((1 : Int32) &&& 31).toUInt32).toInt32) &&& (3 : Int32))), .unset, .unset, .unset, .unset, .unset] [.null])
    refine Go.st (fun _ => XS.astore X0.here hx rfl (hb hby at_21) rfl rfl (l' := #[.val (.int fl), .val (.int sx), .val (.int xc), .val (.int xd), .val (.int (1 : Int32)), .val (.int (((fl.toUInt32 >>> ((1 : Int32) &&& 31).toUInt32).toInt32) &&& (3 : Int32))), .val .null, .unset, .unset, .unset, .unset]) rfl) ?_
    show Go p e below s _ _ _ s₁ (mkF m 23 #[.val (.int fl), .val (.int sx), .val (.int xc), .val (.int xd), .val (.int (1 : Int32)), .val (.int (((fl.toUInt32 >>> ((1 : Int32) &&& 31).toUInt32).toInt32) &&& (3 : Int32))), .val .null, .unset, .unset, .unset, .unset] [])
    refine Go.st (fun _ => XS.iload X0.here hx rfl (hb hby at_23) rfl) ?_
    show Go p e below s _ _ _ s₁ (mkF m 25 #[.val (.int fl), .val (.int sx), .val (.int xc), .val (.int xd), .val (.int (1 : Int32)), .val (.int (((fl.toUInt32 >>> ((1 : Int32) &&& 31).toUInt32).toInt32) &&& (3 : Int32))), .val .null, .unset, .unset, .unset, .unset] [(.int (((fl.toUInt32 >>> ((1 : Int32) &&& 31).toUInt32).toInt32) &&& (3 : Int32)))])
    refine Go.st (fun _ => XS.iconst X0.here hx rfl (hb hby at_25)) ?_
    show Go p e below s _ _ _ s₁ (mkF m 26 #[.val (.int fl), .val (.int sx), .val (.int xc), .val (.int xd), .val (.int (1 : Int32)), .val (.int (((fl.toUInt32 >>> ((1 : Int32) &&& 31).toUInt32).toInt32) &&& (3 : Int32))), .val .null, .unset, .unset, .unset, .unset] [(.int (1 : Int32)), (.int (((fl.toUInt32 >>> ((1 : Int32) &&& 31).toUInt32).toInt32) &&& (3 : Int32)))])
    by_cases hc_20 : (((fl.toUInt32 >>> ((1 : Int32) &&& 31).toUInt32).toInt32) &&& (3 : Int32)) = (1 : Int32)
    · refine Go.st (fun _ => XS.icmpNo X0.here hx rfl (hb hby at_26) rfl (teq hc_20).2) ?_
      show Go p e below s _ _ _ s₁ (mkF m 29 #[.val (.int fl), .val (.int sx), .val (.int xc), .val (.int xd), .val (.int (1 : Int32)), .val (.int (((fl.toUInt32 >>> ((1 : Int32) &&& 31).toUInt32).toInt32) &&& (3 : Int32))), .val .null, .unset, .unset, .unset, .unset] [])
      refine Go.st (fun _ => XS.iconst X0.here hx rfl (hb hby at_29)) ?_
      show Go p e below s _ _ _ s₁ (mkF m 30 #[.val (.int fl), .val (.int sx), .val (.int xc), .val (.int xd), .val (.int (1 : Int32)), .val (.int (((fl.toUInt32 >>> ((1 : Int32) &&& 31).toUInt32).toInt32) &&& (3 : Int32))), .val .null, .unset, .unset, .unset, .unset] [(.int (0 : Int32))])
      obtain ⟨T_21, h_21, kA_21, X_21, e_21, E_21, A_21, st_21⟩ := newP X0 hx hZ (hw _ (List.mem_of_getElem? (i := 28) rfl)) e0 (g := (mkF m 30 #[.val (.int fl), .val (.int sx), .val (.int xc), .val (.int xd), .val (.int (1 : Int32)), .val (.int (((fl.toUInt32 >>> ((1 : Int32) &&& 31).toUInt32).toInt32) &&& (3 : Int32))), .val .null, .unset, .unset, .unset, .unset] [(.int (0 : Int32))])) rfl (hb hby at_30) rfl (by decide) (cap := 0) (by decide) (by decide) (by decide) (by decide)
      obtain ⟨b_21, g_21⟩ : ∃ z, z = h0.size := ⟨_, rfl⟩
      rw [← g_21] at A_21 st_21
      refine Go.st st_21 ?_
      have gg_21 : n0 ≤ b_21 := Nat.le_trans Z0 (Nat.le_of_eq g_21.symm)
      have z_21 : n0 ≤ h_21.size := Nat.le_trans Z0 E_21.1
      have V_b_21 : Arv Z h_21 b_21 kA_21 .byte (0 : Int32) [] (.int (0 : Int32)) := (Arv.new A_21 (by decide)).pad (pad_rep [] (.int (0 : Int32)) 0)
      show Go p e below s _ _ _ T_21 (mkF m 32 #[.val (.int fl), .val (.int sx), .val (.int xc), .val (.int xd), .val (.int (1 : Int32)), .val (.int (((fl.toUInt32 >>> ((1 : Int32) &&& 31).toUInt32).toInt32) &&& (3 : Int32))), .val .null, .unset, .unset, .unset, .unset] [(.ref b_21)])
      refine Go.st (fun _ => XS.astore X_21.here hx rfl (hb hby at_32) rfl rfl (l' := #[.val (.int fl), .val (.int sx), .val (.int xc), .val (.int xd), .val (.int (1 : Int32)), .val (.int (((fl.toUInt32 >>> ((1 : Int32) &&& 31).toUInt32).toInt32) &&& (3 : Int32))), .val (.ref b_21), .unset, .unset, .unset, .unset]) rfl) ?_
      show Go p e below s _ _ _ T_21 (mkF m 34 #[.val (.int fl), .val (.int sx), .val (.int xc), .val (.int xd), .val (.int (1 : Int32)), .val (.int (((fl.toUInt32 >>> ((1 : Int32) &&& 31).toUInt32).toInt32) &&& (3 : Int32))), .val (.ref b_21), .unset, .unset, .unset, .unset] [])
      refine Go.st (fun _ => XS.goto X_21.here hx rfl (pc0 := 34) (pc' := 60) rfl (hb hby at_34) (by decide) (by decide)) ?_
      show Go p e below s _ _ _ T_21 (mkF m 60 #[.val (.int fl), .val (.int sx), .val (.int xc), .val (.int xd), .val (.int (1 : Int32)), .val (.int (((fl.toUInt32 >>> ((1 : Int32) &&& 31).toUInt32).toInt32) &&& (3 : Int32))), .val (.ref b_21), .unset, .unset, .unset, .unset] [])
      refine Go.st (fun _ => XS.aconstNull X_21.here hx rfl (hb hby at_60)) ?_
      show Go p e below s _ _ _ T_21 (mkF m 61 #[.val (.int fl), .val (.int sx), .val (.int xc), .val (.int xd), .val (.int (1 : Int32)), .val (.int (((fl.toUInt32 >>> ((1 : Int32) &&& 31).toUInt32).toInt32) &&& (3 : Int32))), .val (.ref b_21), .unset, .unset, .unset, .unset] [.null])
      refine Go.st (fun _ => XS.astore X_21.here hx rfl (hb hby at_61) rfl rfl (l' := #[.val (.int fl), .val (.int sx), .val (.int xc), .val (.int xd), .val (.int (1 : Int32)), .val (.int (((fl.toUInt32 >>> ((1 : Int32) &&& 31).toUInt32).toInt32) &&& (3 : Int32))), .val (.ref b_21), .val .null, .unset, .unset, .unset]) rfl) ?_
      show Go p e below s _ _ _ T_21 (mkF m 63 #[.val (.int fl), .val (.int sx), .val (.int xc), .val (.int xd), .val (.int (1 : Int32)), .val (.int (((fl.toUInt32 >>> ((1 : Int32) &&& 31).toUInt32).toInt32) &&& (3 : Int32))), .val (.ref b_21), .val .null, .unset, .unset, .unset] [])
      refine Go.st (fun _ => XS.iload X_21.here hx rfl (hb hby at_63) rfl) ?_
      show Go p e below s _ _ _ T_21 (mkF m 65 #[.val (.int fl), .val (.int sx), .val (.int xc), .val (.int xd), .val (.int (1 : Int32)), .val (.int (((fl.toUInt32 >>> ((1 : Int32) &&& 31).toUInt32).toInt32) &&& (3 : Int32))), .val (.ref b_21), .val .null, .unset, .unset, .unset] [(.int (1 : Int32))])
      refine Go.st (fun _ => XS.ifNo X_21.here hx rfl (hb hby at_65) rfl ((if0 _ _).trans (feq (by decide : ¬ ((1 : Int32) = (0 : Int32)))).1)) ?_
      show Go p e below s _ _ _ T_21 (mkF m 68 #[.val (.int fl), .val (.int sx), .val (.int xc), .val (.int xd), .val (.int (1 : Int32)), .val (.int (((fl.toUInt32 >>> ((1 : Int32) &&& 31).toUInt32).toInt32) &&& (3 : Int32))), .val (.ref b_21), .val .null, .unset, .unset, .unset] [])
      obtain ⟨T_22, h_22, X_22, e_22, E_22, A_22, D_22, U_22, st_22⟩ := newO X_21 hx hZ hown (hw _ (List.mem_of_getElem? (i := 29) rfl)) (hw _ (List.mem_of_getElem? (i := 30) rfl)) (hw _ (List.mem_of_getElem? (i := 31) rfl)) e_21 (g := (mkF m 68 #[.val (.int fl), .val (.int sx), .val (.int xc), .val (.int xd), .val (.int (1 : Int32)), .val (.int (((fl.toUInt32 >>> ((1 : Int32) &&& 31).toUInt32).toInt32) &&& (3 : Int32))), .val (.ref b_21), .val .null, .unset, .unset, .unset] [])) rfl (hb hby at_68) (by decide) (by decide)
      obtain ⟨b_22, g_22⟩ : ∃ z, z = h_21.size := ⟨_, rfl⟩
      rw [← g_22] at A_22 D_22 st_22 U_22
      refine Go.st st_22 ?_
      have ne_b_21_b_22 : b_21 ≠ b_22 := Nat.ne_of_lt (Nat.lt_of_lt_of_eq V_b_21.lt g_22.symm)
      have gg_22 : n0 ≤ b_22 := Nat.le_trans z_21 (Nat.le_of_eq g_22.symm)
      have z_22 : n0 ≤ h_22.size := Nat.le_trans z_21 E_22.1
      have Un_22 : Unt h_22 b_22 := U_22
      have F_cause_b_22 : Fld Z h_22 b_22 "java/lang/Throwable" "cause" "Ljava/lang/Throwable;" .null := D_22 (Or.inl (hw _ (List.mem_of_getElem? (i := 71) rfl))) (ty := (.object "java/lang/Throwable")) (by decide)
      have F_stackTrace_b_22 : Fld Z h_22 b_22 "java/lang/Throwable" "stackTrace" "[Ljava/lang/StackTraceElement;" .null := D_22 (Or.inl (hw _ (List.mem_of_getElem? (i := 74) rfl))) (ty := (.array (.object "java/lang/StackTraceElement"))) (by decide)
      have F_suppressedExceptions_b_22 : Fld Z h_22 b_22 "java/lang/Throwable" "suppressedExceptions" "Ljava/util/List;" .null := D_22 (Or.inl (hw _ (List.mem_of_getElem? (i := 77) rfl))) (ty := (.object "java/util/List")) (by decide)
      have F_detailMessage_b_22 : Fld Z h_22 b_22 "java/lang/Throwable" "detailMessage" "Ljava/lang/String;" .null := D_22 (Or.inl (hw _ (List.mem_of_getElem? (i := 101) rfl))) (ty := (.object "java/lang/String")) (by decide)
      have F_backtrace_b_22 : Fld Z h_22 b_22 "java/lang/Throwable" "backtrace" "Ljava/lang/Object;" .null := D_22 (Or.inl (hw _ (List.mem_of_getElem? (i := 102) rfl))) (ty := (.object "java/lang/Object")) (by decide)
      have F_depth_b_22 : Fld Z h_22 b_22 "java/lang/Throwable" "depth" "I" (.int (0 : Int32)) := D_22 (Or.inl (hw _ (List.mem_of_getElem? (i := 103) rfl))) (ty := .int) (by decide)
      have F_mStatus_b_22 : Fld Z h_22 b_22 "com/example/plaingrant/plaingrant/server/http/ApiException" "mStatus" "I" (.int (0 : Int32)) := D_22 (Or.inr (hw _ (List.mem_of_getElem? (i := 107) rfl))) (ty := .int) (by decide)
      show Go p e below s _ _ _ T_22 (mkF m 71 #[.val (.int fl), .val (.int sx), .val (.int xc), .val (.int xd), .val (.int (1 : Int32)), .val (.int (((fl.toUInt32 >>> ((1 : Int32) &&& 31).toUInt32).toInt32) &&& (3 : Int32))), .val (.ref b_21), .val .null, .unset, .unset, .unset] [(.ref b_22)])
      refine Go.st (fun _ => XS.dup X_22.here hx rfl (hb hby at_71) rfl rfl) ?_
      show Go p e below s _ _ _ T_22 (mkF m 72 #[.val (.int fl), .val (.int sx), .val (.int xc), .val (.int xd), .val (.int (1 : Int32)), .val (.int (((fl.toUInt32 >>> ((1 : Int32) &&& 31).toUInt32).toInt32) &&& (3 : Int32))), .val (.ref b_21), .val .null, .unset, .unset, .unset] [(.ref b_22), (.ref b_22)])
      refine Go.st (fun _ => XS.iloadN X_22.here hx rfl (hb hby at_72) rfl) ?_
      show Go p e below s _ _ _ T_22 (mkF m 73 #[.val (.int fl), .val (.int sx), .val (.int xc), .val (.int xd), .val (.int (1 : Int32)), .val (.int (((fl.toUInt32 >>> ((1 : Int32) &&& 31).toUInt32).toInt32) &&& (3 : Int32))), .val (.ref b_21), .val .null, .unset, .unset, .unset] [(.int sx), (.ref b_22), (.ref b_22)])
      refine Go.st (fun _ => XS.iloadN X_22.here hx rfl (hb hby at_73) rfl) ?_
      show Go p e below s _ _ _ T_22 (mkF m 74 #[.val (.int fl), .val (.int sx), .val (.int xc), .val (.int xd), .val (.int (1 : Int32)), .val (.int (((fl.toUInt32 >>> ((1 : Int32) &&& 31).toUInt32).toInt32) &&& (3 : Int32))), .val (.ref b_21), .val .null, .unset, .unset, .unset] [(.int xc), (.int sx), (.ref b_22), (.ref b_22)])
      refine Go.st (fun _ => XS.sipush X_22.here hx rfl (hb hby at_74)) ?_
      show Go p e below s _ _ _ T_22 (mkF m 77 #[.val (.int fl), .val (.int sx), .val (.int xc), .val (.int xd), .val (.int (1 : Int32)), .val (.int (((fl.toUInt32 >>> ((1 : Int32) &&& 31).toUInt32).toInt32) &&& (3 : Int32))), .val (.ref b_21), .val .null, .unset, .unset, .unset] [(.int (255 : Int32)), (.int xc), (.int sx), (.ref b_22), (.ref b_22)])
      refine Go.st (fun _ => XS.iand X_22.here hx rfl (hb hby at_77) rfl) ?_
      show Go p e below s _ _ _ T_22 (mkF m 78 #[.val (.int fl), .val (.int sx), .val (.int xc), .val (.int xd), .val (.int (1 : Int32)), .val (.int (((fl.toUInt32 >>> ((1 : Int32) &&& 31).toUInt32).toInt32) &&& (3 : Int32))), .val (.ref b_21), .val .null, .unset, .unset, .unset] [(.int (xc &&& (255 : Int32))), (.int sx), (.ref b_22), (.ref b_22)])
      refine Go.st (fun _ => XS.i2c X_22.here hx rfl (hb hby at_78) rfl) ?_
      show Go p e below s _ _ _ T_22 (mkF m 79 #[.val (.int fl), .val (.int sx), .val (.int xc), .val (.int xd), .val (.int (1 : Int32)), .val (.int (((fl.toUInt32 >>> ((1 : Int32) &&& 31).toUInt32).toInt32) &&& (3 : Int32))), .val (.ref b_21), .val .null, .unset, .unset, .unset] [(.int ((xc &&& (255 : Int32)).toUInt32.toUInt16.toUInt32.toInt32)), (.int sx), (.ref b_22), (.ref b_22)])
      have f_24 := ((S_COMPACT_STRINGS.ext E_21).ext E_22)
      obtain ⟨_, _, ⟨T_23, L_23, kc_23, nc_23⟩, -, X_23, ⟨Lc_23, hQ_23, l_23, y_23, z_23⟩, st_23⟩ := Jvm.LawKit.callS X_22 hx (y := (⟨"java/lang/String", "valueOf", "(C)Ljava/lang/String;"⟩ : MethodName)) hown (mvT hZ (hw _ (List.mem_of_getElem? (i := 32) rfl))) (mvT hZ (hw _ (List.mem_of_getElem? (i := 33) rfl))) (mvT hZ (hw _ (List.mem_of_getElem? (i := 34) rfl))) (mvT hZ (hw _ (List.mem_of_getElem? (i := 35) rfl))) (by decide) (backOf (W := 3) (rmVo l Z a0 hw [] ((xc &&& (255 : Int32)).toUInt32.toUInt16.toUInt32.toInt32) cs h_22 n0 z_22 f_24 hcs (own_c255 _)) hZ (hw _ (List.mem_of_getElem? (i := 35) rfl)) (hw _ (List.mem_of_getElem? (i := 34) rfl)) (by decide) (by decide)) (g := (mkF m 79 #[.val (.int fl), .val (.int sx), .val (.int xc), .val (.int xd), .val (.int (1 : Int32)), .val (.int (((fl.toUInt32 >>> ((1 : Int32) &&& 31).toUInt32).toInt32) &&& (3 : Int32))), .val (.ref b_21), .val .null, .unset, .unset, .unset] [(.int ((xc &&& (255 : Int32)).toUInt32.toUInt16.toUInt32.toInt32)), (.int sx), (.ref b_22), (.ref b_22)])) rfl (by rw [hml]; rfl) (argsL := [(.int ((xc &&& (255 : Int32)).toUInt32.toUInt16.toUInt32.toInt32))]) (rest := [(.int sx), (.ref b_22), (.ref b_22)]) (lenOf pd_8 rfl) rfl (by show 2 * 0 + _ ≤ _; exact Nat.le_of_eq rfl) (hb hby at_79) (fun _ _ => ⟨rfl, e_22, (by decide : 2 + 2 ≤ _), (by decide : 7 + 5 ≤ _)⟩)
      dsimp only [Pt.U, Pt.locs, Pt.cells, Pt.slots] at X_23 l_23 y_23 z_23 st_23 hQ_23
      obtain rfl : kc_23 = 4 := y_23
      obtain rfl : nc_23 = 12 := z_23
      obtain ⟨h_23, e_23⟩ : ∃ hh, T_23.heap = hh := ⟨_, rfl⟩
      rw [e_23] at hQ_23
      obtain ⟨b__23, d__23, kd__23, rfl, N_23q, K_23, p_23_0, p_23_1, p_23_2, p_23_3, p_23_4, p_23_5, p_23_6, p_23_7, p_23_8⟩ := hQ_23
      have N_23 : Fr n0 L_23 := by rw [l_23]; exact Fr.app N0 N_23q
      refine Go.st st_23 ?_
      have f_25 := (V_b_21.ext E_22)
      have ne_b_21_b__23 : b_21 ≠ b__23 := Nat.ne_of_lt (Nat.lt_of_lt_of_le f_25.lt p_23_0)
      have ne_b_22_b__23 : b_22 ≠ b__23 := Nat.ne_of_lt (Nat.lt_of_lt_of_le A_22.lt p_23_0)
      have ne_b_21_d__23 : b_21 ≠ d__23 := Nat.ne_of_lt (Nat.lt_of_lt_of_le f_25.lt p_23_5)
      have ne_b_22_d__23 : b_22 ≠ d__23 := Nat.ne_of_lt (Nat.lt_of_lt_of_le A_22.lt p_23_5)
      have z_23q : n0 ≤ h_23.size := Nat.le_trans z_22 K_23.1
      have ns_23 : ∀ x ∈ ([] : List Addr), ∀ cell : Cell, h_22[x]? = some cell → cell.vm.isStatics = false := all0
      show Go p e below s _ _ _ T_23 (mkF m 82 #[.val (.int fl), .val (.int sx), .val (.int xc), .val (.int xd), .val (.int (1 : Int32)), .val (.int (((fl.toUInt32 >>> ((1 : Int32) &&& 31).toUInt32).toInt32) &&& (3 : Int32))), .val (.ref b_21), .val .null, .unset, .unset, .unset] [(.ref b__23), (.int sx), (.ref b_22), (.ref b_22)])
      have f_27 := (A_22.keep K_23)
      have f_28 := (Un_22.keep K_23 nin0)
      have f_29 := (F_cause_b_22.keep K_23 nin0)
      have f_30 := (F_stackTrace_b_22.keep K_23 nin0)
      have f_31 := (F_suppressedExceptions_b_22.keep K_23 nin0)
      have f_32 := (F_backtrace_b_22.keep K_23 nin0)
      have f_33 := (own_sta_keep ((S_UNASSIGNED_STACK.ext E_21).ext E_22) K_23 ns_23)
      have f_34 := (own_sta_keep ((S_SUPPRESSED_SENTINEL.ext E_21).ext E_22) K_23 ns_23)
      obtain ⟨_, _, ⟨T_26, L_26, kc_26, nc_26⟩, -, X_26, ⟨Lc_26, hQ_26, l_26, y_26, z_26⟩, st_26⟩ := X_23.specialBack hx (y := (⟨"com/example/plaingrant/plaingrant/server/http/ApiException", "<init>", "(ILjava/lang/String;)V"⟩ : MethodName)) rfl hown (mvT hZ (hw _ (List.mem_of_getElem? (i := 55) rfl))) (mvT hZ (hw _ (List.mem_of_getElem? (i := 56) rfl))) (mvT hZ (hw _ (List.mem_of_getElem? (i := 57) rfl))) (by decide) (backOfKL (W := 1) (rmAx l Z a0 hw [] b_22 sx b__23 us sn h_23 n0 z_23q (by assumption) f_27 f_28 gg_22 f_29 f_30 f_31 f_32 f_33 f_34 rf_us rf_sn) hZ (hw _ (List.mem_of_getElem? (i := 57) rfl)) (hw _ (List.mem_of_getElem? (i := 31) rfl)) (by decide) (by decide) hTK hBe) (g := (mkF m 82 #[.val (.int fl), .val (.int sx), .val (.int xc), .val (.int xd), .val (.int (1 : Int32)), .val (.int (((fl.toUInt32 >>> ((1 : Int32) &&& 31).toUInt32).toInt32) &&& (3 : Int32))), .val (.ref b_21), .val .null, .unset, .unset, .unset] [(.ref b__23), (.int sx), (.ref b_22), (.ref b_22)])) rfl (by rw [hml]; rfl) (Steps.refl _) (a := b_22) (argsL := [(.int sx), (.ref b__23)]) (rest := [(.ref b_22)]) (lenOf pd_9 rfl) rfl (by show 2 * 0 + _ ≤ _; exact Nat.le_of_eq rfl) (hb hby at_82) (fun _ _ => ⟨rfl, e_23, (by decide : 4 + 1 ≤ _), (by decide : 12 + 2752 ≤ _)⟩)
      dsimp only [Pt.U, Pt.locs, Pt.cells, Pt.slots] at X_26 l_26 y_26 z_26 st_26 hQ_26
      obtain rfl : kc_26 = 5 := y_26
      obtain rfl : nc_26 = 2764 := z_26
      obtain ⟨h_26, e_26⟩ : ∃ hh, T_26.heap = hh := ⟨_, rfl⟩
      rw [e_26] at hQ_26
      obtain ⟨rfl, N_26q, K_26, p_26_0⟩ := hQ_26
      have N_26 : Fr n0 L_26 := by rw [l_26]; exact Fr.app N_23 N_26q
      refine Go.st (fun _ kk => st_26.trans kk) ?_
      have z_26q : n0 ≤ h_26.size := Nat.le_trans z_23q K_26.1
      have ns_26 : ∀ x ∈ ([b_22] : List Addr), ∀ cell : Cell, h_23[x]? = some cell → cell.vm.isStatics = false := (allS f_27.nostat all0)
      show Go p e below s _ _ _ T_26 (mkF m 85 #[.val (.int fl), .val (.int sx), .val (.int xc), .val (.int xd), .val (.int (1 : Int32)), .val (.int (((fl.toUInt32 >>> ((1 : Int32) &&& 31).toUInt32).toInt32) &&& (3 : Int32))), .val (.ref b_21), .val .null, .unset, .unset, .unset] [(.ref b_22)])
      refine Go.st (fun _ => XS.astore X_26.here hx rfl (hb hby at_85) rfl rfl (l' := #[.val (.int fl), .val (.int sx), .val (.int xc), .val (.int xd), .val (.int (1 : Int32)), .val (.int (((fl.toUInt32 >>> ((1 : Int32) &&& 31).toUInt32).toInt32) &&& (3 : Int32))), .val (.ref b_21), .val (.ref b_22), .unset, .unset, .unset]) rfl) ?_
      show Go p e below s _ _ _ T_26 (mkF m 87 #[.val (.int fl), .val (.int sx), .val (.int xc), .val (.int xd), .val (.int (1 : Int32)), .val (.int (((fl.toUInt32 >>> ((1 : Int32) &&& 31).toUInt32).toInt32) &&& (3 : Int32))), .val (.ref b_21), .val (.ref b_22), .unset, .unset, .unset] [])
      obtain ⟨T_35, h_35, X_35, e_35, E_35, A_35, D_35, U_35, st_35⟩ := newO X_26 hx hZ hown (hw _ (List.mem_of_getElem? (i := 0) rfl)) (hw _ (List.mem_of_getElem? (i := 1) rfl)) (hw _ (List.mem_of_getElem? (i := 2) rfl)) e_26 (g := (mkF m 87 #[.val (.int fl), .val (.int sx), .val (.int xc), .val (.int xd), .val (.int (1 : Int32)), .val (.int (((fl.toUInt32 >>> ((1 : Int32) &&& 31).toUInt32).toInt32) &&& (3 : Int32))), .val (.ref b_21), .val (.ref b_22), .unset, .unset, .unset] [])) rfl (hb hby at_87) (by decide) (by decide)
      obtain ⟨b_35, g_35⟩ : ∃ z, z = h_26.size := ⟨_, rfl⟩
      rw [← g_35] at A_35 D_35 st_35 U_35
      refine Go.st st_35 ?_
      have f_36 := ((f_25.keep K_23 nin0).keep K_26 (ninS ne_b_21_b_22 nin0))
      have ne_b_21_b_35 : b_21 ≠ b_35 := Nat.ne_of_lt (Nat.lt_of_lt_of_eq f_36.lt g_35.symm)
      have ne_b_22_b_35 : b_22 ≠ b_35 := Nat.ne_of_lt (Nat.lt_of_lt_of_eq p_26_0.lt g_35.symm)
      have f_37 := (p_23_2.keep K_26)
      have ne_b__23_b_35 : b__23 ≠ b_35 := Nat.ne_of_lt (Nat.lt_of_lt_of_eq f_37.lt g_35.symm)
      have f_38 := (p_23_7.keep K_26 (ninS (Ne.symm ne_b_22_d__23) nin0))
      have ne_d__23_b_35 : d__23 ≠ b_35 := Nat.ne_of_lt (Nat.lt_of_lt_of_eq f_38.lt g_35.symm)
      have gg_35 : n0 ≤ b_35 := Nat.le_trans z_26q (Nat.le_of_eq g_35.symm)
      have z_35 : n0 ≤ h_35.size := Nat.le_trans z_26q E_35.1
      have Un_35 : Unt h_35 b_35 := U_35
      have F_bytes_b_35 : Fld Z h_35 b_35 "com/example/plaingrant/plaingrant/server/http/Request$Body" "bytes" "[B" .null := D_35 (Or.inr (hw _ (List.mem_of_getElem? (i := 15) rfl))) (ty := (.array .byte)) (by decide)
      have F_refusal_b_35 : Fld Z h_35 b_35 "com/example/plaingrant/plaingrant/server/http/Request$Body" "refusal" "Lcom/example/plaingrant/plaingrant/server/http/ApiException;" .null := D_35 (Or.inr (hw _ (List.mem_of_getElem? (i := 17) rfl))) (ty := (.object "com/example/plaingrant/plaingrant/server/http/ApiException")) (by decide)
      show Go p e below s _ _ _ T_35 (mkF m 90 #[.val (.int fl), .val (.int sx), .val (.int xc), .val (.int xd), .val (.int (1 : Int32)), .val (.int (((fl.toUInt32 >>> ((1 : Int32) &&& 31).toUInt32).toInt32) &&& (3 : Int32))), .val (.ref b_21), .val (.ref b_22), .unset, .unset, .unset] [(.ref b_35)])
      refine Go.st (fun _ => XS.dup X_35.here hx rfl (hb hby at_90) rfl rfl) ?_
      show Go p e below s _ _ _ T_35 (mkF m 91 #[.val (.int fl), .val (.int sx), .val (.int xc), .val (.int xd), .val (.int (1 : Int32)), .val (.int (((fl.toUInt32 >>> ((1 : Int32) &&& 31).toUInt32).toInt32) &&& (3 : Int32))), .val (.ref b_21), .val (.ref b_22), .unset, .unset, .unset] [(.ref b_35), (.ref b_35)])
      refine Go.st (fun _ => XS.aload X_35.here hx rfl (hb hby at_91) rfl rfl) ?_
      show Go p e below s _ _ _ T_35 (mkF m 93 #[.val (.int fl), .val (.int sx), .val (.int xc), .val (.int xd), .val (.int (1 : Int32)), .val (.int (((fl.toUInt32 >>> ((1 : Int32) &&& 31).toUInt32).toInt32) &&& (3 : Int32))), .val (.ref b_21), .val (.ref b_22), .unset, .unset, .unset] [(.ref b_21), (.ref b_35), (.ref b_35)])
      refine Go.st (fun _ => XS.aload X_35.here hx rfl (hb hby at_93) rfl rfl) ?_
      show Go p e below s _ _ _ T_35 (mkF m 95 #[.val (.int fl), .val (.int sx), .val (.int xc), .val (.int xd), .val (.int (1 : Int32)), .val (.int (((fl.toUInt32 >>> ((1 : Int32) &&& 31).toUInt32).toInt32) &&& (3 : Int32))), .val (.ref b_21), .val (.ref b_22), .unset, .unset, .unset] [(.ref b_22), (.ref b_21), (.ref b_35), (.ref b_35)])
      obtain ⟨_, _, ⟨T_39, L_39, kc_39, nc_39⟩, -, X_39, ⟨Lc_39, hQ_39, l_39, y_39, z_39⟩, st_39⟩ := X_35.specialBack hx (y := (⟨"com/example/plaingrant/plaingrant/server/http/Request$Body", "<init>", "([BLcom/example/plaingrant/plaingrant/server/http/ApiException;)V"⟩ : MethodName)) rfl hown (mvT hZ (hw _ (List.mem_of_getElem? (i := 3) rfl))) (mvT hZ (hw _ (List.mem_of_getElem? (i := 4) rfl))) (mvT hZ (hw _ (List.mem_of_getElem? (i := 5) rfl))) (by decide) (backOf (W := 1) (rmIrr l Z a0 hw [] b_35 b_21 b_22 h_35 n0 z_35 A_35 F_bytes_b_35 F_refusal_b_35 gg_35) hZ (hw _ (List.mem_of_getElem? (i := 5) rfl)) (hw _ (List.mem_of_getElem? (i := 2) rfl)) (by decide) (by decide)) (g := (mkF m 95 #[.val (.int fl), .val (.int sx), .val (.int xc), .val (.int xd), .val (.int (1 : Int32)), .val (.int (((fl.toUInt32 >>> ((1 : Int32) &&& 31).toUInt32).toInt32) &&& (3 : Int32))), .val (.ref b_21), .val (.ref b_22), .unset, .unset, .unset] [(.ref b_22), (.ref b_21), (.ref b_35), (.ref b_35)])) rfl (by rw [hml]; rfl) (Steps.refl _) (a := b_35) (argsL := [(.ref b_21), (.ref b_22)]) (rest := [(.ref b_35)]) (lenOf pd_5 rfl) rfl (by show 2 * 0 + _ ≤ _; exact Nat.le_of_eq rfl) (hb hby at_95) (fun _ _ => ⟨rfl, e_35, (by decide : 6 + 0 ≤ _), (by decide : 2766 + 0 ≤ _)⟩)
      dsimp only [Pt.U, Pt.locs, Pt.cells, Pt.slots] at X_39 l_39 y_39 z_39 st_39 hQ_39
      obtain rfl : kc_39 = 6 := y_39
      obtain rfl : nc_39 = 2766 := z_39
      obtain ⟨h_39, e_39⟩ : ∃ hh, T_39.heap = hh := ⟨_, rfl⟩
      rw [e_39] at hQ_39
      obtain ⟨rfl, N_39q, K_39, p_39_0, p_39_1, p_39_2⟩ := hQ_39
      have N_39 : Fr n0 L_39 := by rw [l_39]; exact Fr.app N_26 N_39q
      refine Go.st (fun _ kk => st_39.trans kk) ?_
      have z_39q : n0 ≤ h_39.size := Nat.le_trans z_35 K_39.1
      have ns_39 : ∀ x ∈ ([b_35] : List Addr), ∀ cell : Cell, h_35[x]? = some cell → cell.vm.isStatics = false := (allS A_35.nostat all0)
      show Go p e below s _ _ _ T_39 (mkF m 98 #[.val (.int fl), .val (.int sx), .val (.int xc), .val (.int xd), .val (.int (1 : Int32)), .val (.int (((fl.toUInt32 >>> ((1 : Int32) &&& 31).toUInt32).toInt32) &&& (3 : Int32))), .val (.ref b_21), .val (.ref b_22), .unset, .unset, .unset] [(.ref b_35)])
      refine Go.st (fun _ => XS.astore X_39.here hx rfl (hb hby at_98) rfl rfl (l' := #[.val (.int fl), .val (.int sx), .val (.int xc), .val (.int xd), .val (.int (1 : Int32)), .val (.int (((fl.toUInt32 >>> ((1 : Int32) &&& 31).toUInt32).toInt32) &&& (3 : Int32))), .val (.ref b_21), .val (.ref b_22), .val (.ref b_35), .unset, .unset]) rfl) ?_
      show Go p e below s _ _ _ T_39 (mkF m 100 #[.val (.int fl), .val (.int sx), .val (.int xc), .val (.int xd), .val (.int (1 : Int32)), .val (.int (((fl.toUInt32 >>> ((1 : Int32) &&& 31).toUInt32).toInt32) &&& (3 : Int32))), .val (.ref b_21), .val (.ref b_22), .val (.ref b_35), .unset, .unset] [])
      refine Go.st (fun _ => XS.aload X_39.here hx rfl (hb hby at_100) rfl rfl) ?_
      show Go p e below s _ _ _ T_39 (mkF m 102 #[.val (.int fl), .val (.int sx), .val (.int xc), .val (.int xd), .val (.int (1 : Int32)), .val (.int (((fl.toUInt32 >>> ((1 : Int32) &&& 31).toUInt32).toInt32) &&& (3 : Int32))), .val (.ref b_21), .val (.ref b_22), .val (.ref b_35), .unset, .unset] [(.ref b_35)])
      obtain ⟨cq_40, kq_40, q_40a, q_40b, q_40c⟩ := isOf hZ e_39 p_39_0
      obtain ⟨_, _, ⟨T_40, L_40, kc_40, nc_40⟩, -, X_40, ⟨Lc_40, hQ_40, l_40, y_40, z_40⟩, st_40⟩ := X_39.virtualBack hx (y := (⟨"com/example/plaingrant/plaingrant/server/http/Request$Body", "whole", "()Z"⟩ : MethodName)) (z := (⟨"com/example/plaingrant/plaingrant/server/http/Request$Body", "whole", "()Z"⟩ : MethodName)) hown (mvT hZ (hw _ (List.mem_of_getElem? (i := 18) rfl))) (mvT hZ (hw _ (List.mem_of_getElem? (i := 19) rfl))) (notFace_of_selects (args := #[]) (mvT hZ (hw _ (List.mem_of_getElem? (i := 21) rfl)))) (mvT hZ (hw _ (List.mem_of_getElem? (i := 21) rfl))) (mvT hZ (hw _ (List.mem_of_getElem? (i := 20) rfl))) (by decide) (backOf (W := 0) (rmWr l Z a0 hw [] b_35 b_22 h_39 n0 z_39q p_39_2) hZ (hw _ (List.mem_of_getElem? (i := 22) rfl)) (hw _ (List.mem_of_getElem? (i := 2) rfl)) (by decide) (by decide)) q_40a q_40c (g := (mkF m 102 #[.val (.int fl), .val (.int sx), .val (.int xc), .val (.int xd), .val (.int (1 : Int32)), .val (.int (((fl.toUInt32 >>> ((1 : Int32) &&& 31).toUInt32).toInt32) &&& (3 : Int32))), .val (.ref b_21), .val (.ref b_22), .val (.ref b_35), .unset, .unset] [(.ref b_35)])) rfl (by rw [hml]; rfl) (Steps.refl _) (argsL := []) (rest := []) (lenOf pd_6 rfl) rfl (by show 2 * 0 + _ ≤ _; exact Nat.le_of_eq rfl) (hb hby at_102) (fun _ _ => ⟨rfl, e_39, (by decide : 6 + 0 ≤ _), (by decide : 2766 + 0 ≤ _)⟩)
      dsimp only [Pt.U, Pt.locs, Pt.cells, Pt.slots] at X_40 l_40 y_40 z_40 st_40 hQ_40
      obtain rfl : kc_40 = 6 := y_40
      obtain rfl : nc_40 = 2766 := z_40
      obtain ⟨h_40, e_40⟩ : ∃ hh, T_40.heap = hh := ⟨_, rfl⟩
      rw [e_40] at hQ_40
      obtain ⟨rfl, N_40q, sm_40⟩ := hQ_40
      have N_40 : Fr n0 L_40 := by rw [l_40]; exact Fr.app N_39 N_40q
      refine Go.st (fun _ kk => st_40.trans kk) ?_
      rw [sm_40] at e_40
      show Go p e below s _ _ _ T_40 (mkF m 105 #[.val (.int fl), .val (.int sx), .val (.int xc), .val (.int xd), .val (.int (1 : Int32)), .val (.int (((fl.toUInt32 >>> ((1 : Int32) &&& 31).toUInt32).toInt32) &&& (3 : Int32))), .val (.ref b_21), .val (.ref b_22), .val (.ref b_35), .unset, .unset] [(.int (0 : Int32))])
      refine Go.st (fun _ => XS.istore X_40.here hx rfl (hb hby at_105) rfl (l' := #[.val (.int fl), .val (.int sx), .val (.int xc), .val (.int xd), .val (.int (1 : Int32)), .val (.int (((fl.toUInt32 >>> ((1 : Int32) &&& 31).toUInt32).toInt32) &&& (3 : Int32))), .val (.ref b_21), .val (.ref b_22), .val (.ref b_35), .val (.int (0 : Int32)), .unset]) rfl) ?_
      show Go p e below s _ _ _ T_40 (mkF m 107 #[.val (.int fl), .val (.int sx), .val (.int xc), .val (.int xd), .val (.int (1 : Int32)), .val (.int (((fl.toUInt32 >>> ((1 : Int32) &&& 31).toUInt32).toInt32) &&& (3 : Int32))), .val (.ref b_21), .val (.ref b_22), .val (.ref b_35), .val (.int (0 : Int32)), .unset] [])
      refine Go.st (fun _ => XS.iload X_40.here hx rfl (hb hby at_107) rfl) ?_
      show Go p e below s _ _ _ T_40 (mkF m 109 #[.val (.int fl), .val (.int sx), .val (.int xc), .val (.int xd), .val (.int (1 : Int32)), .val (.int (((fl.toUInt32 >>> ((1 : Int32) &&& 31).toUInt32).toInt32) &&& (3 : Int32))), .val (.ref b_21), .val (.ref b_22), .val (.ref b_35), .val (.int (0 : Int32)), .unset] [(.int (0 : Int32))])
      refine Go.st (fun _ => XS.iload X_40.here hx rfl (hb hby at_109) rfl) ?_
      show Go p e below s _ _ _ T_40 (mkF m 111 #[.val (.int fl), .val (.int sx), .val (.int xc), .val (.int xd), .val (.int (1 : Int32)), .val (.int (((fl.toUInt32 >>> ((1 : Int32) &&& 31).toUInt32).toInt32) &&& (3 : Int32))), .val (.ref b_21), .val (.ref b_22), .val (.ref b_35), .val (.int (0 : Int32)), .unset] [(.int (1 : Int32)), (.int (0 : Int32))])
      refine Go.st (fun _ => XS.icmpYes X_40.here hx rfl (pc0 := 111) (pc' := 116) rfl (hb hby at_111) rfl (feq (by decide : ¬ ((0 : Int32) = (1 : Int32)))).2 (by decide) (by decide)) ?_
      show Go p e below s _ _ _ T_40 (mkF m 116 #[.val (.int fl), .val (.int sx), .val (.int xc), .val (.int xd), .val (.int (1 : Int32)), .val (.int (((fl.toUInt32 >>> ((1 : Int32) &&& 31).toUInt32).toInt32) &&& (3 : Int32))), .val (.ref b_21), .val (.ref b_22), .val (.ref b_35), .val (.int (0 : Int32)), .unset] [])
      refine Go.st (fun _ => XS.iload X_40.here hx rfl (hb hby at_116) rfl) ?_
      show Go p e below s _ _ _ T_40 (mkF m 118 #[.val (.int fl), .val (.int sx), .val (.int xc), .val (.int xd), .val (.int (1 : Int32)), .val (.int (((fl.toUInt32 >>> ((1 : Int32) &&& 31).toUInt32).toInt32) &&& (3 : Int32))), .val (.ref b_21), .val (.ref b_22), .val (.ref b_35), .val (.int (0 : Int32)), .unset] [(.int (0 : Int32))])
      refine Go.st (fun _ => XS.ifYes X_40.here hx rfl (pc0 := 118) (pc' := 141) rfl (hb hby at_118) rfl ((if0 _ _).trans (teq (by decide : (0 : Int32) = (0 : Int32))).1) (by decide) (by decide)) ?_
      show Go p e below s _ _ _ T_40 (mkF m 141 #[.val (.int fl), .val (.int sx), .val (.int xc), .val (.int xd), .val (.int (1 : Int32)), .val (.int (((fl.toUInt32 >>> ((1 : Int32) &&& 31).toUInt32).toInt32) &&& (3 : Int32))), .val (.ref b_21), .val (.ref b_22), .val (.ref b_35), .val (.int (0 : Int32)), .unset] [])
      refine Go.st (fun _ => XS.iconst X_40.here hx rfl (hb hby at_141)) ?_
      show Go p e below s _ _ _ T_40 (mkF m 142 #[.val (.int fl), .val (.int sx), .val (.int xc), .val (.int xd), .val (.int (1 : Int32)), .val (.int (((fl.toUInt32 >>> ((1 : Int32) &&& 31).toUInt32).toInt32) &&& (3 : Int32))), .val (.ref b_21), .val (.ref b_22), .val (.ref b_35), .val (.int (0 : Int32)), .unset] [(.int (1 : Int32))])
      exact Go.retZ X_40 hx hlk Bd.returns (hb hby at_142) rfl (by rw [e_40]; exact ⟨rfl, N_40⟩) (by decide) (by decide)
    · refine Go.st (fun _ => XS.icmpYes X0.here hx rfl (pc0 := 26) (pc' := 37) rfl (hb hby at_26) rfl (feq hc_20).2 (by decide) (by decide)) ?_
      show Go p e below s _ _ _ s₁ (mkF m 37 #[.val (.int fl), .val (.int sx), .val (.int xc), .val (.int xd), .val (.int (1 : Int32)), .val (.int (((fl.toUInt32 >>> ((1 : Int32) &&& 31).toUInt32).toInt32) &&& (3 : Int32))), .val .null, .unset, .unset, .unset, .unset] [])
      refine Go.st (fun _ => XS.iload X0.here hx rfl (hb hby at_37) rfl) ?_
      show Go p e below s _ _ _ s₁ (mkF m 39 #[.val (.int fl), .val (.int sx), .val (.int xc), .val (.int xd), .val (.int (1 : Int32)), .val (.int (((fl.toUInt32 >>> ((1 : Int32) &&& 31).toUInt32).toInt32) &&& (3 : Int32))), .val .null, .unset, .unset, .unset, .unset] [(.int (((fl.toUInt32 >>> ((1 : Int32) &&& 31).toUInt32).toInt32) &&& (3 : Int32)))])
      refine Go.st (fun _ => XS.iconst X0.here hx rfl (hb hby at_39)) ?_
      show Go p e below s _ _ _ s₁ (mkF m 40 #[.val (.int fl), .val (.int sx), .val (.int xc), .val (.int xd), .val (.int (1 : Int32)), .val (.int (((fl.toUInt32 >>> ((1 : Int32) &&& 31).toUInt32).toInt32) &&& (3 : Int32))), .val .null, .unset, .unset, .unset, .unset] [(.int (2 : Int32)), (.int (((fl.toUInt32 >>> ((1 : Int32) &&& 31).toUInt32).toInt32) &&& (3 : Int32)))])
      by_cases hc_41 : (((fl.toUInt32 >>> ((1 : Int32) &&& 31).toUInt32).toInt32) &&& (3 : Int32)) < (2 : Int32)
      · refine Go.st (fun _ => XS.icmpYes X0.here hx rfl (pc0 := 40) (pc' := 60) rfl (hb hby at_40) rfl (tlt hc_41).1 (by decide) (by decide)) ?_
        show Go p e below s _ _ _ s₁ (mkF m 60 #[.val (.int fl), .val (.int sx), .val (.int xc), .val (.int xd), .val (.int (1 : Int32)), .val (.int (((fl.toUInt32 >>> ((1 : Int32) &&& 31).toUInt32).toInt32) &&& (3 : Int32))), .val .null, .unset, .unset, .unset, .unset] [])
        refine Go.st (fun _ => XS.aconstNull X0.here hx rfl (hb hby at_60)) ?_
        show Go p e below s _ _ _ s₁ (mkF m 61 #[.val (.int fl), .val (.int sx), .val (.int xc), .val (.int xd), .val (.int (1 : Int32)), .val (.int (((fl.toUInt32 >>> ((1 : Int32) &&& 31).toUInt32).toInt32) &&& (3 : Int32))), .val .null, .unset, .unset, .unset, .unset] [.null])
        refine Go.st (fun _ => XS.astore X0.here hx rfl (hb hby at_61) rfl rfl (l' := #[.val (.int fl), .val (.int sx), .val (.int xc), .val (.int xd), .val (.int (1 : Int32)), .val (.int (((fl.toUInt32 >>> ((1 : Int32) &&& 31).toUInt32).toInt32) &&& (3 : Int32))), .val .null, .val .null, .unset, .unset, .unset]) rfl) ?_
        show Go p e below s _ _ _ s₁ (mkF m 63 #[.val (.int fl), .val (.int sx), .val (.int xc), .val (.int xd), .val (.int (1 : Int32)), .val (.int (((fl.toUInt32 >>> ((1 : Int32) &&& 31).toUInt32).toInt32) &&& (3 : Int32))), .val .null, .val .null, .unset, .unset, .unset] [])
        refine Go.st (fun _ => XS.iload X0.here hx rfl (hb hby at_63) rfl) ?_
        show Go p e below s _ _ _ s₁ (mkF m 65 #[.val (.int fl), .val (.int sx), .val (.int xc), .val (.int xd), .val (.int (1 : Int32)), .val (.int (((fl.toUInt32 >>> ((1 : Int32) &&& 31).toUInt32).toInt32) &&& (3 : Int32))), .val .null, .val .null, .unset, .unset, .unset] [(.int (1 : Int32))])
        refine Go.st (fun _ => XS.ifNo X0.here hx rfl (hb hby at_65) rfl ((if0 _ _).trans (feq (by decide : ¬ ((1 : Int32) = (0 : Int32)))).1)) ?_
        show Go p e below s _ _ _ s₁ (mkF m 68 #[.val (.int fl), .val (.int sx), .val (.int xc), .val (.int xd), .val (.int (1 : Int32)), .val (.int (((fl.toUInt32 >>> ((1 : Int32) &&& 31).toUInt32).toInt32) &&& (3 : Int32))), .val .null, .val .null, .unset, .unset, .unset] [])
        obtain ⟨T_42, h_42, X_42, e_42, E_42, A_42, D_42, U_42, st_42⟩ := newO X0 hx hZ hown (hw _ (List.mem_of_getElem? (i := 29) rfl)) (hw _ (List.mem_of_getElem? (i := 30) rfl)) (hw _ (List.mem_of_getElem? (i := 31) rfl)) e0 (g := (mkF m 68 #[.val (.int fl), .val (.int sx), .val (.int xc), .val (.int xd), .val (.int (1 : Int32)), .val (.int (((fl.toUInt32 >>> ((1 : Int32) &&& 31).toUInt32).toInt32) &&& (3 : Int32))), .val .null, .val .null, .unset, .unset, .unset] [])) rfl (hb hby at_68) (by decide) (by decide)
        obtain ⟨b_42, g_42⟩ : ∃ z, z = h0.size := ⟨_, rfl⟩
        rw [← g_42] at A_42 D_42 st_42 U_42
        refine Go.st st_42 ?_
        have gg_42 : n0 ≤ b_42 := Nat.le_trans Z0 (Nat.le_of_eq g_42.symm)
        have z_42 : n0 ≤ h_42.size := Nat.le_trans Z0 E_42.1
        have Un_42 : Unt h_42 b_42 := U_42
        have F_cause_b_42 : Fld Z h_42 b_42 "java/lang/Throwable" "cause" "Ljava/lang/Throwable;" .null := D_42 (Or.inl (hw _ (List.mem_of_getElem? (i := 71) rfl))) (ty := (.object "java/lang/Throwable")) (by decide)
        have F_stackTrace_b_42 : Fld Z h_42 b_42 "java/lang/Throwable" "stackTrace" "[Ljava/lang/StackTraceElement;" .null := D_42 (Or.inl (hw _ (List.mem_of_getElem? (i := 74) rfl))) (ty := (.array (.object "java/lang/StackTraceElement"))) (by decide)
        have F_suppressedExceptions_b_42 : Fld Z h_42 b_42 "java/lang/Throwable" "suppressedExceptions" "Ljava/util/List;" .null := D_42 (Or.inl (hw _ (List.mem_of_getElem? (i := 77) rfl))) (ty := (.object "java/util/List")) (by decide)
        have F_detailMessage_b_42 : Fld Z h_42 b_42 "java/lang/Throwable" "detailMessage" "Ljava/lang/String;" .null := D_42 (Or.inl (hw _ (List.mem_of_getElem? (i := 101) rfl))) (ty := (.object "java/lang/String")) (by decide)
        have F_backtrace_b_42 : Fld Z h_42 b_42 "java/lang/Throwable" "backtrace" "Ljava/lang/Object;" .null := D_42 (Or.inl (hw _ (List.mem_of_getElem? (i := 102) rfl))) (ty := (.object "java/lang/Object")) (by decide)
        have F_depth_b_42 : Fld Z h_42 b_42 "java/lang/Throwable" "depth" "I" (.int (0 : Int32)) := D_42 (Or.inl (hw _ (List.mem_of_getElem? (i := 103) rfl))) (ty := .int) (by decide)
        have F_mStatus_b_42 : Fld Z h_42 b_42 "com/example/plaingrant/plaingrant/server/http/ApiException" "mStatus" "I" (.int (0 : Int32)) := D_42 (Or.inr (hw _ (List.mem_of_getElem? (i := 107) rfl))) (ty := .int) (by decide)
        show Go p e below s _ _ _ T_42 (mkF m 71 #[.val (.int fl), .val (.int sx), .val (.int xc), .val (.int xd), .val (.int (1 : Int32)), .val (.int (((fl.toUInt32 >>> ((1 : Int32) &&& 31).toUInt32).toInt32) &&& (3 : Int32))), .val .null, .val .null, .unset, .unset, .unset] [(.ref b_42)])
        refine Go.st (fun _ => XS.dup X_42.here hx rfl (hb hby at_71) rfl rfl) ?_
        show Go p e below s _ _ _ T_42 (mkF m 72 #[.val (.int fl), .val (.int sx), .val (.int xc), .val (.int xd), .val (.int (1 : Int32)), .val (.int (((fl.toUInt32 >>> ((1 : Int32) &&& 31).toUInt32).toInt32) &&& (3 : Int32))), .val .null, .val .null, .unset, .unset, .unset] [(.ref b_42), (.ref b_42)])
        refine Go.st (fun _ => XS.iloadN X_42.here hx rfl (hb hby at_72) rfl) ?_
        show Go p e below s _ _ _ T_42 (mkF m 73 #[.val (.int fl), .val (.int sx), .val (.int xc), .val (.int xd), .val (.int (1 : Int32)), .val (.int (((fl.toUInt32 >>> ((1 : Int32) &&& 31).toUInt32).toInt32) &&& (3 : Int32))), .val .null, .val .null, .unset, .unset, .unset] [(.int sx), (.ref b_42), (.ref b_42)])
        refine Go.st (fun _ => XS.iloadN X_42.here hx rfl (hb hby at_73) rfl) ?_
        show Go p e below s _ _ _ T_42 (mkF m 74 #[.val (.int fl), .val (.int sx), .val (.int xc), .val (.int xd), .val (.int (1 : Int32)), .val (.int (((fl.toUInt32 >>> ((1 : Int32) &&& 31).toUInt32).toInt32) &&& (3 : Int32))), .val .null, .val .null, .unset, .unset, .unset] [(.int xc), (.int sx), (.ref b_42), (.ref b_42)])
        refine Go.st (fun _ => XS.sipush X_42.here hx rfl (hb hby at_74)) ?_
        show Go p e below s _ _ _ T_42 (mkF m 77 #[.val (.int fl), .val (.int sx), .val (.int xc), .val (.int xd), .val (.int (1 : Int32)), .val (.int (((fl.toUInt32 >>> ((1 : Int32) &&& 31).toUInt32).toInt32) &&& (3 : Int32))), .val .null, .val .null, .unset, .unset, .unset] [(.int (255 : Int32)), (.int xc), (.int sx), (.ref b_42), (.ref b_42)])
        refine Go.st (fun _ => XS.iand X_42.here hx rfl (hb hby at_77) rfl) ?_
        show Go p e below s _ _ _ T_42 (mkF m 78 #[.val (.int fl), .val (.int sx), .val (.int xc), .val (.int xd), .val (.int (1 : Int32)), .val (.int (((fl.toUInt32 >>> ((1 : Int32) &&& 31).toUInt32).toInt32) &&& (3 : Int32))), .val .null, .val .null, .unset, .unset, .unset] [(.int (xc &&& (255 : Int32))), (.int sx), (.ref b_42), (.ref b_42)])
        refine Go.st (fun _ => XS.i2c X_42.here hx rfl (hb hby at_78) rfl) ?_
        show Go p e below s _ _ _ T_42 (mkF m 79 #[.val (.int fl), .val (.int sx), .val (.int xc), .val (.int xd), .val (.int (1 : Int32)), .val (.int (((fl.toUInt32 >>> ((1 : Int32) &&& 31).toUInt32).toInt32) &&& (3 : Int32))), .val .null, .val .null, .unset, .unset, .unset] [(.int ((xc &&& (255 : Int32)).toUInt32.toUInt16.toUInt32.toInt32)), (.int sx), (.ref b_42), (.ref b_42)])
        have f_44 := (S_COMPACT_STRINGS.ext E_42)
        obtain ⟨_, _, ⟨T_43, L_43, kc_43, nc_43⟩, -, X_43, ⟨Lc_43, hQ_43, l_43, y_43, z_43⟩, st_43⟩ := Jvm.LawKit.callS X_42 hx (y := (⟨"java/lang/String", "valueOf", "(C)Ljava/lang/String;"⟩ : MethodName)) hown (mvT hZ (hw _ (List.mem_of_getElem? (i := 32) rfl))) (mvT hZ (hw _ (List.mem_of_getElem? (i := 33) rfl))) (mvT hZ (hw _ (List.mem_of_getElem? (i := 34) rfl))) (mvT hZ (hw _ (List.mem_of_getElem? (i := 35) rfl))) (by decide) (backOf (W := 3) (rmVo l Z a0 hw [] ((xc &&& (255 : Int32)).toUInt32.toUInt16.toUInt32.toInt32) cs h_42 n0 z_42 f_44 hcs (own_c255 _)) hZ (hw _ (List.mem_of_getElem? (i := 35) rfl)) (hw _ (List.mem_of_getElem? (i := 34) rfl)) (by decide) (by decide)) (g := (mkF m 79 #[.val (.int fl), .val (.int sx), .val (.int xc), .val (.int xd), .val (.int (1 : Int32)), .val (.int (((fl.toUInt32 >>> ((1 : Int32) &&& 31).toUInt32).toInt32) &&& (3 : Int32))), .val .null, .val .null, .unset, .unset, .unset] [(.int ((xc &&& (255 : Int32)).toUInt32.toUInt16.toUInt32.toInt32)), (.int sx), (.ref b_42), (.ref b_42)])) rfl (by rw [hml]; rfl) (argsL := [(.int ((xc &&& (255 : Int32)).toUInt32.toUInt16.toUInt32.toInt32))]) (rest := [(.int sx), (.ref b_42), (.ref b_42)]) (lenOf pd_8 rfl) rfl (by show 2 * 0 + _ ≤ _; exact Nat.le_of_eq rfl) (hb hby at_79) (fun _ _ => ⟨rfl, e_42, (by decide : 1 + 2 ≤ _), (by decide : 7 + 5 ≤ _)⟩)
        dsimp only [Pt.U, Pt.locs, Pt.cells, Pt.slots] at X_43 l_43 y_43 z_43 st_43 hQ_43
        obtain rfl : kc_43 = 3 := y_43
        obtain rfl : nc_43 = 12 := z_43
        obtain ⟨h_43, e_43⟩ : ∃ hh, T_43.heap = hh := ⟨_, rfl⟩
        rw [e_43] at hQ_43
        obtain ⟨b__43, d__43, kd__43, rfl, N_43q, K_43, p_43_0, p_43_1, p_43_2, p_43_3, p_43_4, p_43_5, p_43_6, p_43_7, p_43_8⟩ := hQ_43
        have N_43 : Fr n0 L_43 := by rw [l_43]; exact Fr.app N0 N_43q
        refine Go.st st_43 ?_
        have ne_b_42_b__43 : b_42 ≠ b__43 := Nat.ne_of_lt (Nat.lt_of_lt_of_le A_42.lt p_43_0)
        have ne_b_42_d__43 : b_42 ≠ d__43 := Nat.ne_of_lt (Nat.lt_of_lt_of_le A_42.lt p_43_5)
        have z_43q : n0 ≤ h_43.size := Nat.le_trans z_42 K_43.1
        have ns_43 : ∀ x ∈ ([] : List Addr), ∀ cell : Cell, h_42[x]? = some cell → cell.vm.isStatics = false := all0
        show Go p e below s _ _ _ T_43 (mkF m 82 #[.val (.int fl), .val (.int sx), .val (.int xc), .val (.int xd), .val (.int (1 : Int32)), .val (.int (((fl.toUInt32 >>> ((1 : Int32) &&& 31).toUInt32).toInt32) &&& (3 : Int32))), .val .null, .val .null, .unset, .unset, .unset] [(.ref b__43), (.int sx), (.ref b_42), (.ref b_42)])
        have f_46 := (A_42.keep K_43)
        have f_47 := (Un_42.keep K_43 nin0)
        have f_48 := (F_cause_b_42.keep K_43 nin0)
        have f_49 := (F_stackTrace_b_42.keep K_43 nin0)
        have f_50 := (F_suppressedExceptions_b_42.keep K_43 nin0)
        have f_51 := (F_backtrace_b_42.keep K_43 nin0)
        have f_52 := (own_sta_keep (S_UNASSIGNED_STACK.ext E_42) K_43 ns_43)
        have f_53 := (own_sta_keep (S_SUPPRESSED_SENTINEL.ext E_42) K_43 ns_43)
        obtain ⟨_, _, ⟨T_45, L_45, kc_45, nc_45⟩, -, X_45, ⟨Lc_45, hQ_45, l_45, y_45, z_45⟩, st_45⟩ := X_43.specialBack hx (y := (⟨"com/example/plaingrant/plaingrant/server/http/ApiException", "<init>", "(ILjava/lang/String;)V"⟩ : MethodName)) rfl hown (mvT hZ (hw _ (List.mem_of_getElem? (i := 55) rfl))) (mvT hZ (hw _ (List.mem_of_getElem? (i := 56) rfl))) (mvT hZ (hw _ (List.mem_of_getElem? (i := 57) rfl))) (by decide) (backOfKL (W := 1) (rmAx l Z a0 hw [] b_42 sx b__43 us sn h_43 n0 z_43q (by assumption) f_46 f_47 gg_42 f_48 f_49 f_50 f_51 f_52 f_53 rf_us rf_sn) hZ (hw _ (List.mem_of_getElem? (i := 57) rfl)) (hw _ (List.mem_of_getElem? (i := 31) rfl)) (by decide) (by decide) hTK hBe) (g := (mkF m 82 #[.val (.int fl), .val (.int sx), .val (.int xc), .val (.int xd), .val (.int (1 : Int32)), .val (.int (((fl.toUInt32 >>> ((1 : Int32) &&& 31).toUInt32).toInt32) &&& (3 : Int32))), .val .null, .val .null, .unset, .unset, .unset] [(.ref b__43), (.int sx), (.ref b_42), (.ref b_42)])) rfl (by rw [hml]; rfl) (Steps.refl _) (a := b_42) (argsL := [(.int sx), (.ref b__43)]) (rest := [(.ref b_42)]) (lenOf pd_9 rfl) rfl (by show 2 * 0 + _ ≤ _; exact Nat.le_of_eq rfl) (hb hby at_82) (fun _ _ => ⟨rfl, e_43, (by decide : 3 + 1 ≤ _), (by decide : 12 + 2752 ≤ _)⟩)
        dsimp only [Pt.U, Pt.locs, Pt.cells, Pt.slots] at X_45 l_45 y_45 z_45 st_45 hQ_45
        obtain rfl : kc_45 = 4 := y_45
        obtain rfl : nc_45 = 2764 := z_45
        obtain ⟨h_45, e_45⟩ : ∃ hh, T_45.heap = hh := ⟨_, rfl⟩
        rw [e_45] at hQ_45
        obtain ⟨rfl, N_45q, K_45, p_45_0⟩ := hQ_45
        have N_45 : Fr n0 L_45 := by rw [l_45]; exact Fr.app N_43 N_45q
        refine Go.st (fun _ kk => st_45.trans kk) ?_
        have z_45q : n0 ≤ h_45.size := Nat.le_trans z_43q K_45.1
        have ns_45 : ∀ x ∈ ([b_42] : List Addr), ∀ cell : Cell, h_43[x]? = some cell → cell.vm.isStatics = false := (allS f_46.nostat all0)
        show Go p e below s _ _ _ T_45 (mkF m 85 #[.val (.int fl), .val (.int sx), .val (.int xc), .val (.int xd), .val (.int (1 : Int32)), .val (.int (((fl.toUInt32 >>> ((1 : Int32) &&& 31).toUInt32).toInt32) &&& (3 : Int32))), .val .null, .val .null, .unset, .unset, .unset] [(.ref b_42)])
        refine Go.st (fun _ => XS.astore X_45.here hx rfl (hb hby at_85) rfl rfl (l' := #[.val (.int fl), .val (.int sx), .val (.int xc), .val (.int xd), .val (.int (1 : Int32)), .val (.int (((fl.toUInt32 >>> ((1 : Int32) &&& 31).toUInt32).toInt32) &&& (3 : Int32))), .val .null, .val (.ref b_42), .unset, .unset, .unset]) rfl) ?_
        show Go p e below s _ _ _ T_45 (mkF m 87 #[.val (.int fl), .val (.int sx), .val (.int xc), .val (.int xd), .val (.int (1 : Int32)), .val (.int (((fl.toUInt32 >>> ((1 : Int32) &&& 31).toUInt32).toInt32) &&& (3 : Int32))), .val .null, .val (.ref b_42), .unset, .unset, .unset] [])
        obtain ⟨T_54, h_54, X_54, e_54, E_54, A_54, D_54, U_54, st_54⟩ := newO X_45 hx hZ hown (hw _ (List.mem_of_getElem? (i := 0) rfl)) (hw _ (List.mem_of_getElem? (i := 1) rfl)) (hw _ (List.mem_of_getElem? (i := 2) rfl)) e_45 (g := (mkF m 87 #[.val (.int fl), .val (.int sx), .val (.int xc), .val (.int xd), .val (.int (1 : Int32)), .val (.int (((fl.toUInt32 >>> ((1 : Int32) &&& 31).toUInt32).toInt32) &&& (3 : Int32))), .val .null, .val (.ref b_42), .unset, .unset, .unset] [])) rfl (hb hby at_87) (by decide) (by decide)
        obtain ⟨b_54, g_54⟩ : ∃ z, z = h_45.size := ⟨_, rfl⟩
        rw [← g_54] at A_54 D_54 st_54 U_54
        refine Go.st st_54 ?_
        have ne_b_42_b_54 : b_42 ≠ b_54 := Nat.ne_of_lt (Nat.lt_of_lt_of_eq p_45_0.lt g_54.symm)
        have f_55 := (p_43_2.keep K_45)
        have ne_b__43_b_54 : b__43 ≠ b_54 := Nat.ne_of_lt (Nat.lt_of_lt_of_eq f_55.lt g_54.symm)
        have f_56 := (p_43_7.keep K_45 (ninS (Ne.symm ne_b_42_d__43) nin0))
        have ne_d__43_b_54 : d__43 ≠ b_54 := Nat.ne_of_lt (Nat.lt_of_lt_of_eq f_56.lt g_54.symm)
        have gg_54 : n0 ≤ b_54 := Nat.le_trans z_45q (Nat.le_of_eq g_54.symm)
        have z_54 : n0 ≤ h_54.size := Nat.le_trans z_45q E_54.1
        have Un_54 : Unt h_54 b_54 := U_54
        have F_bytes_b_54 : Fld Z h_54 b_54 "com/example/plaingrant/plaingrant/server/http/Request$Body" "bytes" "[B" .null := D_54 (Or.inr (hw _ (List.mem_of_getElem? (i := 15) rfl))) (ty := (.array .byte)) (by decide)
        have F_refusal_b_54 : Fld Z h_54 b_54 "com/example/plaingrant/plaingrant/server/http/Request$Body" "refusal" "Lcom/example/plaingrant/plaingrant/server/http/ApiException;" .null := D_54 (Or.inr (hw _ (List.mem_of_getElem? (i := 17) rfl))) (ty := (.object "com/example/plaingrant/plaingrant/server/http/ApiException")) (by decide)
        show Go p e below s _ _ _ T_54 (mkF m 90 #[.val (.int fl), .val (.int sx), .val (.int xc), .val (.int xd), .val (.int (1 : Int32)), .val (.int (((fl.toUInt32 >>> ((1 : Int32) &&& 31).toUInt32).toInt32) &&& (3 : Int32))), .val .null, .val (.ref b_42), .unset, .unset, .unset] [(.ref b_54)])
        refine Go.st (fun _ => XS.dup X_54.here hx rfl (hb hby at_90) rfl rfl) ?_
        show Go p e below s _ _ _ T_54 (mkF m 91 #[.val (.int fl), .val (.int sx), .val (.int xc), .val (.int xd), .val (.int (1 : Int32)), .val (.int (((fl.toUInt32 >>> ((1 : Int32) &&& 31).toUInt32).toInt32) &&& (3 : Int32))), .val .null, .val (.ref b_42), .unset, .unset, .unset] [(.ref b_54), (.ref b_54)])
        refine Go.st (fun _ => XS.aload X_54.here hx rfl (hb hby at_91) rfl rfl) ?_
        show Go p e below s _ _ _ T_54 (mkF m 93 #[.val (.int fl), .val (.int sx), .val (.int xc), .val (.int xd), .val (.int (1 : Int32)), .val (.int (((fl.toUInt32 >>> ((1 : Int32) &&& 31).toUInt32).toInt32) &&& (3 : Int32))), .val .null, .val (.ref b_42), .unset, .unset, .unset] [.null, (.ref b_54), (.ref b_54)])
        refine Go.st (fun _ => XS.aload X_54.here hx rfl (hb hby at_93) rfl rfl) ?_
        show Go p e below s _ _ _ T_54 (mkF m 95 #[.val (.int fl), .val (.int sx), .val (.int xc), .val (.int xd), .val (.int (1 : Int32)), .val (.int (((fl.toUInt32 >>> ((1 : Int32) &&& 31).toUInt32).toInt32) &&& (3 : Int32))), .val .null, .val (.ref b_42), .unset, .unset, .unset] [(.ref b_42), .null, (.ref b_54), (.ref b_54)])
        obtain ⟨_, _, ⟨T_57, L_57, kc_57, nc_57⟩, -, X_57, ⟨Lc_57, hQ_57, l_57, y_57, z_57⟩, st_57⟩ := X_54.specialBack hx (y := (⟨"com/example/plaingrant/plaingrant/server/http/Request$Body", "<init>", "([BLcom/example/plaingrant/plaingrant/server/http/ApiException;)V"⟩ : MethodName)) rfl hown (mvT hZ (hw _ (List.mem_of_getElem? (i := 3) rfl))) (mvT hZ (hw _ (List.mem_of_getElem? (i := 4) rfl))) (mvT hZ (hw _ (List.mem_of_getElem? (i := 5) rfl))) (by decide) (backOf (W := 1) (rmInr l Z a0 hw [] b_54 b_42 h_54 n0 z_54 A_54 F_bytes_b_54 F_refusal_b_54 gg_54) hZ (hw _ (List.mem_of_getElem? (i := 5) rfl)) (hw _ (List.mem_of_getElem? (i := 2) rfl)) (by decide) (by decide)) (g := (mkF m 95 #[.val (.int fl), .val (.int sx), .val (.int xc), .val (.int xd), .val (.int (1 : Int32)), .val (.int (((fl.toUInt32 >>> ((1 : Int32) &&& 31).toUInt32).toInt32) &&& (3 : Int32))), .val .null, .val (.ref b_42), .unset, .unset, .unset] [(.ref b_42), .null, (.ref b_54), (.ref b_54)])) rfl (by rw [hml]; rfl) (Steps.refl _) (a := b_54) (argsL := [.null, (.ref b_42)]) (rest := [(.ref b_54)]) (lenOf pd_5 rfl) rfl (by show 2 * 0 + _ ≤ _; exact Nat.le_of_eq rfl) (hb hby at_95) (fun _ _ => ⟨rfl, e_54, (by decide : 5 + 0 ≤ _), (by decide : 2766 + 0 ≤ _)⟩)
        dsimp only [Pt.U, Pt.locs, Pt.cells, Pt.slots] at X_57 l_57 y_57 z_57 st_57 hQ_57
        obtain rfl : kc_57 = 5 := y_57
        obtain rfl : nc_57 = 2766 := z_57
        obtain ⟨h_57, e_57⟩ : ∃ hh, T_57.heap = hh := ⟨_, rfl⟩
        rw [e_57] at hQ_57
        obtain ⟨rfl, N_57q, K_57, p_57_0, p_57_1, p_57_2⟩ := hQ_57
        have N_57 : Fr n0 L_57 := by rw [l_57]; exact Fr.app N_45 N_57q
        refine Go.st (fun _ kk => st_57.trans kk) ?_
        have z_57q : n0 ≤ h_57.size := Nat.le_trans z_54 K_57.1
        have ns_57 : ∀ x ∈ ([b_54] : List Addr), ∀ cell : Cell, h_54[x]? = some cell → cell.vm.isStatics = false := (allS A_54.nostat all0)
        show Go p e below s _ _ _ T_57 (mkF m 98 #[.val (.int fl), .val (.int sx), .val (.int xc), .val (.int xd), .val (.int (1 : Int32)), .val (.int (((fl.toUInt32 >>> ((1 : Int32) &&& 31).toUInt32).toInt32) &&& (3 : Int32))), .val .null, .val (.ref b_42), .unset, .unset, .unset] [(.ref b_54)])
        refine Go.st (fun _ => XS.astore X_57.here hx rfl (hb hby at_98) rfl rfl (l' := #[.val (.int fl), .val (.int sx), .val (.int xc), .val (.int xd), .val (.int (1 : Int32)), .val (.int (((fl.toUInt32 >>> ((1 : Int32) &&& 31).toUInt32).toInt32) &&& (3 : Int32))), .val .null, .val (.ref b_42), .val (.ref b_54), .unset, .unset]) rfl) ?_
        show Go p e below s _ _ _ T_57 (mkF m 100 #[.val (.int fl), .val (.int sx), .val (.int xc), .val (.int xd), .val (.int (1 : Int32)), .val (.int (((fl.toUInt32 >>> ((1 : Int32) &&& 31).toUInt32).toInt32) &&& (3 : Int32))), .val .null, .val (.ref b_42), .val (.ref b_54), .unset, .unset] [])
        refine Go.st (fun _ => XS.aload X_57.here hx rfl (hb hby at_100) rfl rfl) ?_
        show Go p e below s _ _ _ T_57 (mkF m 102 #[.val (.int fl), .val (.int sx), .val (.int xc), .val (.int xd), .val (.int (1 : Int32)), .val (.int (((fl.toUInt32 >>> ((1 : Int32) &&& 31).toUInt32).toInt32) &&& (3 : Int32))), .val .null, .val (.ref b_42), .val (.ref b_54), .unset, .unset] [(.ref b_54)])
        obtain ⟨cq_58, kq_58, q_58a, q_58b, q_58c⟩ := isOf hZ e_57 p_57_0
        obtain ⟨_, _, ⟨T_58, L_58, kc_58, nc_58⟩, -, X_58, ⟨Lc_58, hQ_58, l_58, y_58, z_58⟩, st_58⟩ := X_57.virtualBack hx (y := (⟨"com/example/plaingrant/plaingrant/server/http/Request$Body", "whole", "()Z"⟩ : MethodName)) (z := (⟨"com/example/plaingrant/plaingrant/server/http/Request$Body", "whole", "()Z"⟩ : MethodName)) hown (mvT hZ (hw _ (List.mem_of_getElem? (i := 18) rfl))) (mvT hZ (hw _ (List.mem_of_getElem? (i := 19) rfl))) (notFace_of_selects (args := #[]) (mvT hZ (hw _ (List.mem_of_getElem? (i := 21) rfl)))) (mvT hZ (hw _ (List.mem_of_getElem? (i := 21) rfl))) (mvT hZ (hw _ (List.mem_of_getElem? (i := 20) rfl))) (by decide) (backOf (W := 0) (rmWr l Z a0 hw [] b_54 b_42 h_57 n0 z_57q p_57_2) hZ (hw _ (List.mem_of_getElem? (i := 22) rfl)) (hw _ (List.mem_of_getElem? (i := 2) rfl)) (by decide) (by decide)) q_58a q_58c (g := (mkF m 102 #[.val (.int fl), .val (.int sx), .val (.int xc), .val (.int xd), .val (.int (1 : Int32)), .val (.int (((fl.toUInt32 >>> ((1 : Int32) &&& 31).toUInt32).toInt32) &&& (3 : Int32))), .val .null, .val (.ref b_42), .val (.ref b_54), .unset, .unset] [(.ref b_54)])) rfl (by rw [hml]; rfl) (Steps.refl _) (argsL := []) (rest := []) (lenOf pd_6 rfl) rfl (by show 2 * 0 + _ ≤ _; exact Nat.le_of_eq rfl) (hb hby at_102) (fun _ _ => ⟨rfl, e_57, (by decide : 5 + 0 ≤ _), (by decide : 2766 + 0 ≤ _)⟩)
        dsimp only [Pt.U, Pt.locs, Pt.cells, Pt.slots] at X_58 l_58 y_58 z_58 st_58 hQ_58
        obtain rfl : kc_58 = 5 := y_58
        obtain rfl : nc_58 = 2766 := z_58
        obtain ⟨h_58, e_58⟩ : ∃ hh, T_58.heap = hh := ⟨_, rfl⟩
        rw [e_58] at hQ_58
        obtain ⟨rfl, N_58q, sm_58⟩ := hQ_58
        have N_58 : Fr n0 L_58 := by rw [l_58]; exact Fr.app N_57 N_58q
        refine Go.st (fun _ kk => st_58.trans kk) ?_
        rw [sm_58] at e_58
        show Go p e below s _ _ _ T_58 (mkF m 105 #[.val (.int fl), .val (.int sx), .val (.int xc), .val (.int xd), .val (.int (1 : Int32)), .val (.int (((fl.toUInt32 >>> ((1 : Int32) &&& 31).toUInt32).toInt32) &&& (3 : Int32))), .val .null, .val (.ref b_42), .val (.ref b_54), .unset, .unset] [(.int (0 : Int32))])
        refine Go.st (fun _ => XS.istore X_58.here hx rfl (hb hby at_105) rfl (l' := #[.val (.int fl), .val (.int sx), .val (.int xc), .val (.int xd), .val (.int (1 : Int32)), .val (.int (((fl.toUInt32 >>> ((1 : Int32) &&& 31).toUInt32).toInt32) &&& (3 : Int32))), .val .null, .val (.ref b_42), .val (.ref b_54), .val (.int (0 : Int32)), .unset]) rfl) ?_
        show Go p e below s _ _ _ T_58 (mkF m 107 #[.val (.int fl), .val (.int sx), .val (.int xc), .val (.int xd), .val (.int (1 : Int32)), .val (.int (((fl.toUInt32 >>> ((1 : Int32) &&& 31).toUInt32).toInt32) &&& (3 : Int32))), .val .null, .val (.ref b_42), .val (.ref b_54), .val (.int (0 : Int32)), .unset] [])
        refine Go.st (fun _ => XS.iload X_58.here hx rfl (hb hby at_107) rfl) ?_
        show Go p e below s _ _ _ T_58 (mkF m 109 #[.val (.int fl), .val (.int sx), .val (.int xc), .val (.int xd), .val (.int (1 : Int32)), .val (.int (((fl.toUInt32 >>> ((1 : Int32) &&& 31).toUInt32).toInt32) &&& (3 : Int32))), .val .null, .val (.ref b_42), .val (.ref b_54), .val (.int (0 : Int32)), .unset] [(.int (0 : Int32))])
        refine Go.st (fun _ => XS.iload X_58.here hx rfl (hb hby at_109) rfl) ?_
        show Go p e below s _ _ _ T_58 (mkF m 111 #[.val (.int fl), .val (.int sx), .val (.int xc), .val (.int xd), .val (.int (1 : Int32)), .val (.int (((fl.toUInt32 >>> ((1 : Int32) &&& 31).toUInt32).toInt32) &&& (3 : Int32))), .val .null, .val (.ref b_42), .val (.ref b_54), .val (.int (0 : Int32)), .unset] [(.int (1 : Int32)), (.int (0 : Int32))])
        refine Go.st (fun _ => XS.icmpYes X_58.here hx rfl (pc0 := 111) (pc' := 116) rfl (hb hby at_111) rfl (feq (by decide : ¬ ((0 : Int32) = (1 : Int32)))).2 (by decide) (by decide)) ?_
        show Go p e below s _ _ _ T_58 (mkF m 116 #[.val (.int fl), .val (.int sx), .val (.int xc), .val (.int xd), .val (.int (1 : Int32)), .val (.int (((fl.toUInt32 >>> ((1 : Int32) &&& 31).toUInt32).toInt32) &&& (3 : Int32))), .val .null, .val (.ref b_42), .val (.ref b_54), .val (.int (0 : Int32)), .unset] [])
        refine Go.st (fun _ => XS.iload X_58.here hx rfl (hb hby at_116) rfl) ?_
        show Go p e below s _ _ _ T_58 (mkF m 118 #[.val (.int fl), .val (.int sx), .val (.int xc), .val (.int xd), .val (.int (1 : Int32)), .val (.int (((fl.toUInt32 >>> ((1 : Int32) &&& 31).toUInt32).toInt32) &&& (3 : Int32))), .val .null, .val (.ref b_42), .val (.ref b_54), .val (.int (0 : Int32)), .unset] [(.int (0 : Int32))])
        refine Go.st (fun _ => XS.ifYes X_58.here hx rfl (pc0 := 118) (pc' := 141) rfl (hb hby at_118) rfl ((if0 _ _).trans (teq (by decide : (0 : Int32) = (0 : Int32))).1) (by decide) (by decide)) ?_
        show Go p e below s _ _ _ T_58 (mkF m 141 #[.val (.int fl), .val (.int sx), .val (.int xc), .val (.int xd), .val (.int (1 : Int32)), .val (.int (((fl.toUInt32 >>> ((1 : Int32) &&& 31).toUInt32).toInt32) &&& (3 : Int32))), .val .null, .val (.ref b_42), .val (.ref b_54), .val (.int (0 : Int32)), .unset] [])
        refine Go.st (fun _ => XS.iconst X_58.here hx rfl (hb hby at_141)) ?_
        show Go p e below s _ _ _ T_58 (mkF m 142 #[.val (.int fl), .val (.int sx), .val (.int xc), .val (.int xd), .val (.int (1 : Int32)), .val (.int (((fl.toUInt32 >>> ((1 : Int32) &&& 31).toUInt32).toInt32) &&& (3 : Int32))), .val .null, .val (.ref b_42), .val (.ref b_54), .val (.int (0 : Int32)), .unset] [(.int (1 : Int32))])
        exact Go.retZ X_58 hx hlk Bd.returns (hb hby at_142) rfl (by rw [e_58]; exact ⟨rfl, N_58⟩) (by decide) (by decide)
      · refine Go.st (fun _ => XS.icmpNo X0.here hx rfl (hb hby at_40) rfl (flt hc_41).1) ?_
        show Go p e below s _ _ _ s₁ (mkF m 43 #[.val (.int fl), .val (.int sx), .val (.int xc), .val (.int xd), .val (.int (1 : Int32)), .val (.int (((fl.toUInt32 >>> ((1 : Int32) &&& 31).toUInt32).toInt32) &&& (3 : Int32))), .val .null, .unset, .unset, .unset, .unset] [])
        refine Go.st (fun _ => XS.iconst X0.here hx rfl (hb hby at_43)) ?_
        show Go p e below s _ _ _ s₁ (mkF m 44 #[.val (.int fl), .val (.int sx), .val (.int xc), .val (.int xd), .val (.int (1 : Int32)), .val (.int (((fl.toUInt32 >>> ((1 : Int32) &&& 31).toUInt32).toInt32) &&& (3 : Int32))), .val .null, .unset, .unset, .unset, .unset] [(.int (2 : Int32))])
        obtain ⟨T_59, h_59, kA_59, X_59, e_59, E_59, A_59, st_59⟩ := newP X0 hx hZ (hw _ (List.mem_of_getElem? (i := 28) rfl)) e0 (g := (mkF m 44 #[.val (.int fl), .val (.int sx), .val (.int xc), .val (.int xd), .val (.int (1 : Int32)), .val (.int (((fl.toUInt32 >>> ((1 : Int32) &&& 31).toUInt32).toInt32) &&& (3 : Int32))), .val .null, .unset, .unset, .unset, .unset] [(.int (2 : Int32))])) rfl (hb hby at_44) rfl (by decide) (cap := 2) (by decide) (by decide) (by decide) (by decide)
        obtain ⟨b_59, g_59⟩ : ∃ z, z = h0.size := ⟨_, rfl⟩
        rw [← g_59] at A_59 st_59
        refine Go.st st_59 ?_
        have gg_59 : n0 ≤ b_59 := Nat.le_trans Z0 (Nat.le_of_eq g_59.symm)
        have z_59 : n0 ≤ h_59.size := Nat.le_trans Z0 E_59.1
        have V_b_59 : Arv Z h_59 b_59 kA_59 .byte (2 : Int32) [(.int (0 : Int32)), (.int (0 : Int32))] (.int (0 : Int32)) := (Arv.new A_59 (by decide)).pad (pad_rep [] (.int (0 : Int32)) 2)
        show Go p e below s _ _ _ T_59 (mkF m 46 #[.val (.int fl), .val (.int sx), .val (.int xc), .val (.int xd), .val (.int (1 : Int32)), .val (.int (((fl.toUInt32 >>> ((1 : Int32) &&& 31).toUInt32).toInt32) &&& (3 : Int32))), .val .null, .unset, .unset, .unset, .unset] [(.ref b_59)])
        refine Go.st (fun _ => XS.astore X_59.here hx rfl (hb hby at_46) rfl rfl (l' := #[.val (.int fl), .val (.int sx), .val (.int xc), .val (.int xd), .val (.int (1 : Int32)), .val (.int (((fl.toUInt32 >>> ((1 : Int32) &&& 31).toUInt32).toInt32) &&& (3 : Int32))), .val (.ref b_59), .unset, .unset, .unset, .unset]) rfl) ?_
        show Go p e below s _ _ _ T_59 (mkF m 48 #[.val (.int fl), .val (.int sx), .val (.int xc), .val (.int xd), .val (.int (1 : Int32)), .val (.int (((fl.toUInt32 >>> ((1 : Int32) &&& 31).toUInt32).toInt32) &&& (3 : Int32))), .val (.ref b_59), .unset, .unset, .unset, .unset] [])
        refine Go.st (fun _ => XS.aload X_59.here hx rfl (hb hby at_48) rfl rfl) ?_
        show Go p e below s _ _ _ T_59 (mkF m 50 #[.val (.int fl), .val (.int sx), .val (.int xc), .val (.int xd), .val (.int (1 : Int32)), .val (.int (((fl.toUInt32 >>> ((1 : Int32) &&& 31).toUInt32).toInt32) &&& (3 : Int32))), .val (.ref b_59), .unset, .unset, .unset, .unset] [(.ref b_59)])
        refine Go.st (fun _ => XS.iconst X_59.here hx rfl (hb hby at_50)) ?_
        show Go p e below s _ _ _ T_59 (mkF m 51 #[.val (.int fl), .val (.int sx), .val (.int xc), .val (.int xd), .val (.int (1 : Int32)), .val (.int (((fl.toUInt32 >>> ((1 : Int32) &&& 31).toUInt32).toInt32) &&& (3 : Int32))), .val (.ref b_59), .unset, .unset, .unset, .unset] [(.int (0 : Int32)), (.ref b_59)])
        refine Go.st (fun _ => XS.iloadN X_59.here hx rfl (hb hby at_51) rfl) ?_
        show Go p e below s _ _ _ T_59 (mkF m 52 #[.val (.int fl), .val (.int sx), .val (.int xc), .val (.int xd), .val (.int (1 : Int32)), .val (.int (((fl.toUInt32 >>> ((1 : Int32) &&& 31).toUInt32).toInt32) &&& (3 : Int32))), .val (.ref b_59), .unset, .unset, .unset, .unset] [(.int xc), (.int (0 : Int32)), (.ref b_59)])
        refine Go.st (fun _ => XS.i2b X_59.here hx rfl (hb hby at_52) rfl) ?_
        show Go p e below s _ _ _ T_59 (mkF m 53 #[.val (.int fl), .val (.int sx), .val (.int xc), .val (.int xd), .val (.int (1 : Int32)), .val (.int (((fl.toUInt32 >>> ((1 : Int32) &&& 31).toUInt32).toInt32) &&& (3 : Int32))), .val (.ref b_59), .unset, .unset, .unset, .unset] [(.int (xc.toInt8.toInt32)), (.int (0 : Int32)), (.ref b_59)])
        obtain ⟨cl_60, Ar_60, q_60, S_60, M_60, H_60, G_60⟩ := id V_b_59
        have hin_60 : ¬ ((0 : Int32) < 0 ∨ cl_60.slots.size ≤ ((0 : Int32)).toNatClampNeg) := inb_of S_60 ⟨by decide, by decide⟩
        obtain ⟨T_60, h_60, X_60, e_60, W_60, st_60⟩ := stB X_59 hx hZ e_59 Ar_60 (j := (0 : Int32)) hin_60 (g := (mkF m 53 #[.val (.int fl), .val (.int sx), .val (.int xc), .val (.int xd), .val (.int (1 : Int32)), .val (.int (((fl.toUInt32 >>> ((1 : Int32) &&& 31).toUInt32).toInt32) &&& (3 : Int32))), .val (.ref b_59), .unset, .unset, .unset, .unset] [(.int (xc.toInt8.toInt32)), (.int (0 : Int32)), (.ref b_59)])) rfl rfl (hb hby at_53)
        refine Go.st st_60 ?_
        rw [own_nb] at W_60
        have V_60 : Arv Z h_60 b_59 kA_59 .byte (2 : Int32) [(.int (xc.toInt8.toInt32)), (.int (0 : Int32))] (.int (0 : Int32)) := Arv.set Ar_60 q_60 S_60 M_60 H_60 G_60 (fits_nar_byte _) W_60 0 rfl (Nat.le_of_ble_eq_true rfl)
        have N_60 := Fr.snoc X_60 N0 gg_59
        have z_60 : n0 ≤ h_60.size := Nat.le_trans z_59 (Nat.le_of_eq W_60.size.symm)
        show Go p e below s _ _ _ T_60 (mkF m 54 #[.val (.int fl), .val (.int sx), .val (.int xc), .val (.int xd), .val (.int (1 : Int32)), .val (.int (((fl.toUInt32 >>> ((1 : Int32) &&& 31).toUInt32).toInt32) &&& (3 : Int32))), .val (.ref b_59), .unset, .unset, .unset, .unset] [])
        refine Go.st (fun _ => XS.aload X_60.here hx rfl (hb hby at_54) rfl rfl) ?_
        show Go p e below s _ _ _ T_60 (mkF m 56 #[.val (.int fl), .val (.int sx), .val (.int xc), .val (.int xd), .val (.int (1 : Int32)), .val (.int (((fl.toUInt32 >>> ((1 : Int32) &&& 31).toUInt32).toInt32) &&& (3 : Int32))), .val (.ref b_59), .unset, .unset, .unset, .unset] [(.ref b_59)])
        refine Go.st (fun _ => XS.iconst X_60.here hx rfl (hb hby at_56)) ?_
        show Go p e below s _ _ _ T_60 (mkF m 57 #[.val (.int fl), .val (.int sx), .val (.int xc), .val (.int xd), .val (.int (1 : Int32)), .val (.int (((fl.toUInt32 >>> ((1 : Int32) &&& 31).toUInt32).toInt32) &&& (3 : Int32))), .val (.ref b_59), .unset, .unset, .unset, .unset] [(.int (1 : Int32)), (.ref b_59)])
        refine Go.st (fun _ => XS.iloadN X_60.here hx rfl (hb hby at_57) rfl) ?_
        show Go p e below s _ _ _ T_60 (mkF m 58 #[.val (.int fl), .val (.int sx), .val (.int xc), .val (.int xd), .val (.int (1 : Int32)), .val (.int (((fl.toUInt32 >>> ((1 : Int32) &&& 31).toUInt32).toInt32) &&& (3 : Int32))), .val (.ref b_59), .unset, .unset, .unset, .unset] [(.int xd), (.int (1 : Int32)), (.ref b_59)])
        refine Go.st (fun _ => XS.i2b X_60.here hx rfl (hb hby at_58) rfl) ?_
        show Go p e below s _ _ _ T_60 (mkF m 59 #[.val (.int fl), .val (.int sx), .val (.int xc), .val (.int xd), .val (.int (1 : Int32)), .val (.int (((fl.toUInt32 >>> ((1 : Int32) &&& 31).toUInt32).toInt32) &&& (3 : Int32))), .val (.ref b_59), .unset, .unset, .unset, .unset] [(.int (xd.toInt8.toInt32)), (.int (1 : Int32)), (.ref b_59)])
        obtain ⟨cl_61, Ar_61, q_61, S_61, M_61, H_61, G_61⟩ := id V_60
        have hin_61 : ¬ ((1 : Int32) < 0 ∨ cl_61.slots.size ≤ ((1 : Int32)).toNatClampNeg) := inb_of S_61 ⟨by decide, by decide⟩
        obtain ⟨T_61, h_61, X_61, e_61, W_61, st_61⟩ := stB X_60 hx hZ e_60 Ar_61 (j := (1 : Int32)) hin_61 (g := (mkF m 59 #[.val (.int fl), .val (.int sx), .val (.int xc), .val (.int xd), .val (.int (1 : Int32)), .val (.int (((fl.toUInt32 >>> ((1 : Int32) &&& 31).toUInt32).toInt32) &&& (3 : Int32))), .val (.ref b_59), .unset, .unset, .unset, .unset] [(.int (xd.toInt8.toInt32)), (.int (1 : Int32)), (.ref b_59)])) rfl rfl (hb hby at_59)
        refine Go.st st_61 ?_
        rw [own_nb] at W_61
        have V_61 : Arv Z h_61 b_59 kA_59 .byte (2 : Int32) [(.int (xc.toInt8.toInt32)), (.int (xd.toInt8.toInt32))] (.int (0 : Int32)) := Arv.set Ar_61 q_61 S_61 M_61 H_61 G_61 (fits_nar_byte _) W_61 1 rfl (Nat.le_of_ble_eq_true rfl)
        have N_61 := Fr.snoc X_61 N_60 gg_59
        have z_61 : n0 ≤ h_61.size := Nat.le_trans z_60 (Nat.le_of_eq W_61.size.symm)
        show Go p e below s _ _ _ T_61 (mkF m 60 #[.val (.int fl), .val (.int sx), .val (.int xc), .val (.int xd), .val (.int (1 : Int32)), .val (.int (((fl.toUInt32 >>> ((1 : Int32) &&& 31).toUInt32).toInt32) &&& (3 : Int32))), .val (.ref b_59), .unset, .unset, .unset, .unset] [])
        refine Go.st (fun _ => XS.aconstNull X_61.here hx rfl (hb hby at_60)) ?_
        show Go p e below s _ _ _ T_61 (mkF m 61 #[.val (.int fl), .val (.int sx), .val (.int xc), .val (.int xd), .val (.int (1 : Int32)), .val (.int (((fl.toUInt32 >>> ((1 : Int32) &&& 31).toUInt32).toInt32) &&& (3 : Int32))), .val (.ref b_59), .unset, .unset, .unset, .unset] [.null])
        refine Go.st (fun _ => XS.astore X_61.here hx rfl (hb hby at_61) rfl rfl (l' := #[.val (.int fl), .val (.int sx), .val (.int xc), .val (.int xd), .val (.int (1 : Int32)), .val (.int (((fl.toUInt32 >>> ((1 : Int32) &&& 31).toUInt32).toInt32) &&& (3 : Int32))), .val (.ref b_59), .val .null, .unset, .unset, .unset]) rfl) ?_
        show Go p e below s _ _ _ T_61 (mkF m 63 #[.val (.int fl), .val (.int sx), .val (.int xc), .val (.int xd), .val (.int (1 : Int32)), .val (.int (((fl.toUInt32 >>> ((1 : Int32) &&& 31).toUInt32).toInt32) &&& (3 : Int32))), .val (.ref b_59), .val .null, .unset, .unset, .unset] [])
        refine Go.st (fun _ => XS.iload X_61.here hx rfl (hb hby at_63) rfl) ?_
        show Go p e below s _ _ _ T_61 (mkF m 65 #[.val (.int fl), .val (.int sx), .val (.int xc), .val (.int xd), .val (.int (1 : Int32)), .val (.int (((fl.toUInt32 >>> ((1 : Int32) &&& 31).toUInt32).toInt32) &&& (3 : Int32))), .val (.ref b_59), .val .null, .unset, .unset, .unset] [(.int (1 : Int32))])
        refine Go.st (fun _ => XS.ifNo X_61.here hx rfl (hb hby at_65) rfl ((if0 _ _).trans (feq (by decide : ¬ ((1 : Int32) = (0 : Int32)))).1)) ?_
        show Go p e below s _ _ _ T_61 (mkF m 68 #[.val (.int fl), .val (.int sx), .val (.int xc), .val (.int xd), .val (.int (1 : Int32)), .val (.int (((fl.toUInt32 >>> ((1 : Int32) &&& 31).toUInt32).toInt32) &&& (3 : Int32))), .val (.ref b_59), .val .null, .unset, .unset, .unset] [])
        obtain ⟨T_62, h_62, X_62, e_62, E_62, A_62, D_62, U_62, st_62⟩ := newO X_61 hx hZ hown (hw _ (List.mem_of_getElem? (i := 29) rfl)) (hw _ (List.mem_of_getElem? (i := 30) rfl)) (hw _ (List.mem_of_getElem? (i := 31) rfl)) e_61 (g := (mkF m 68 #[.val (.int fl), .val (.int sx), .val (.int xc), .val (.int xd), .val (.int (1 : Int32)), .val (.int (((fl.toUInt32 >>> ((1 : Int32) &&& 31).toUInt32).toInt32) &&& (3 : Int32))), .val (.ref b_59), .val .null, .unset, .unset, .unset] [])) rfl (hb hby at_68) (by decide) (by decide)
        obtain ⟨b_62, g_62⟩ : ∃ z, z = h_61.size := ⟨_, rfl⟩
        rw [← g_62] at A_62 D_62 st_62 U_62
        refine Go.st st_62 ?_
        have ne_b_59_b_62 : b_59 ≠ b_62 := Nat.ne_of_lt (Nat.lt_of_lt_of_eq V_61.lt g_62.symm)
        have gg_62 : n0 ≤ b_62 := Nat.le_trans z_61 (Nat.le_of_eq g_62.symm)
        have z_62 : n0 ≤ h_62.size := Nat.le_trans z_61 E_62.1
        have Un_62 : Unt h_62 b_62 := U_62
        have F_cause_b_62 : Fld Z h_62 b_62 "java/lang/Throwable" "cause" "Ljava/lang/Throwable;" .null := D_62 (Or.inl (hw _ (List.mem_of_getElem? (i := 71) rfl))) (ty := (.object "java/lang/Throwable")) (by decide)
        have F_stackTrace_b_62 : Fld Z h_62 b_62 "java/lang/Throwable" "stackTrace" "[Ljava/lang/StackTraceElement;" .null := D_62 (Or.inl (hw _ (List.mem_of_getElem? (i := 74) rfl))) (ty := (.array (.object "java/lang/StackTraceElement"))) (by decide)
        have F_suppressedExceptions_b_62 : Fld Z h_62 b_62 "java/lang/Throwable" "suppressedExceptions" "Ljava/util/List;" .null := D_62 (Or.inl (hw _ (List.mem_of_getElem? (i := 77) rfl))) (ty := (.object "java/util/List")) (by decide)
        have F_detailMessage_b_62 : Fld Z h_62 b_62 "java/lang/Throwable" "detailMessage" "Ljava/lang/String;" .null := D_62 (Or.inl (hw _ (List.mem_of_getElem? (i := 101) rfl))) (ty := (.object "java/lang/String")) (by decide)
        have F_backtrace_b_62 : Fld Z h_62 b_62 "java/lang/Throwable" "backtrace" "Ljava/lang/Object;" .null := D_62 (Or.inl (hw _ (List.mem_of_getElem? (i := 102) rfl))) (ty := (.object "java/lang/Object")) (by decide)
        have F_depth_b_62 : Fld Z h_62 b_62 "java/lang/Throwable" "depth" "I" (.int (0 : Int32)) := D_62 (Or.inl (hw _ (List.mem_of_getElem? (i := 103) rfl))) (ty := .int) (by decide)
        have F_mStatus_b_62 : Fld Z h_62 b_62 "com/example/plaingrant/plaingrant/server/http/ApiException" "mStatus" "I" (.int (0 : Int32)) := D_62 (Or.inr (hw _ (List.mem_of_getElem? (i := 107) rfl))) (ty := .int) (by decide)
        show Go p e below s _ _ _ T_62 (mkF m 71 #[.val (.int fl), .val (.int sx), .val (.int xc), .val (.int xd), .val (.int (1 : Int32)), .val (.int (((fl.toUInt32 >>> ((1 : Int32) &&& 31).toUInt32).toInt32) &&& (3 : Int32))), .val (.ref b_59), .val .null, .unset, .unset, .unset] [(.ref b_62)])
        refine Go.st (fun _ => XS.dup X_62.here hx rfl (hb hby at_71) rfl rfl) ?_
        show Go p e below s _ _ _ T_62 (mkF m 72 #[.val (.int fl), .val (.int sx), .val (.int xc), .val (.int xd), .val (.int (1 : Int32)), .val (.int (((fl.toUInt32 >>> ((1 : Int32) &&& 31).toUInt32).toInt32) &&& (3 : Int32))), .val (.ref b_59), .val .null, .unset, .unset, .unset] [(.ref b_62), (.ref b_62)])
        refine Go.st (fun _ => XS.iloadN X_62.here hx rfl (hb hby at_72) rfl) ?_
        show Go p e below s _ _ _ T_62 (mkF m 73 #[.val (.int fl), .val (.int sx), .val (.int xc), .val (.int xd), .val (.int (1 : Int32)), .val (.int (((fl.toUInt32 >>> ((1 : Int32) &&& 31).toUInt32).toInt32) &&& (3 : Int32))), .val (.ref b_59), .val .null, .unset, .unset, .unset] [(.int sx), (.ref b_62), (.ref b_62)])
        refine Go.st (fun _ => XS.iloadN X_62.here hx rfl (hb hby at_73) rfl) ?_
        show Go p e below s _ _ _ T_62 (mkF m 74 #[.val (.int fl), .val (.int sx), .val (.int xc), .val (.int xd), .val (.int (1 : Int32)), .val (.int (((fl.toUInt32 >>> ((1 : Int32) &&& 31).toUInt32).toInt32) &&& (3 : Int32))), .val (.ref b_59), .val .null, .unset, .unset, .unset] [(.int xc), (.int sx), (.ref b_62), (.ref b_62)])
        refine Go.st (fun _ => XS.sipush X_62.here hx rfl (hb hby at_74)) ?_
        show Go p e below s _ _ _ T_62 (mkF m 77 #[.val (.int fl), .val (.int sx), .val (.int xc), .val (.int xd), .val (.int (1 : Int32)), .val (.int (((fl.toUInt32 >>> ((1 : Int32) &&& 31).toUInt32).toInt32) &&& (3 : Int32))), .val (.ref b_59), .val .null, .unset, .unset, .unset] [(.int (255 : Int32)), (.int xc), (.int sx), (.ref b_62), (.ref b_62)])
        refine Go.st (fun _ => XS.iand X_62.here hx rfl (hb hby at_77) rfl) ?_
        show Go p e below s _ _ _ T_62 (mkF m 78 #[.val (.int fl), .val (.int sx), .val (.int xc), .val (.int xd), .val (.int (1 : Int32)), .val (.int (((fl.toUInt32 >>> ((1 : Int32) &&& 31).toUInt32).toInt32) &&& (3 : Int32))), .val (.ref b_59), .val .null, .unset, .unset, .unset] [(.int (xc &&& (255 : Int32))), (.int sx), (.ref b_62), (.ref b_62)])
        refine Go.st (fun _ => XS.i2c X_62.here hx rfl (hb hby at_78) rfl) ?_
        show Go p e below s _ _ _ T_62 (mkF m 79 #[.val (.int fl), .val (.int sx), .val (.int xc), .val (.int xd), .val (.int (1 : Int32)), .val (.int (((fl.toUInt32 >>> ((1 : Int32) &&& 31).toUInt32).toInt32) &&& (3 : Int32))), .val (.ref b_59), .val .null, .unset, .unset, .unset] [(.int ((xc &&& (255 : Int32)).toUInt32.toUInt16.toUInt32.toInt32)), (.int sx), (.ref b_62), (.ref b_62)])
        have f_64 := ((((S_COMPACT_STRINGS.ext E_59).wr W_60).wr W_61).ext E_62)
        obtain ⟨_, _, ⟨T_63, L_63, kc_63, nc_63⟩, -, X_63, ⟨Lc_63, hQ_63, l_63, y_63, z_63⟩, st_63⟩ := Jvm.LawKit.callS X_62 hx (y := (⟨"java/lang/String", "valueOf", "(C)Ljava/lang/String;"⟩ : MethodName)) hown (mvT hZ (hw _ (List.mem_of_getElem? (i := 32) rfl))) (mvT hZ (hw _ (List.mem_of_getElem? (i := 33) rfl))) (mvT hZ (hw _ (List.mem_of_getElem? (i := 34) rfl))) (mvT hZ (hw _ (List.mem_of_getElem? (i := 35) rfl))) (by decide) (backOf (W := 3) (rmVo l Z a0 hw [] ((xc &&& (255 : Int32)).toUInt32.toUInt16.toUInt32.toInt32) cs h_62 n0 z_62 f_64 hcs (own_c255 _)) hZ (hw _ (List.mem_of_getElem? (i := 35) rfl)) (hw _ (List.mem_of_getElem? (i := 34) rfl)) (by decide) (by decide)) (g := (mkF m 79 #[.val (.int fl), .val (.int sx), .val (.int xc), .val (.int xd), .val (.int (1 : Int32)), .val (.int (((fl.toUInt32 >>> ((1 : Int32) &&& 31).toUInt32).toInt32) &&& (3 : Int32))), .val (.ref b_59), .val .null, .unset, .unset, .unset] [(.int ((xc &&& (255 : Int32)).toUInt32.toUInt16.toUInt32.toInt32)), (.int sx), (.ref b_62), (.ref b_62)])) rfl (by rw [hml]; rfl) (argsL := [(.int ((xc &&& (255 : Int32)).toUInt32.toUInt16.toUInt32.toInt32))]) (rest := [(.int sx), (.ref b_62), (.ref b_62)]) (lenOf pd_8 rfl) rfl (by show 2 * 0 + _ ≤ _; exact Nat.le_of_eq rfl) (hb hby at_79) (fun _ _ => ⟨rfl, e_62, (by decide : 2 + 2 ≤ _), (by decide : 9 + 5 ≤ _)⟩)
        dsimp only [Pt.U, Pt.locs, Pt.cells, Pt.slots] at X_63 l_63 y_63 z_63 st_63 hQ_63
        obtain rfl : kc_63 = 4 := y_63
        obtain rfl : nc_63 = 14 := z_63
        obtain ⟨h_63, e_63⟩ : ∃ hh, T_63.heap = hh := ⟨_, rfl⟩
        rw [e_63] at hQ_63
        obtain ⟨b__63, d__63, kd__63, rfl, N_63q, K_63, p_63_0, p_63_1, p_63_2, p_63_3, p_63_4, p_63_5, p_63_6, p_63_7, p_63_8⟩ := hQ_63
        have N_63 : Fr n0 L_63 := by rw [l_63]; exact Fr.app N_61 N_63q
        refine Go.st st_63 ?_
        have f_65 := (V_61.ext E_62)
        have ne_b_59_b__63 : b_59 ≠ b__63 := Nat.ne_of_lt (Nat.lt_of_lt_of_le f_65.lt p_63_0)
        have ne_b_62_b__63 : b_62 ≠ b__63 := Nat.ne_of_lt (Nat.lt_of_lt_of_le A_62.lt p_63_0)
        have ne_b_59_d__63 : b_59 ≠ d__63 := Nat.ne_of_lt (Nat.lt_of_lt_of_le f_65.lt p_63_5)
        have ne_b_62_d__63 : b_62 ≠ d__63 := Nat.ne_of_lt (Nat.lt_of_lt_of_le A_62.lt p_63_5)
        have z_63q : n0 ≤ h_63.size := Nat.le_trans z_62 K_63.1
        have ns_63 : ∀ x ∈ ([] : List Addr), ∀ cell : Cell, h_62[x]? = some cell → cell.vm.isStatics = false := all0
        show Go p e below s _ _ _ T_63 (mkF m 82 #[.val (.int fl), .val (.int sx), .val (.int xc), .val (.int xd), .val (.int (1 : Int32)), .val (.int (((fl.toUInt32 >>> ((1 : Int32) &&& 31).toUInt32).toInt32) &&& (3 : Int32))), .val (.ref b_59), .val .null, .unset, .unset, .unset] [(.ref b__63), (.int sx), (.ref b_62), (.ref b_62)])
        have f_67 := (A_62.keep K_63)
        have f_68 := (Un_62.keep K_63 nin0)
        have f_69 := (F_cause_b_62.keep K_63 nin0)
        have f_70 := (F_stackTrace_b_62.keep K_63 nin0)
        have f_71 := (F_suppressedExceptions_b_62.keep K_63 nin0)
        have f_72 := (F_backtrace_b_62.keep K_63 nin0)
        have f_73 := (own_sta_keep ((((S_UNASSIGNED_STACK.ext E_59).wr W_60).wr W_61).ext E_62) K_63 ns_63)
        have f_74 := (own_sta_keep ((((S_SUPPRESSED_SENTINEL.ext E_59).wr W_60).wr W_61).ext E_62) K_63 ns_63)
        obtain ⟨_, _, ⟨T_66, L_66, kc_66, nc_66⟩, -, X_66, ⟨Lc_66, hQ_66, l_66, y_66, z_66⟩, st_66⟩ := X_63.specialBack hx (y := (⟨"com/example/plaingrant/plaingrant/server/http/ApiException", "<init>", "(ILjava/lang/String;)V"⟩ : MethodName)) rfl hown (mvT hZ (hw _ (List.mem_of_getElem? (i := 55) rfl))) (mvT hZ (hw _ (List.mem_of_getElem? (i := 56) rfl))) (mvT hZ (hw _ (List.mem_of_getElem? (i := 57) rfl))) (by decide) (backOfKL (W := 1) (rmAx l Z a0 hw [] b_62 sx b__63 us sn h_63 n0 z_63q (by assumption) f_67 f_68 gg_62 f_69 f_70 f_71 f_72 f_73 f_74 rf_us rf_sn) hZ (hw _ (List.mem_of_getElem? (i := 57) rfl)) (hw _ (List.mem_of_getElem? (i := 31) rfl)) (by decide) (by decide) hTK hBe) (g := (mkF m 82 #[.val (.int fl), .val (.int sx), .val (.int xc), .val (.int xd), .val (.int (1 : Int32)), .val (.int (((fl.toUInt32 >>> ((1 : Int32) &&& 31).toUInt32).toInt32) &&& (3 : Int32))), .val (.ref b_59), .val .null, .unset, .unset, .unset] [(.ref b__63), (.int sx), (.ref b_62), (.ref b_62)])) rfl (by rw [hml]; rfl) (Steps.refl _) (a := b_62) (argsL := [(.int sx), (.ref b__63)]) (rest := [(.ref b_62)]) (lenOf pd_9 rfl) rfl (by show 2 * 0 + _ ≤ _; exact Nat.le_of_eq rfl) (hb hby at_82) (fun _ _ => ⟨rfl, e_63, (by decide : 4 + 1 ≤ _), (by decide : 14 + 2752 ≤ _)⟩)
        dsimp only [Pt.U, Pt.locs, Pt.cells, Pt.slots] at X_66 l_66 y_66 z_66 st_66 hQ_66
        obtain rfl : kc_66 = 5 := y_66
        obtain rfl : nc_66 = 2766 := z_66
        obtain ⟨h_66, e_66⟩ : ∃ hh, T_66.heap = hh := ⟨_, rfl⟩
        rw [e_66] at hQ_66
        obtain ⟨rfl, N_66q, K_66, p_66_0⟩ := hQ_66
        have N_66 : Fr n0 L_66 := by rw [l_66]; exact Fr.app N_63 N_66q
        refine Go.st (fun _ kk => st_66.trans kk) ?_
        have z_66q : n0 ≤ h_66.size := Nat.le_trans z_63q K_66.1
        have ns_66 : ∀ x ∈ ([b_62] : List Addr), ∀ cell : Cell, h_63[x]? = some cell → cell.vm.isStatics = false := (allS f_67.nostat all0)
        show Go p e below s _ _ _ T_66 (mkF m 85 #[.val (.int fl), .val (.int sx), .val (.int xc), .val (.int xd), .val (.int (1 : Int32)), .val (.int (((fl.toUInt32 >>> ((1 : Int32) &&& 31).toUInt32).toInt32) &&& (3 : Int32))), .val (.ref b_59), .val .null, .unset, .unset, .unset] [(.ref b_62)])
        refine Go.st (fun _ => XS.astore X_66.here hx rfl (hb hby at_85) rfl rfl (l' := #[.val (.int fl), .val (.int sx), .val (.int xc), .val (.int xd), .val (.int (1 : Int32)), .val (.int (((fl.toUInt32 >>> ((1 : Int32) &&& 31).toUInt32).toInt32) &&& (3 : Int32))), .val (.ref b_59), .val (.ref b_62), .unset, .unset, .unset]) rfl) ?_
        show Go p e below s _ _ _ T_66 (mkF m 87 #[.val (.int fl), .val (.int sx), .val (.int xc), .val (.int xd), .val (.int (1 : Int32)), .val (.int (((fl.toUInt32 >>> ((1 : Int32) &&& 31).toUInt32).toInt32) &&& (3 : Int32))), .val (.ref b_59), .val (.ref b_62), .unset, .unset, .unset] [])
        obtain ⟨T_75, h_75, X_75, e_75, E_75, A_75, D_75, U_75, st_75⟩ := newO X_66 hx hZ hown (hw _ (List.mem_of_getElem? (i := 0) rfl)) (hw _ (List.mem_of_getElem? (i := 1) rfl)) (hw _ (List.mem_of_getElem? (i := 2) rfl)) e_66 (g := (mkF m 87 #[.val (.int fl), .val (.int sx), .val (.int xc), .val (.int xd), .val (.int (1 : Int32)), .val (.int (((fl.toUInt32 >>> ((1 : Int32) &&& 31).toUInt32).toInt32) &&& (3 : Int32))), .val (.ref b_59), .val (.ref b_62), .unset, .unset, .unset] [])) rfl (hb hby at_87) (by decide) (by decide)
        obtain ⟨b_75, g_75⟩ : ∃ z, z = h_66.size := ⟨_, rfl⟩
        rw [← g_75] at A_75 D_75 st_75 U_75
        refine Go.st st_75 ?_
        have f_76 := ((f_65.keep K_63 nin0).keep K_66 (ninS ne_b_59_b_62 nin0))
        have ne_b_59_b_75 : b_59 ≠ b_75 := Nat.ne_of_lt (Nat.lt_of_lt_of_eq f_76.lt g_75.symm)
        have ne_b_62_b_75 : b_62 ≠ b_75 := Nat.ne_of_lt (Nat.lt_of_lt_of_eq p_66_0.lt g_75.symm)
        have f_77 := (p_63_2.keep K_66)
        have ne_b__63_b_75 : b__63 ≠ b_75 := Nat.ne_of_lt (Nat.lt_of_lt_of_eq f_77.lt g_75.symm)
        have f_78 := (p_63_7.keep K_66 (ninS (Ne.symm ne_b_62_d__63) nin0))
        have ne_d__63_b_75 : d__63 ≠ b_75 := Nat.ne_of_lt (Nat.lt_of_lt_of_eq f_78.lt g_75.symm)
        have gg_75 : n0 ≤ b_75 := Nat.le_trans z_66q (Nat.le_of_eq g_75.symm)
        have z_75 : n0 ≤ h_75.size := Nat.le_trans z_66q E_75.1
        have Un_75 : Unt h_75 b_75 := U_75
        have F_bytes_b_75 : Fld Z h_75 b_75 "com/example/plaingrant/plaingrant/server/http/Request$Body" "bytes" "[B" .null := D_75 (Or.inr (hw _ (List.mem_of_getElem? (i := 15) rfl))) (ty := (.array .byte)) (by decide)
        have F_refusal_b_75 : Fld Z h_75 b_75 "com/example/plaingrant/plaingrant/server/http/Request$Body" "refusal" "Lcom/example/plaingrant/plaingrant/server/http/ApiException;" .null := D_75 (Or.inr (hw _ (List.mem_of_getElem? (i := 17) rfl))) (ty := (.object "com/example/plaingrant/plaingrant/server/http/ApiException")) (by decide)
        show Go p e below s _ _ _ T_75 (mkF m 90 #[.val (.int fl), .val (.int sx), .val (.int xc), .val (.int xd), .val (.int (1 : Int32)), .val (.int (((fl.toUInt32 >>> ((1 : Int32) &&& 31).toUInt32).toInt32) &&& (3 : Int32))), .val (.ref b_59), .val (.ref b_62), .unset, .unset, .unset] [(.ref b_75)])
        refine Go.st (fun _ => XS.dup X_75.here hx rfl (hb hby at_90) rfl rfl) ?_
        show Go p e below s _ _ _ T_75 (mkF m 91 #[.val (.int fl), .val (.int sx), .val (.int xc), .val (.int xd), .val (.int (1 : Int32)), .val (.int (((fl.toUInt32 >>> ((1 : Int32) &&& 31).toUInt32).toInt32) &&& (3 : Int32))), .val (.ref b_59), .val (.ref b_62), .unset, .unset, .unset] [(.ref b_75), (.ref b_75)])
        refine Go.st (fun _ => XS.aload X_75.here hx rfl (hb hby at_91) rfl rfl) ?_
        show Go p e below s _ _ _ T_75 (mkF m 93 #[.val (.int fl), .val (.int sx), .val (.int xc), .val (.int xd), .val (.int (1 : Int32)), .val (.int (((fl.toUInt32 >>> ((1 : Int32) &&& 31).toUInt32).toInt32) &&& (3 : Int32))), .val (.ref b_59), .val (.ref b_62), .unset, .unset, .unset] [(.ref b_59), (.ref b_75), (.ref b_75)])
        refine Go.st (fun _ => XS.aload X_75.here hx rfl (hb hby at_93) rfl rfl) ?_
        show Go p e below s _ _ _ T_75 (mkF m 95 #[.val (.int fl), .val (.int sx), .val (.int xc), .val (.int xd), .val (.int (1 : Int32)), .val (.int (((fl.toUInt32 >>> ((1 : Int32) &&& 31).toUInt32).toInt32) &&& (3 : Int32))), .val (.ref b_59), .val (.ref b_62), .unset, .unset, .unset] [(.ref b_62), (.ref b_59), (.ref b_75), (.ref b_75)])
        obtain ⟨_, _, ⟨T_79, L_79, kc_79, nc_79⟩, -, X_79, ⟨Lc_79, hQ_79, l_79, y_79, z_79⟩, st_79⟩ := X_75.specialBack hx (y := (⟨"com/example/plaingrant/plaingrant/server/http/Request$Body", "<init>", "([BLcom/example/plaingrant/plaingrant/server/http/ApiException;)V"⟩ : MethodName)) rfl hown (mvT hZ (hw _ (List.mem_of_getElem? (i := 3) rfl))) (mvT hZ (hw _ (List.mem_of_getElem? (i := 4) rfl))) (mvT hZ (hw _ (List.mem_of_getElem? (i := 5) rfl))) (by decide) (backOf (W := 1) (rmIrr l Z a0 hw [] b_75 b_59 b_62 h_75 n0 z_75 A_75 F_bytes_b_75 F_refusal_b_75 gg_75) hZ (hw _ (List.mem_of_getElem? (i := 5) rfl)) (hw _ (List.mem_of_getElem? (i := 2) rfl)) (by decide) (by decide)) (g := (mkF m 95 #[.val (.int fl), .val (.int sx), .val (.int xc), .val (.int xd), .val (.int (1 : Int32)), .val (.int (((fl.toUInt32 >>> ((1 : Int32) &&& 31).toUInt32).toInt32) &&& (3 : Int32))), .val (.ref b_59), .val (.ref b_62), .unset, .unset, .unset] [(.ref b_62), (.ref b_59), (.ref b_75), (.ref b_75)])) rfl (by rw [hml]; rfl) (Steps.refl _) (a := b_75) (argsL := [(.ref b_59), (.ref b_62)]) (rest := [(.ref b_75)]) (lenOf pd_5 rfl) rfl (by show 2 * 0 + _ ≤ _; exact Nat.le_of_eq rfl) (hb hby at_95) (fun _ _ => ⟨rfl, e_75, (by decide : 6 + 0 ≤ _), (by decide : 2768 + 0 ≤ _)⟩)
        dsimp only [Pt.U, Pt.locs, Pt.cells, Pt.slots] at X_79 l_79 y_79 z_79 st_79 hQ_79
        obtain rfl : kc_79 = 6 := y_79
        obtain rfl : nc_79 = 2768 := z_79
        obtain ⟨h_79, e_79⟩ : ∃ hh, T_79.heap = hh := ⟨_, rfl⟩
        rw [e_79] at hQ_79
        obtain ⟨rfl, N_79q, K_79, p_79_0, p_79_1, p_79_2⟩ := hQ_79
        have N_79 : Fr n0 L_79 := by rw [l_79]; exact Fr.app N_66 N_79q
        refine Go.st (fun _ kk => st_79.trans kk) ?_
        have z_79q : n0 ≤ h_79.size := Nat.le_trans z_75 K_79.1
        have ns_79 : ∀ x ∈ ([b_75] : List Addr), ∀ cell : Cell, h_75[x]? = some cell → cell.vm.isStatics = false := (allS A_75.nostat all0)
        show Go p e below s _ _ _ T_79 (mkF m 98 #[.val (.int fl), .val (.int sx), .val (.int xc), .val (.int xd), .val (.int (1 : Int32)), .val (.int (((fl.toUInt32 >>> ((1 : Int32) &&& 31).toUInt32).toInt32) &&& (3 : Int32))), .val (.ref b_59), .val (.ref b_62), .unset, .unset, .unset] [(.ref b_75)])
        refine Go.st (fun _ => XS.astore X_79.here hx rfl (hb hby at_98) rfl rfl (l' := #[.val (.int fl), .val (.int sx), .val (.int xc), .val (.int xd), .val (.int (1 : Int32)), .val (.int (((fl.toUInt32 >>> ((1 : Int32) &&& 31).toUInt32).toInt32) &&& (3 : Int32))), .val (.ref b_59), .val (.ref b_62), .val (.ref b_75), .unset, .unset]) rfl) ?_
        show Go p e below s _ _ _ T_79 (mkF m 100 #[.val (.int fl), .val (.int sx), .val (.int xc), .val (.int xd), .val (.int (1 : Int32)), .val (.int (((fl.toUInt32 >>> ((1 : Int32) &&& 31).toUInt32).toInt32) &&& (3 : Int32))), .val (.ref b_59), .val (.ref b_62), .val (.ref b_75), .unset, .unset] [])
        refine Go.st (fun _ => XS.aload X_79.here hx rfl (hb hby at_100) rfl rfl) ?_
        show Go p e below s _ _ _ T_79 (mkF m 102 #[.val (.int fl), .val (.int sx), .val (.int xc), .val (.int xd), .val (.int (1 : Int32)), .val (.int (((fl.toUInt32 >>> ((1 : Int32) &&& 31).toUInt32).toInt32) &&& (3 : Int32))), .val (.ref b_59), .val (.ref b_62), .val (.ref b_75), .unset, .unset] [(.ref b_75)])
        obtain ⟨cq_80, kq_80, q_80a, q_80b, q_80c⟩ := isOf hZ e_79 p_79_0
        obtain ⟨_, _, ⟨T_80, L_80, kc_80, nc_80⟩, -, X_80, ⟨Lc_80, hQ_80, l_80, y_80, z_80⟩, st_80⟩ := X_79.virtualBack hx (y := (⟨"com/example/plaingrant/plaingrant/server/http/Request$Body", "whole", "()Z"⟩ : MethodName)) (z := (⟨"com/example/plaingrant/plaingrant/server/http/Request$Body", "whole", "()Z"⟩ : MethodName)) hown (mvT hZ (hw _ (List.mem_of_getElem? (i := 18) rfl))) (mvT hZ (hw _ (List.mem_of_getElem? (i := 19) rfl))) (notFace_of_selects (args := #[]) (mvT hZ (hw _ (List.mem_of_getElem? (i := 21) rfl)))) (mvT hZ (hw _ (List.mem_of_getElem? (i := 21) rfl))) (mvT hZ (hw _ (List.mem_of_getElem? (i := 20) rfl))) (by decide) (backOf (W := 0) (rmWr l Z a0 hw [] b_75 b_62 h_79 n0 z_79q p_79_2) hZ (hw _ (List.mem_of_getElem? (i := 22) rfl)) (hw _ (List.mem_of_getElem? (i := 2) rfl)) (by decide) (by decide)) q_80a q_80c (g := (mkF m 102 #[.val (.int fl), .val (.int sx), .val (.int xc), .val (.int xd), .val (.int (1 : Int32)), .val (.int (((fl.toUInt32 >>> ((1 : Int32) &&& 31).toUInt32).toInt32) &&& (3 : Int32))), .val (.ref b_59), .val (.ref b_62), .val (.ref b_75), .unset, .unset] [(.ref b_75)])) rfl (by rw [hml]; rfl) (Steps.refl _) (argsL := []) (rest := []) (lenOf pd_6 rfl) rfl (by show 2 * 0 + _ ≤ _; exact Nat.le_of_eq rfl) (hb hby at_102) (fun _ _ => ⟨rfl, e_79, (by decide : 6 + 0 ≤ _), (by decide : 2768 + 0 ≤ _)⟩)
        dsimp only [Pt.U, Pt.locs, Pt.cells, Pt.slots] at X_80 l_80 y_80 z_80 st_80 hQ_80
        obtain rfl : kc_80 = 6 := y_80
        obtain rfl : nc_80 = 2768 := z_80
        obtain ⟨h_80, e_80⟩ : ∃ hh, T_80.heap = hh := ⟨_, rfl⟩
        rw [e_80] at hQ_80
        obtain ⟨rfl, N_80q, sm_80⟩ := hQ_80
        have N_80 : Fr n0 L_80 := by rw [l_80]; exact Fr.app N_79 N_80q
        refine Go.st (fun _ kk => st_80.trans kk) ?_
        rw [sm_80] at e_80
        show Go p e below s _ _ _ T_80 (mkF m 105 #[.val (.int fl), .val (.int sx), .val (.int xc), .val (.int xd), .val (.int (1 : Int32)), .val (.int (((fl.toUInt32 >>> ((1 : Int32) &&& 31).toUInt32).toInt32) &&& (3 : Int32))), .val (.ref b_59), .val (.ref b_62), .val (.ref b_75), .unset, .unset] [(.int (0 : Int32))])
        refine Go.st (fun _ => XS.istore X_80.here hx rfl (hb hby at_105) rfl (l' := #[.val (.int fl), .val (.int sx), .val (.int xc), .val (.int xd), .val (.int (1 : Int32)), .val (.int (((fl.toUInt32 >>> ((1 : Int32) &&& 31).toUInt32).toInt32) &&& (3 : Int32))), .val (.ref b_59), .val (.ref b_62), .val (.ref b_75), .val (.int (0 : Int32)), .unset]) rfl) ?_
        show Go p e below s _ _ _ T_80 (mkF m 107 #[.val (.int fl), .val (.int sx), .val (.int xc), .val (.int xd), .val (.int (1 : Int32)), .val (.int (((fl.toUInt32 >>> ((1 : Int32) &&& 31).toUInt32).toInt32) &&& (3 : Int32))), .val (.ref b_59), .val (.ref b_62), .val (.ref b_75), .val (.int (0 : Int32)), .unset] [])
        refine Go.st (fun _ => XS.iload X_80.here hx rfl (hb hby at_107) rfl) ?_
        show Go p e below s _ _ _ T_80 (mkF m 109 #[.val (.int fl), .val (.int sx), .val (.int xc), .val (.int xd), .val (.int (1 : Int32)), .val (.int (((fl.toUInt32 >>> ((1 : Int32) &&& 31).toUInt32).toInt32) &&& (3 : Int32))), .val (.ref b_59), .val (.ref b_62), .val (.ref b_75), .val (.int (0 : Int32)), .unset] [(.int (0 : Int32))])
        refine Go.st (fun _ => XS.iload X_80.here hx rfl (hb hby at_109) rfl) ?_
        show Go p e below s _ _ _ T_80 (mkF m 111 #[.val (.int fl), .val (.int sx), .val (.int xc), .val (.int xd), .val (.int (1 : Int32)), .val (.int (((fl.toUInt32 >>> ((1 : Int32) &&& 31).toUInt32).toInt32) &&& (3 : Int32))), .val (.ref b_59), .val (.ref b_62), .val (.ref b_75), .val (.int (0 : Int32)), .unset] [(.int (1 : Int32)), (.int (0 : Int32))])
        refine Go.st (fun _ => XS.icmpYes X_80.here hx rfl (pc0 := 111) (pc' := 116) rfl (hb hby at_111) rfl (feq (by decide : ¬ ((0 : Int32) = (1 : Int32)))).2 (by decide) (by decide)) ?_
        show Go p e below s _ _ _ T_80 (mkF m 116 #[.val (.int fl), .val (.int sx), .val (.int xc), .val (.int xd), .val (.int (1 : Int32)), .val (.int (((fl.toUInt32 >>> ((1 : Int32) &&& 31).toUInt32).toInt32) &&& (3 : Int32))), .val (.ref b_59), .val (.ref b_62), .val (.ref b_75), .val (.int (0 : Int32)), .unset] [])
        refine Go.st (fun _ => XS.iload X_80.here hx rfl (hb hby at_116) rfl) ?_
        show Go p e below s _ _ _ T_80 (mkF m 118 #[.val (.int fl), .val (.int sx), .val (.int xc), .val (.int xd), .val (.int (1 : Int32)), .val (.int (((fl.toUInt32 >>> ((1 : Int32) &&& 31).toUInt32).toInt32) &&& (3 : Int32))), .val (.ref b_59), .val (.ref b_62), .val (.ref b_75), .val (.int (0 : Int32)), .unset] [(.int (0 : Int32))])
        refine Go.st (fun _ => XS.ifYes X_80.here hx rfl (pc0 := 118) (pc' := 141) rfl (hb hby at_118) rfl ((if0 _ _).trans (teq (by decide : (0 : Int32) = (0 : Int32))).1) (by decide) (by decide)) ?_
        show Go p e below s _ _ _ T_80 (mkF m 141 #[.val (.int fl), .val (.int sx), .val (.int xc), .val (.int xd), .val (.int (1 : Int32)), .val (.int (((fl.toUInt32 >>> ((1 : Int32) &&& 31).toUInt32).toInt32) &&& (3 : Int32))), .val (.ref b_59), .val (.ref b_62), .val (.ref b_75), .val (.int (0 : Int32)), .unset] [])
        refine Go.st (fun _ => XS.iconst X_80.here hx rfl (hb hby at_141)) ?_
        show Go p e below s _ _ _ T_80 (mkF m 142 #[.val (.int fl), .val (.int sx), .val (.int xc), .val (.int xd), .val (.int (1 : Int32)), .val (.int (((fl.toUInt32 >>> ((1 : Int32) &&& 31).toUInt32).toInt32) &&& (3 : Int32))), .val (.ref b_59), .val (.ref b_62), .val (.ref b_75), .val (.int (0 : Int32)), .unset] [(.int (1 : Int32))])
        exact Go.retZ X_80 hx hlk Bd.returns (hb hby at_142) rfl (by rw [e_80]; exact ⟨rfl, N_80⟩) (by decide) (by decide)
set_option maxRecDepth 65536 in
set_option maxHeartbeats 40000000 in
theorem comes_1 {Post : Tables → Env → Array Value → State → Outcome → State → Prop} (hpost : ∀ tb e args s v u, (limb_1_1.after args s (.returned v) u = true ∧ limb_1_2.after args s (.returned v) u = true ∧ True) → FrameEnd s (.returned v) u (Jvm.fieldLocs frame_1_writes args s ++ Jvm.arrayLocs frame_1_arrays args s ++ Jvm.staticLocs frame_1_statics s) 24 5632 → Post tb e args s (.returned v) u) :
    ArmFor flags0 classFile x code maxLocals ret World_1 tables_1 room_1 Calls_1 rest_1 Pre_1 Post := by
  intro l hfl _ _ p e ha hc hk s m args below hf hA hF happ hP
  obtain ⟨hcalls, hrest, hpre⟩ := hP
  obtain ⟨-, -, -, hnamed, -, -, -, hat⟩ := (Spec.applies_iff hf).mp happ
  obtain ⟨hg, hn⟩ := and_e (Cond.before_iff.mp (show (Jvm.Cond.and given_1 narrow_1).before args s = true from hpre))
  obtain ⟨g1, g2⟩ := and_e hg
  obtain ⟨g3, g4⟩ := and_e g2
  obtain ⟨g5, g6⟩ := and_e g4
  obtain ⟨g7, g8⟩ := and_e g6
  obtain ⟨w0, w1, w2, w3, rfl⟩ : ∃ w0 w1 w2 w3 : Value, args = #[w0, w1, w2, w3] := by
    have hs : args.size = 4 := by simpa [Cond.value, given_1] using g1
    obtain ⟨L⟩ := args
    match L, hs with
    | [w0, w1, w2, w3], _ => exact ⟨w0, w1, w2, w3, rfl⟩
  have hw := fun d (hd : d ∈ tables_1) => atoms_spec (ws := Jvm.Cond.code x code maxLocals ret :: tables_1) hat d (List.mem_cons_of_mem _ hd)
  have hfit : Fit s := fun {y c} hc i hi => by
    obtain ⟨ha, rfl⟩ := Array.getElem?_eq_some_iff.mp hc
    have q := List.all_eq_true.mp ((Array.all_eq_true_iff_forall_mem.mp hF) _ (Array.getElem_mem ha)) i (List.mem_range.mpr hi)
    simpa [Array.getElem?_eq_getElem hi] using q
  obtain ⟨hsets, hown0⟩ := atoms_of _ (rest_1_c_eq ▸ (show rest_1_c.before _ s = true from hrest))
  have hr0 := Cond.before_iff.mp hown0
  obtain ⟨i0, ei0⟩ := is_v g3
  obtain rfl : w0 = (.int i0) := Option.some.inj ei0
  obtain ⟨i1, ei1⟩ := is_v g5
  obtain rfl : w1 = (.int i1) := Option.some.inj ei1
  obtain ⟨i2, ei2⟩ := is_v g7
  obtain rfl : w2 = (.int i2) := Option.some.inj ei2
  obtain ⟨i3, ei3⟩ := is_v g8
  obtain rfl : w3 = (.int i3) := Option.some.inj ei3
  obtain ⟨cs, ecs⟩ := is_v (Cond.before_iff.mp (hsets _ (List.mem_of_getElem? (i := 1) rfl)))
  have S_cs := Sta.start ecs (Or.inl (hsets _ (List.mem_of_getElem? (i := 0) rfl)))
  have hcs : ¬ cs = (0 : Int32) := gotF (Cond.eq_ints ecs (Term.int_eval (0 : Int32))) (not_v (Cond.before_iff.mp (hsets _ (List.mem_of_getElem? (i := 2) rfl))))
  obtain ⟨us, eus, rf_us⟩ := isR_v (Cond.before_iff.mp (hsets _ (List.mem_of_getElem? (i := 16) rfl)))
  have S_us := Sta.start eus (Or.inl (hsets _ (List.mem_of_getElem? (i := 15) rfl)))
  obtain ⟨sn, esn, rf_sn⟩ := isR_v (Cond.before_iff.mp (hsets _ (List.mem_of_getElem? (i := 21) rfl)))
  have S_sn := Sta.start esn (Or.inl (hsets _ (List.mem_of_getElem? (i := 20) rfl)))
  have hl : l.stackTraces = true := by
    show (!l.flags.contains noTraceFlag) = true
    rw [hfl]
    decide +kernel
  obtain ⟨n, o, h1, h2, h3, _, L, rfl, ⟨rfl, N⟩, hq⟩ := rm0 l s _ hw tables_1 i0 i1 i2 i3 us sn cs s.heap s.heap.size (Nat.le_refl _) hl S_us S_sn rf_us rf_sn S_cs hcs p e ha hc hk s m _ below hf ((Spec.applies_iff_loose hf).mp happ).1 ⟨rfl, State.Warmed39.refl s, rfl⟩ ⟨MethodsKnown_of_tablesKnown hcalls.2.1, FramesKnown_of_framesKnown hcalls.1 hf⟩
  refine ⟨n, _, h1, h2, h3, hpost _ _ _ _ _ _ ⟨Cond.after_iff.mpr rfl, Cond.after_iff.mpr (eq_i res_at (Term.int_eval (1)) rfl), trivial⟩ ⟨hq.1, hq.2.1, (hq.2.2.sift fun y hy => Or.inr (N y hy)).mono (by decide) (by decide)⟩⟩
theorem main_1_1 : Claimed_1_1 := comes_1 fun _ _ _ _ _ _ h hF => ⟨h.1, hF⟩
theorem main_1_2 : Claimed_1_2 := comes_1 fun _ _ _ _ _ _ h hF => ⟨h.2.1, hF⟩
end Jvm.Pilot.@@N@@
namespace Jvm.Pilot.@@N@@
open Jvm Jvm.ClassFile Sem Op Lib Jvm.Free Jvm.Stand Jvm.Pilot.@@N@@.Jvm.D
/-! MADE BY PROGRAM (witnessworld.py) out of the Statement's table words and the real class files: 34 classes; the members and pool entries that the words name. The judged class is class 1, her method 1. -/
namespace start1
open Jvm.ClassFile
def u (s : String) : CpInfo := .utf8 (stringToUtf16 s)
/-- a pool by its gaps: so many unusable entries, then the entry; so many at the end -/
def gap : Nat → List CpInfo → List CpInfo
  | 0, r => r
  | n + 1, r => .unusable :: gap n r
def poolList (es : List (Nat × CpInfo)) (last : Nat) : List CpInfo := es.foldr (fun e r => gap e.1 (e.2 :: r)) (gap last [])
def pool (es : List (Nat × CpInfo)) (last : Nat) : Array CpInfo := ⟨poolList es last⟩
def fileOf (pool : Array CpInfo) (this : Nat) (attrs : Array Attribute := #[]) (ms : Array MethodInfo := #[]) (fl : Nat := 33) (sup : Nat := 0) (ifs : Array Nat := #[]) (fds : Array FieldInfo := #[]) : ClassFile where
  minorVersion := 0
  majorVersion := 65
  constantPool := pool
  accessFlags := fl
  thisClass := this
  superClass := sup
  interfaces := ifs
  fields := fds
  methods := ms
  attributes := attrs
def plain (name : String) (sup : Option ClassId) : Class where
  name := name
  kind := .ordinary
  loader := none
  accessFlags := 33
  super := sup
  interfaces := #[]
  cf := none
  fields := #[]
  methods := #[]
  instanceTypes := #[]
  staticTypes := #[]
  resolved := #[]
  callSites := []
  init := .initialized
  statics := none
  mirror := none

def pool0 : Array CpInfo := pool [(5, u "<init>"), (0, u "()V"), (1, .class_ 10), (1, u "java/lang/Object")] 113

def k0c0 : Code := { maxStack := 0, maxLocals := 1, code := object_method_1_code, exceptionTable := #[], attributes := #[] }
def k0m0 : Method := { name := "<init>", desc := "()V", sig := { parameters := [], returnType := none }, accessFlags := 1, code := some k0c0 }
/-- java/lang/Object -/
def k0 : Class := { plain "java/lang/Object" none with
  accessFlags := 33
  interfaces := #[]
  cf := some (fileOf pool0 8 #[] #[{ accessFlags := 1, nameIndex := 5, descriptorIndex := 6, attributes := #[] }] 33 0 #[] #[])
  fields := #[]
  methods := #[k0m0]
  instanceTypes := #[]
  staticTypes := #[]
  resolved := Array.replicate 124 none
  statics := none }

def pool1 : Array CpInfo := pool [(2, .class_ 4), (1, u "java/lang/Object"), (0, u "<init>"), (0, u "()V"), (0, .class_ 8), (0, u "com/example/plaingrant/plaingrant/server/http/ApiException"), (0, .methodref 10 11), (0, .class_ 12), (0, .nameAndType 13 14), (0, u "java/lang/String"), (0, u "valueOf"), (0, u "(C)Ljava/lang/String;"), (0, .methodref 7 16), (0, .nameAndType 5 17), (0, u "(ILjava/lang/String;)V"), (0, .class_ 19), (0, u "com/example/plaingrant/plaingrant/server/http/Request$Body"), (0, .methodref 18 21), (0, .nameAndType 5 22), (0, u "([BLcom/example/plaingrant/plaingrant/server/http/ApiException;)V"), (0, .methodref 18 24), (0, .nameAndType 25 26), (0, u "whole"), (0, u "()Z"), (0, .methodref 18 28), (0, .nameAndType 29 30), (0, u "take"), (0, u "()[B"), (0, .class_ 32), (0, u "com/example/plaingrant/plaingrant/server/http/BodyWholePinLaw"), (2, u "law"), (0, u "(IIII)Z")] 12

def k1m0 : Method := { name := "<init>", desc := "()V", sig := { parameters := [], returnType := none }, accessFlags := 2, code := none }
def k1c1 : Code := { maxStack := 5, maxLocals := 11, code := code, exceptionTable := #[], attributes := #[] }
def k1m1 : Method := { name := "law", desc := "(IIII)Z", sig := { parameters := [.int, .int, .int, .int], returnType := some .boolean }, accessFlags := 9, code := some k1c1 }
/-- com/example/plaingrant/plaingrant/server/http/BodyWholePinLaw -/
def k1 : Class := { plain "com/example/plaingrant/plaingrant/server/http/BodyWholePinLaw" (some 0) with
  accessFlags := 49
  interfaces := #[]
  cf := some (fileOf pool1 31 #[] #[{ accessFlags := 2, nameIndex := 5, descriptorIndex := 6, attributes := #[] }, { accessFlags := 9, nameIndex := 35, descriptorIndex := 36, attributes := #[] }] 49 2 #[] #[])
  fields := #[]
  methods := #[k1m0, k1m1]
  instanceTypes := #[]
  staticTypes := #[]
  resolved := Array.replicate 49 none
  statics := none }

def pool2 : Array CpInfo := pool [(1, .methodref 2 3), (0, .class_ 4), (0, .nameAndType 5 6), (0, u "java/lang/Object"), (0, u "<init>"), (0, u "()V"), (0, .class_ 8), (0, u "java/lang/Record")] 13

def k2c0 : Code := { maxStack := 1, maxLocals := 1, code := jdk_30_method_1_code, exceptionTable := #[], attributes := #[] }
def k2m0 : Method := { name := "<init>", desc := "()V", sig := { parameters := [], returnType := none }, accessFlags := 4, code := some k2c0 }
/-- java/lang/Record -/
def k2 : Class := { plain "java/lang/Record" (some 0) with
  accessFlags := 1057
  interfaces := #[]
  cf := some (fileOf pool2 7 #[] #[{ accessFlags := 4, nameIndex := 5, descriptorIndex := 6, attributes := #[] }] 1057 2 #[] #[])
  fields := #[]
  methods := #[k2m0]
  instanceTypes := #[]
  staticTypes := #[]
  resolved := Array.replicate 22 none
  statics := none }

def pool3 : Array CpInfo := pool [(1, .methodref 2 3), (0, .class_ 4), (0, .nameAndType 5 6), (0, u "java/lang/Record"), (0, u "<init>"), (0, u "()V"), (0, .fieldref 8 9), (0, .class_ 10), (0, .nameAndType 11 12), (0, u "com/example/plaingrant/plaingrant/server/http/Request$Body"), (0, u "bytes"), (0, u "[B"), (0, .fieldref 8 14), (0, .nameAndType 15 16), (0, u "refusal"), (0, u "Lcom/example/plaingrant/plaingrant/server/http/ApiException;"), (2, u "([BLcom/example/plaingrant/plaingrant/server/http/ApiException;)V"), (19, u "whole"), (0, u "()Z"), (1, u "take"), (0, u "()[B"), (10, .class_ 55), (0, u "com/example/plaingrant/plaingrant/server/http/Request")] 20

def k3c0 : Code := { maxStack := 2, maxLocals := 3, code := prog_36_method_1_code, exceptionTable := #[], attributes := #[] }
def k3m0 : Method := { name := "<init>", desc := "([BLcom/example/plaingrant/plaingrant/server/http/ApiException;)V", sig := { parameters := [(.array .byte), (.object "com/example/plaingrant/plaingrant/server/http/ApiException")], returnType := none }, accessFlags := 1, code := some k3c0 }
def k3c1 : Code := { maxStack := 1, maxLocals := 1, code := prog_36_method_4_code, exceptionTable := #[], attributes := #[] }
def k3m1 : Method := { name := "whole", desc := "()Z", sig := { parameters := [], returnType := some .boolean }, accessFlags := 0, code := some k3c1 }
def k3c2 : Code := { maxStack := 1, maxLocals := 1, code := prog_36_method_5_code, exceptionTable := #[], attributes := #[] }
def k3m2 : Method := { name := "take", desc := "()[B", sig := { parameters := [], returnType := some (.array .byte) }, accessFlags := 1, code := some k3c2 }
/-- com/example/plaingrant/plaingrant/server/http/Request$Body -/
def k3 : Class := { plain "com/example/plaingrant/plaingrant/server/http/Request$Body" (some 2) with
  accessFlags := 49
  interfaces := #[]
  cf := some (fileOf pool3 8 #[.nestHost 54] #[{ accessFlags := 1, nameIndex := 5, descriptorIndex := 19, attributes := #[] }, { accessFlags := 0, nameIndex := 39, descriptorIndex := 40, attributes := #[] }, { accessFlags := 1, nameIndex := 42, descriptorIndex := 43, attributes := #[] }] 49 2 #[] #[{ accessFlags := 18, nameIndex := 11, descriptorIndex := 12, attributes := #[] }, { accessFlags := 18, nameIndex := 15, descriptorIndex := 16, attributes := #[] }])
  fields := #[{ name := "bytes", type := (.array .byte), accessFlags := 18, slot := 0, constantValue := 0 }, { name := "refusal", type := (.object "com/example/plaingrant/plaingrant/server/http/ApiException"), accessFlags := 18, slot := 1, constantValue := 0 }]
  methods := #[k3m0, k3m1, k3m2]
  instanceTypes := #[(.array .byte), (.object "com/example/plaingrant/plaingrant/server/http/ApiException")]
  staticTypes := #[]
  resolved := Array.replicate 76 none
  statics := none }

def pool4 : Array CpInfo := pool [(1, .class_ 2), (0, u "java/io/Serializable"), (0, .class_ 4), (0, u "java/lang/Object")] 2

/-- java/io/Serializable -/
def k4 : Class := { plain "java/io/Serializable" (some 0) with
  accessFlags := 1537
  interfaces := #[]
  cf := some (fileOf pool4 1 #[] #[] 1537 3 #[] #[])
  fields := #[]
  methods := #[]
  instanceTypes := #[]
  staticTypes := #[]
  resolved := Array.replicate 7 none
  statics := none }

def pool5 : Array CpInfo := pool [(1, .methodref 2 3), (0, .class_ 4), (0, .nameAndType 5 6), (0, u "java/lang/Object"), (0, u "<init>"), (0, u "()V"), (0, .fieldref 8 9), (0, .class_ 10), (0, .nameAndType 11 12), (0, u "java/lang/Throwable"), (0, u "cause"), (0, u "Ljava/lang/Throwable;"), (0, .fieldref 8 14), (0, .nameAndType 15 16), (0, u "UNASSIGNED_STACK"), (0, u "[Ljava/lang/StackTraceElement;"), (0, .fieldref 8 18), (0, .nameAndType 19 16), (0, u "stackTrace"), (0, .fieldref 8 21), (0, .nameAndType 22 23), (0, u "SUPPRESSED_SENTINEL"), (0, u "Ljava/util/List;"), (0, .fieldref 8 25), (0, .nameAndType 26 23), (0, u "suppressedExceptions"), (0, .methodref 8 28), (0, .nameAndType 29 30), (0, u "fillInStackTrace"), (0, u "()Ljava/lang/Throwable;"), (0, .fieldref 8 32), (0, .nameAndType 33 34), (0, u "detailMessage"), (0, u "Ljava/lang/String;"), (58, .class_ 94), (0, u "java/lang/Throwable$WrappedPrintStream"), (6, .class_ 103), (1, u "java/lang/Throwable$PrintStreamOrWriter"), (61, u "$assertionsDisabled"), (0, u "Z"), (26, .class_ 194), (0, u "java/lang/Throwable$WrappedPrintWriter"), (3, .fieldref 8 199), (0, .nameAndType 200 201), (0, u "backtrace"), (0, u "Ljava/lang/Object;"), (0, .methodref 8 203), (0, .nameAndType 29 204), (0, u "(I)Ljava/lang/Throwable;"), (6, u "depth"), (0, u "I"), (10, u "(Ljava/lang/String;)V"), (45, .class_ 271), (1, u "java/lang/Throwable$SentinelHolder"), (32, u "EMPTY_THROWABLE_ARRAY"), (0, u "[Ljava/lang/Throwable;"), (12, .class_ 319), (0, u "java/io/Serializable"), (0, u "serialVersionUID"), (0, u "J"), (5, u "NULL_CAUSE_MESSAGE"), (0, u "SELF_SUPPRESSION_MESSAGE"), (0, u "CAUSE_CAPTION"), (0, u "SUPPRESSED_CAPTION")] 73

def k5c0 : Code := { maxStack := 2, maxLocals := 1, code := jdk_78_method_1_code, exceptionTable := #[], attributes := #[] }
def k5m0 : Method := { name := "<init>", desc := "()V", sig := { parameters := [], returnType := none }, accessFlags := 1, code := some k5c0 }
def k5c1 : Code := { maxStack := 2, maxLocals := 2, code := jdk_78_method_2_code, exceptionTable := #[], attributes := #[] }
def k5m1 : Method := { name := "<init>", desc := "(Ljava/lang/String;)V", sig := { parameters := [(.object "java/lang/String")], returnType := none }, accessFlags := 1, code := some k5c1 }
def k5c2 : Code := { maxStack := 2, maxLocals := 1, code := ⟨#[0x2a, 0xb4, 0x00, 0x11, 0xc7, 0x00, 0x0a, 0x2a, 0xb4, 0x00, 0xc6, 0xc6, 0x00, 0x10, 0x2a, 0x03, 0xb6, 0x00, 0xca, 0x57, 0x2a, 0xb2, 0x00, 0x0d, 0xb5, 0x00, 0x11, 0x2a, 0xb0]⟩, exceptionTable := #[], attributes := #[] }
def k5m2 : Method := { name := "fillInStackTrace", desc := "()Ljava/lang/Throwable;", sig := { parameters := [], returnType := some (.object "java/lang/Throwable") }, accessFlags := 33, code := some k5c2 }
def k5m3 : Method := { name := "fillInStackTrace", desc := "(I)Ljava/lang/Throwable;", sig := { parameters := [.int], returnType := some (.object "java/lang/Throwable") }, accessFlags := 258, code := none }
/-- java/lang/Throwable -/
def k5 : Class := { plain "java/lang/Throwable" (some 0) with
  accessFlags := 33
  interfaces := #[4]
  cf := some (fileOf pool5 8 #[.nestMembers #[193, 93, 101, 269]] #[{ accessFlags := 1, nameIndex := 5, descriptorIndex := 6, attributes := #[] }, { accessFlags := 1, nameIndex := 5, descriptorIndex := 223, attributes := #[] }, { accessFlags := 33, nameIndex := 29, descriptorIndex := 30, attributes := #[] }, { accessFlags := 258, nameIndex := 29, descriptorIndex := 204, attributes := #[] }] 33 2 #[318] #[{ accessFlags := 26, nameIndex := 320, descriptorIndex := 321, attributes := #[] }, { accessFlags := 130, nameIndex := 200, descriptorIndex := 201, attributes := #[] }, { accessFlags := 2, nameIndex := 33, descriptorIndex := 34, attributes := #[] }, { accessFlags := 26, nameIndex := 15, descriptorIndex := 16, attributes := #[] }, { accessFlags := 2, nameIndex := 11, descriptorIndex := 12, attributes := #[] }, { accessFlags := 2, nameIndex := 19, descriptorIndex := 16, attributes := #[] }, { accessFlags := 130, nameIndex := 211, descriptorIndex := 212, attributes := #[] }, { accessFlags := 26, nameIndex := 22, descriptorIndex := 23, attributes := #[] }, { accessFlags := 2, nameIndex := 26, descriptorIndex := 23, attributes := #[] }, { accessFlags := 26, nameIndex := 327, descriptorIndex := 34, attributes := #[] }, { accessFlags := 26, nameIndex := 328, descriptorIndex := 34, attributes := #[] }, { accessFlags := 26, nameIndex := 329, descriptorIndex := 34, attributes := #[] }, { accessFlags := 26, nameIndex := 330, descriptorIndex := 34, attributes := #[] }, { accessFlags := 26, nameIndex := 304, descriptorIndex := 305, attributes := #[] }, { accessFlags := 4120, nameIndex := 165, descriptorIndex := 166, attributes := #[] }])
  fields := #[{ name := "serialVersionUID", type := .long, accessFlags := 26, slot := 0, constantValue := 0 }, { name := "backtrace", type := (.object "java/lang/Object"), accessFlags := 130, slot := 0, constantValue := 0 }, { name := "detailMessage", type := (.object "java/lang/String"), accessFlags := 2, slot := 1, constantValue := 0 }, { name := "UNASSIGNED_STACK", type := (.array (.object "java/lang/StackTraceElement")), accessFlags := 26, slot := 1, constantValue := 0 }, { name := "cause", type := (.object "java/lang/Throwable"), accessFlags := 2, slot := 2, constantValue := 0 }, { name := "stackTrace", type := (.array (.object "java/lang/StackTraceElement")), accessFlags := 2, slot := 3, constantValue := 0 }, { name := "depth", type := .int, accessFlags := 130, slot := 4, constantValue := 0 }, { name := "SUPPRESSED_SENTINEL", type := (.object "java/util/List"), accessFlags := 26, slot := 2, constantValue := 0 }, { name := "suppressedExceptions", type := (.object "java/util/List"), accessFlags := 2, slot := 5, constantValue := 0 }, { name := "NULL_CAUSE_MESSAGE", type := (.object "java/lang/String"), accessFlags := 26, slot := 3, constantValue := 0 }, { name := "SELF_SUPPRESSION_MESSAGE", type := (.object "java/lang/String"), accessFlags := 26, slot := 4, constantValue := 0 }, { name := "CAUSE_CAPTION", type := (.object "java/lang/String"), accessFlags := 26, slot := 5, constantValue := 0 }, { name := "SUPPRESSED_CAPTION", type := (.object "java/lang/String"), accessFlags := 26, slot := 6, constantValue := 0 }, { name := "EMPTY_THROWABLE_ARRAY", type := (.array (.object "java/lang/Throwable")), accessFlags := 26, slot := 7, constantValue := 0 }, { name := "$assertionsDisabled", type := .boolean, accessFlags := 4120, slot := 8, constantValue := 0 }]
  methods := #[k5m0, k5m1, k5m2, k5m3]
  instanceTypes := #[(.object "java/lang/Object"), (.object "java/lang/String"), (.object "java/lang/Throwable"), (.array (.object "java/lang/StackTraceElement")), .int, (.object "java/util/List")]
  staticTypes := #[.long, (.array (.object "java/lang/StackTraceElement")), (.object "java/util/List"), (.object "java/lang/String"), (.object "java/lang/String"), (.object "java/lang/String"), (.object "java/lang/String"), (.array (.object "java/lang/Throwable")), .boolean]
  resolved := Array.replicate 404 none
  statics := some 0 }

def pool6 : Array CpInfo := pool [(2, .class_ 4), (1, u "java/lang/Throwable"), (0, u "<init>"), (0, u "()V"), (0, .methodref 2 8), (0, .nameAndType 5 9), (0, u "(Ljava/lang/String;)V"), (9, .class_ 20), (0, u "java/lang/Exception"), (0, u "serialVersionUID"), (0, u "J")] 17

def k6m0 : Method := { name := "<init>", desc := "()V", sig := { parameters := [], returnType := none }, accessFlags := 1, code := none }
def k6c1 : Code := { maxStack := 2, maxLocals := 2, code := jdk_59_method_2_code, exceptionTable := #[], attributes := #[] }
def k6m1 : Method := { name := "<init>", desc := "(Ljava/lang/String;)V", sig := { parameters := [(.object "java/lang/String")], returnType := none }, accessFlags := 1, code := some k6c1 }
/-- java/lang/Exception -/
def k6 : Class := { plain "java/lang/Exception" (some 5) with
  accessFlags := 33
  interfaces := #[]
  cf := some (fileOf pool6 19 #[] #[{ accessFlags := 1, nameIndex := 5, descriptorIndex := 6, attributes := #[] }, { accessFlags := 1, nameIndex := 5, descriptorIndex := 9, attributes := #[] }] 33 2 #[] #[{ accessFlags := 24, nameIndex := 21, descriptorIndex := 22, attributes := #[] }])
  fields := #[{ name := "serialVersionUID", type := .long, accessFlags := 24, slot := 0, constantValue := 0 }]
  methods := #[k6m0, k6m1]
  instanceTypes := #[(.object "java/lang/Object"), (.object "java/lang/String"), (.object "java/lang/Throwable"), (.array (.object "java/lang/StackTraceElement")), .int, (.object "java/util/List")]
  staticTypes := #[.long]
  resolved := Array.replicate 40 none
  statics := none }

def pool7 : Array CpInfo := pool [(1, .methodref 2 3), (0, .class_ 4), (0, .nameAndType 5 6), (0, u "java/lang/Exception"), (0, u "<init>"), (0, u "(Ljava/lang/String;)V"), (0, .fieldref 8 9), (0, .class_ 10), (0, .nameAndType 11 12), (0, u "com/example/plaingrant/plaingrant/server/http/ApiException"), (0, u "mStatus"), (0, u "I"), (4, u "(ILjava/lang/String;)V"), (0, u "serialVersionUID"), (0, u "J")] 11

def k7c0 : Code := { maxStack := 2, maxLocals := 3, code := prog_30_method_1_code, exceptionTable := #[], attributes := #[] }
def k7m0 : Method := { name := "<init>", desc := "(ILjava/lang/String;)V", sig := { parameters := [.int, (.object "java/lang/String")], returnType := none }, accessFlags := 1, code := some k7c0 }
/-- com/example/plaingrant/plaingrant/server/http/ApiException -/
def k7 : Class := { plain "com/example/plaingrant/plaingrant/server/http/ApiException" (some 6) with
  accessFlags := 49
  interfaces := #[]
  cf := some (fileOf pool7 8 #[] #[{ accessFlags := 1, nameIndex := 5, descriptorIndex := 17, attributes := #[] }] 49 2 #[] #[{ accessFlags := 26, nameIndex := 18, descriptorIndex := 19, attributes := #[] }, { accessFlags := 18, nameIndex := 11, descriptorIndex := 12, attributes := #[] }])
  fields := #[{ name := "serialVersionUID", type := .long, accessFlags := 26, slot := 0, constantValue := 0 }, { name := "mStatus", type := .int, accessFlags := 18, slot := 6, constantValue := 0 }]
  methods := #[k7m0]
  instanceTypes := #[(.object "java/lang/Object"), (.object "java/lang/String"), (.object "java/lang/Throwable"), (.array (.object "java/lang/StackTraceElement")), .int, (.object "java/util/List"), .int]
  staticTypes := #[.long]
  resolved := Array.replicate 31 none
  statics := none }

def pool8 : Array CpInfo := pool [(1, .class_ 2), (0, u "java/lang/Comparable"), (0, .class_ 4), (0, u "java/lang/Object")] 7

/-- java/lang/Comparable -/
def k8 : Class := { plain "java/lang/Comparable" (some 0) with
  accessFlags := 1537
  interfaces := #[]
  cf := some (fileOf pool8 1 #[] #[] 1537 3 #[] #[])
  fields := #[]
  methods := #[]
  instanceTypes := #[]
  staticTypes := #[]
  resolved := Array.replicate 12 none
  statics := none }

def pool9 : Array CpInfo := pool [(2, .class_ 4), (1, u "java/lang/CharSequence"), (42, .class_ 48), (0, u "java/lang/CharSequence$1CodePointIterator"), (10, .class_ 60), (0, u "java/lang/CharSequence$1CharIterator"), (5, .class_ 67), (0, u "java/lang/Object")] 63

/-- java/lang/CharSequence -/
def k9 : Class := { plain "java/lang/CharSequence" (some 0) with
  accessFlags := 1537
  interfaces := #[]
  cf := some (fileOf pool9 2 #[.nestMembers #[47, 59]] #[] 1537 66 #[] #[])
  fields := #[]
  methods := #[]
  instanceTypes := #[]
  staticTypes := #[]
  resolved := Array.replicate 131 none
  statics := none }

def pool10 : Array CpInfo := pool [(1, .class_ 2), (0, u "java/lang/constant/Constable"), (0, .class_ 4), (0, u "java/lang/Object")] 6

/-- java/lang/constant/Constable -/
def k10 : Class := { plain "java/lang/constant/Constable" (some 0) with
  accessFlags := 1537
  interfaces := #[]
  cf := some (fileOf pool10 1 #[] #[] 1537 3 #[] #[])
  fields := #[]
  methods := #[]
  instanceTypes := #[]
  staticTypes := #[]
  resolved := Array.replicate 11 none
  statics := none }

def pool11 : Array CpInfo := pool [(1, .class_ 2), (0, u "java/lang/constant/ConstantDesc"), (0, .class_ 4), (0, u "java/lang/Object")] 32

/-- java/lang/constant/ConstantDesc -/
def k11 : Class := { plain "java/lang/constant/ConstantDesc" (some 0) with
  accessFlags := 1537
  interfaces := #[]
  cf := some (fileOf pool11 1 #[] #[] 1537 3 #[] #[])
  fields := #[]
  methods := #[]
  instanceTypes := #[]
  staticTypes := #[]
  resolved := Array.replicate 37 none
  statics := none }

def pool12 : Array CpInfo := pool [(1, .methodref 2 3), (0, .class_ 4), (0, .nameAndType 5 6), (0, u "java/lang/Object"), (0, u "<init>"), (0, u "()V"), (2, .fieldref 10 11), (0, .class_ 12), (0, .nameAndType 13 14), (0, u "java/lang/String"), (0, u "value"), (0, u "[B"), (0, .fieldref 10 16), (0, .nameAndType 17 18), (0, u "coder"), (0, u "B"), (2, u "hash"), (0, u "I"), (2, u "hashIsZero"), (0, u "Z"), (11, .fieldref 10 39), (0, .nameAndType 40 26), (0, u "COMPACT_STRINGS"), (12, u "toBytes"), (53, .class_ 109), (1, u "java/lang/StringLatin1"), (99, .methodref 10 210), (0, .nameAndType 5 211), (0, u "([BB)V"), (157, u "(C)Z"), (205, .class_ 576), (0, u "java/lang/CharSequence"), (22, u "CASE_INSENSITIVE_ORDER"), (0, u "Ljava/util/Comparator;"), (181, u "valueOf"), (0, u "(C)Ljava/lang/String;"), (231, .methodref 107 1016), (0, .nameAndType 1017 369), (0, u "canEncode"), (0, .methodref 107 1019), (0, .nameAndType 53 1020), (0, u "(C)[B"), (80, u "serialPersistentFields"), (0, u "[Ljava/io/ObjectStreamField;"), (0, .class_ 1104), (0, u "java/lang/String$CaseInsensitiveComparator"), (1, .class_ 1107), (0, u "java/io/Serializable"), (0, .class_ 1109), (0, u "java/lang/Comparable"), (0, .class_ 1111), (0, u "java/lang/constant/Constable"), (0, .class_ 1113), (0, u "java/lang/constant/ConstantDesc"), (2, u "serialVersionUID"), (0, u "J"), (3, u "REPL"), (0, u "C"), (2, u "LATIN1"), (1, u "UTF16")] 323

def k12m0 : Method := { name := "<init>", desc := "()V", sig := { parameters := [], returnType := none }, accessFlags := 1, code := none }
def k12c1 : Code := { maxStack := 4, maxLocals := 1, code := jdk_42_method_139_code, exceptionTable := #[], attributes := #[] }
def k12m1 : Method := { name := "valueOf", desc := "(C)Ljava/lang/String;", sig := { parameters := [.char], returnType := some (.object "java/lang/String") }, accessFlags := 9, code := some k12c1 }
def k12c2 : Code := { maxStack := 2, maxLocals := 3, code := jdk_42_method_151_code, exceptionTable := #[], attributes := #[] }
def k12m2 : Method := { name := "<init>", desc := "([BB)V", sig := { parameters := [(.array .byte), .byte], returnType := none }, accessFlags := 0, code := some k12c2 }
/-- java/lang/String -/
def k12 : Class := { plain "java/lang/String" (some 0) with
  accessFlags := 49
  interfaces := #[4, 8, 9, 10, 11]
  cf := some (fileOf pool12 10 #[.nestMembers #[1103]] #[{ accessFlags := 1, nameIndex := 5, descriptorIndex := 6, attributes := #[] }, { accessFlags := 9, nameIndex := 782, descriptorIndex := 783, attributes := #[] }, { accessFlags := 0, nameIndex := 5, descriptorIndex := 211, attributes := #[] }] 49 2 #[1106, 1108, 575, 1110, 1112] #[{ accessFlags := 18, nameIndex := 13, descriptorIndex := 14, attributes := #[] }, { accessFlags := 18, nameIndex := 17, descriptorIndex := 18, attributes := #[] }, { accessFlags := 2, nameIndex := 21, descriptorIndex := 22, attributes := #[] }, { accessFlags := 2, nameIndex := 25, descriptorIndex := 26, attributes := #[] }, { accessFlags := 26, nameIndex := 1116, descriptorIndex := 1117, attributes := #[] }, { accessFlags := 24, nameIndex := 40, descriptorIndex := 26, attributes := #[] }, { accessFlags := 26, nameIndex := 1101, descriptorIndex := 1102, attributes := #[] }, { accessFlags := 26, nameIndex := 1121, descriptorIndex := 1122, attributes := #[] }, { accessFlags := 25, nameIndex := 599, descriptorIndex := 600, attributes := #[] }, { accessFlags := 24, nameIndex := 1125, descriptorIndex := 18, attributes := #[] }, { accessFlags := 24, nameIndex := 1127, descriptorIndex := 18, attributes := #[] }])
  fields := #[{ name := "value", type := (.array .byte), accessFlags := 18, slot := 0, constantValue := 0 }, { name := "coder", type := .byte, accessFlags := 18, slot := 1, constantValue := 0 }, { name := "hash", type := .int, accessFlags := 2, slot := 2, constantValue := 0 }, { name := "hashIsZero", type := .boolean, accessFlags := 2, slot := 3, constantValue := 0 }, { name := "serialVersionUID", type := .long, accessFlags := 26, slot := 0, constantValue := 0 }, { name := "COMPACT_STRINGS", type := .boolean, accessFlags := 24, slot := 1, constantValue := 0 }, { name := "serialPersistentFields", type := (.array (.object "java/io/ObjectStreamField")), accessFlags := 26, slot := 2, constantValue := 0 }, { name := "REPL", type := .char, accessFlags := 26, slot := 3, constantValue := 0 }, { name := "CASE_INSENSITIVE_ORDER", type := (.object "java/util/Comparator"), accessFlags := 25, slot := 4, constantValue := 0 }, { name := "LATIN1", type := .byte, accessFlags := 24, slot := 5, constantValue := 0 }, { name := "UTF16", type := .byte, accessFlags := 24, slot := 6, constantValue := 0 }]
  methods := #[k12m0, k12m1, k12m2]
  instanceTypes := #[(.array .byte), .byte, .int, .boolean]
  staticTypes := #[.long, .boolean, (.array (.object "java/io/ObjectStreamField")), .char, (.object "java/util/Comparator"), .byte, .byte]
  resolved := Array.replicate 1451 none
  statics := some 1 }

def pool13 : Array CpInfo := pool [(4, .class_ 6), (1, u "java/lang/Object"), (0, u "<init>"), (0, u "()V"), (5, .class_ 16), (1, u "java/lang/StringLatin1"), (73, u "canEncode"), (14, u "(C)Z"), (15, u "$assertionsDisabled"), (0, u "Z"), (98, .class_ 223), (1, u "java/lang/StringLatin1$LinesSpliterator"), (156, u "toBytes"), (1, u "(C)[B"), (7, .class_ 391), (0, u "java/lang/StringLatin1$CharsSpliterator")] 3

def k13m0 : Method := { name := "<init>", desc := "()V", sig := { parameters := [], returnType := none }, accessFlags := 0, code := none }
def k13c1 : Code := { maxStack := 2, maxLocals := 1, code := jdk_43_method_3_code, exceptionTable := #[], attributes := #[] }
def k13m1 : Method := { name := "canEncode", desc := "(C)Z", sig := { parameters := [.char], returnType := some .boolean }, accessFlags := 9, code := some k13c1 }
def k13c2 : Code := { maxStack := 4, maxLocals := 1, code := jdk_43_method_46_code, exceptionTable := #[], attributes := #[] }
def k13m2 : Method := { name := "toBytes", desc := "(C)[B", sig := { parameters := [.char], returnType := some (.array .byte) }, accessFlags := 9, code := some k13c2 }
/-- java/lang/StringLatin1 -/
def k13 : Class := { plain "java/lang/StringLatin1" (some 0) with
  accessFlags := 48
  interfaces := #[]
  cf := some (fileOf pool13 14 #[.nestMembers #[390, 221]] #[{ accessFlags := 0, nameIndex := 7, descriptorIndex := 8, attributes := #[] }, { accessFlags := 9, nameIndex := 90, descriptorIndex := 105, attributes := #[] }, { accessFlags := 9, nameIndex := 380, descriptorIndex := 382, attributes := #[] }] 48 4 #[] #[{ accessFlags := 4120, nameIndex := 121, descriptorIndex := 122, attributes := #[] }])
  fields := #[{ name := "$assertionsDisabled", type := .boolean, accessFlags := 4120, slot := 0, constantValue := 0 }]
  methods := #[k13m0, k13m1, k13m2]
  instanceTypes := #[]
  staticTypes := #[.boolean]
  resolved := Array.replicate 395 none
  statics := none }

def pool14 : Array CpInfo := pool [(2, .class_ 4), (1, u "java/lang/Object"), (0, u "<init>"), (0, u "()V"), (17, .class_ 26), (1, u "jdk/internal/util/Preconditions"), (28, .class_ 56), (0, u "jdk/internal/util/Preconditions$4"), (57, .class_ 115), (0, u "jdk/internal/util/Preconditions$1"), (7, u "SIOOBE_FORMATTER"), (0, u "Ljava/util/function/BiFunction;"), (0, .class_ 126), (0, u "jdk/internal/util/Preconditions$2"), (3, u "AIOOBE_FORMATTER"), (0, .class_ 132), (0, u "jdk/internal/util/Preconditions$3"), (3, u "IOOBE_FORMATTER")] 57

def k14m0 : Method := { name := "<init>", desc := "()V", sig := { parameters := [], returnType := none }, accessFlags := 1, code := none }
/-- jdk/internal/util/Preconditions -/
def k14 : Class := { plain "jdk/internal/util/Preconditions" (some 0) with
  accessFlags := 33
  interfaces := #[]
  cf := some (fileOf pool14 24 #[.nestMembers #[55, 131, 125, 114]] #[{ accessFlags := 1, nameIndex := 5, descriptorIndex := 6, attributes := #[] }] 33 2 #[] #[{ accessFlags := 25, nameIndex := 123, descriptorIndex := 124, attributes := #[] }, { accessFlags := 25, nameIndex := 130, descriptorIndex := 124, attributes := #[] }, { accessFlags := 25, nameIndex := 136, descriptorIndex := 124, attributes := #[] }])
  fields := #[{ name := "SIOOBE_FORMATTER", type := (.object "java/util/function/BiFunction"), accessFlags := 25, slot := 0, constantValue := 0 }, { name := "AIOOBE_FORMATTER", type := (.object "java/util/function/BiFunction"), accessFlags := 25, slot := 1, constantValue := 0 }, { name := "IOOBE_FORMATTER", type := (.object "java/util/function/BiFunction"), accessFlags := 25, slot := 2, constantValue := 0 }]
  methods := #[k14m0]
  instanceTypes := #[]
  staticTypes := #[(.object "java/util/function/BiFunction"), (.object "java/util/function/BiFunction"), (.object "java/util/function/BiFunction")]
  resolved := Array.replicate 194 none
  statics := some 2 }

def pool15 : Array CpInfo := pool [(9, u "<init>"), (6, .class_ 18), (1, u "java/lang/Object"), (0, u "()V"), (1, .class_ 23), (1, u "jdk/internal/util/ArraysSupport"), (0, u "LOG2_ARRAY_LONG_INDEX_SCALE"), (0, u "I"), (2, u "U"), (0, u "Ljdk/internal/misc/Unsafe;"), (8, u "BIG_ENDIAN"), (0, u "Z"), (8, u "LOG2_BYTE_BIT_SIZE"), (4, u "LOG2_ARRAY_INT_INDEX_SCALE"), (54, u "JLA"), (0, u "Ljdk/internal/access/JavaLangAccess;"), (11, u "LOG2_ARRAY_BOOLEAN_INDEX_SCALE"), (9, u "LOG2_ARRAY_BYTE_INDEX_SCALE"), (5, u "LOG2_ARRAY_CHAR_INDEX_SCALE"), (5, u "LOG2_ARRAY_SHORT_INDEX_SCALE"), (18, u "LOG2_ARRAY_FLOAT_INDEX_SCALE"), (24, u "LOG2_ARRAY_DOUBLE_INDEX_SCALE"), (89, u "T_BOOLEAN"), (2, u "T_CHAR"), (1, u "T_FLOAT"), (1, u "T_DOUBLE"), (1, u "T_BYTE"), (1, u "T_SHORT"), (1, u "T_INT"), (1, u "T_LONG"), (1, u "SOFT_MAX_ARRAY_LENGTH")] 83

def k15m0 : Method := { name := "<init>", desc := "()V", sig := { parameters := [], returnType := none }, accessFlags := 2, code := none }
/-- jdk/internal/util/ArraysSupport -/
def k15 : Class := { plain "jdk/internal/util/ArraysSupport" (some 0) with
  accessFlags := 33
  interfaces := #[]
  cf := some (fileOf pool15 21 #[] #[{ accessFlags := 2, nameIndex := 9, descriptorIndex := 19, attributes := #[] }] 33 16 #[] #[{ accessFlags := 24, nameIndex := 28, descriptorIndex := 29, attributes := #[] }, { accessFlags := 26, nameIndex := 38, descriptorIndex := 39, attributes := #[] }, { accessFlags := 25, nameIndex := 121, descriptorIndex := 25, attributes := #[] }, { accessFlags := 25, nameIndex := 131, descriptorIndex := 25, attributes := #[] }, { accessFlags := 25, nameIndex := 137, descriptorIndex := 25, attributes := #[] }, { accessFlags := 25, nameIndex := 143, descriptorIndex := 25, attributes := #[] }, { accessFlags := 25, nameIndex := 53, descriptorIndex := 25, attributes := #[] }, { accessFlags := 25, nameIndex := 24, descriptorIndex := 25, attributes := #[] }, { accessFlags := 25, nameIndex := 162, descriptorIndex := 25, attributes := #[] }, { accessFlags := 25, nameIndex := 187, descriptorIndex := 25, attributes := #[] }, { accessFlags := 26, nameIndex := 48, descriptorIndex := 25, attributes := #[] }, { accessFlags := 25, nameIndex := 277, descriptorIndex := 25, attributes := #[] }, { accessFlags := 25, nameIndex := 280, descriptorIndex := 25, attributes := #[] }, { accessFlags := 25, nameIndex := 282, descriptorIndex := 25, attributes := #[] }, { accessFlags := 25, nameIndex := 284, descriptorIndex := 25, attributes := #[] }, { accessFlags := 25, nameIndex := 286, descriptorIndex := 25, attributes := #[] }, { accessFlags := 25, nameIndex := 288, descriptorIndex := 25, attributes := #[] }, { accessFlags := 25, nameIndex := 290, descriptorIndex := 25, attributes := #[] }, { accessFlags := 25, nameIndex := 292, descriptorIndex := 25, attributes := #[] }, { accessFlags := 26, nameIndex := 108, descriptorIndex := 109, attributes := #[] }, { accessFlags := 25, nameIndex := 294, descriptorIndex := 25, attributes := #[] }])
  fields := #[{ name := "U", type := (.object "jdk/internal/misc/Unsafe"), accessFlags := 24, slot := 0, constantValue := 0 }, { name := "BIG_ENDIAN", type := .boolean, accessFlags := 26, slot := 1, constantValue := 0 }, { name := "LOG2_ARRAY_BOOLEAN_INDEX_SCALE", type := .int, accessFlags := 25, slot := 2, constantValue := 0 }, { name := "LOG2_ARRAY_BYTE_INDEX_SCALE", type := .int, accessFlags := 25, slot := 3, constantValue := 0 }, { name := "LOG2_ARRAY_CHAR_INDEX_SCALE", type := .int, accessFlags := 25, slot := 4, constantValue := 0 }, { name := "LOG2_ARRAY_SHORT_INDEX_SCALE", type := .int, accessFlags := 25, slot := 5, constantValue := 0 }, { name := "LOG2_ARRAY_INT_INDEX_SCALE", type := .int, accessFlags := 25, slot := 6, constantValue := 0 }, { name := "LOG2_ARRAY_LONG_INDEX_SCALE", type := .int, accessFlags := 25, slot := 7, constantValue := 0 }, { name := "LOG2_ARRAY_FLOAT_INDEX_SCALE", type := .int, accessFlags := 25, slot := 8, constantValue := 0 }, { name := "LOG2_ARRAY_DOUBLE_INDEX_SCALE", type := .int, accessFlags := 25, slot := 9, constantValue := 0 }, { name := "LOG2_BYTE_BIT_SIZE", type := .int, accessFlags := 26, slot := 10, constantValue := 0 }, { name := "T_BOOLEAN", type := .int, accessFlags := 25, slot := 11, constantValue := 0 }, { name := "T_CHAR", type := .int, accessFlags := 25, slot := 12, constantValue := 0 }, { name := "T_FLOAT", type := .int, accessFlags := 25, slot := 13, constantValue := 0 }, { name := "T_DOUBLE", type := .int, accessFlags := 25, slot := 14, constantValue := 0 }, { name := "T_BYTE", type := .int, accessFlags := 25, slot := 15, constantValue := 0 }, { name := "T_SHORT", type := .int, accessFlags := 25, slot := 16, constantValue := 0 }, { name := "T_INT", type := .int, accessFlags := 25, slot := 17, constantValue := 0 }, { name := "T_LONG", type := .int, accessFlags := 25, slot := 18, constantValue := 0 }, { name := "JLA", type := (.object "jdk/internal/access/JavaLangAccess"), accessFlags := 26, slot := 19, constantValue := 0 }, { name := "SOFT_MAX_ARRAY_LENGTH", type := .int, accessFlags := 25, slot := 20, constantValue := 0 }]
  methods := #[k15m0]
  instanceTypes := #[]
  staticTypes := #[(.object "jdk/internal/misc/Unsafe"), .boolean, .int, .int, .int, .int, .int, .int, .int, .int, .int, .int, .int, .int, .int, .int, .int, .int, .int, (.object "jdk/internal/access/JavaLangAccess"), .int]
  resolved := Array.replicate 378 none
  statics := none }

def pool16 : Array CpInfo := pool [(2, .class_ 4), (1, u "java/lang/Object"), (0, u "<init>"), (0, u "()V"), (12, .class_ 20), (0, u "java/util/Collections"), (63, u "r"), (0, u "Ljava/util/Random;"), (80, .class_ 167), (0, u "java/util/Collections$UnmodifiableCollection"), (6, .class_ 175), (0, u "java/util/Collections$UnmodifiableSequencedCollection"), (6, .class_ 183), (0, u "java/util/Collections$UnmodifiableSet"), (6, .class_ 191), (0, u "java/util/Collections$UnmodifiableSequencedSet"), (6, .class_ 199), (0, u "java/util/Collections$UnmodifiableSortedSet"), (6, .class_ 207), (0, u "java/util/Collections$UnmodifiableNavigableSet"), (4, .class_ 213), (0, u "java/util/Collections$UnmodifiableList"), (1, .class_ 216), (0, u "java/util/Collections$UnmodifiableRandomAccessList"), (6, .class_ 224), (0, u "java/util/Collections$UnmodifiableMap"), (6, .class_ 232), (0, u "java/util/Collections$UnmodifiableSequencedMap"), (4, .class_ 238), (0, u "java/util/Collections$UnmodifiableSortedMap"), (6, .class_ 246), (0, u "java/util/Collections$UnmodifiableNavigableMap"), (3, .class_ 251), (0, u "java/util/Collections$SynchronizedCollection"), (4, .class_ 257), (0, u "java/util/Collections$SynchronizedSet"), (4, .class_ 263), (0, u "java/util/Collections$SynchronizedSortedSet"), (1, .class_ 266), (0, u "java/util/Collections$SynchronizedNavigableSet"), (1, .class_ 269), (0, u "java/util/Collections$SynchronizedRandomAccessList"), (1, .class_ 272), (0, u "java/util/Collections$SynchronizedList"), (5, .class_ 279), (0, u "java/util/Collections$SynchronizedMap"), (1, .class_ 282), (0, u "java/util/Collections$SynchronizedSortedMap"), (1, .class_ 285), (0, u "java/util/Collections$SynchronizedNavigableMap"), (1, .class_ 288), (0, u "java/util/Collections$CheckedCollection"), (11, .class_ 301), (0, u "java/util/Collections$CheckedQueue"), (3, .class_ 306), (0, u "java/util/Collections$CheckedSet"), (3, .class_ 311), (0, u "java/util/Collections$CheckedSortedSet"), (3, .class_ 316), (0, u "java/util/Collections$CheckedNavigableSet"), (3, .class_ 321), (0, u "java/util/Collections$CheckedRandomAccessList"), (3, .class_ 326), (0, u "java/util/Collections$CheckedList"), (1, .class_ 329), (0, u "java/util/Collections$CheckedMap"), (3, .class_ 334), (0, u "java/util/Collections$CheckedSortedMap"), (3, .class_ 339), (0, u "java/util/Collections$CheckedNavigableMap"), (4, .class_ 346), (1, u "java/util/Collections$EmptyIterator"), (3, .class_ 352), (1, u "java/util/Collections$EmptyListIterator"), (2, .class_ 357), (1, u "java/util/Collections$EmptyEnumeration"), (4, u "EMPTY_SET"), (0, u "Ljava/util/Set;"), (6, u "EMPTY_LIST"), (0, u "Ljava/util/List;"), (2, u "EMPTY_MAP"), (0, u "Ljava/util/Map;"), (4, .class_ 381), (0, u "java/util/Collections$SingletonSet"), (2, .class_ 385), (0, u "java/util/Collections$1"), (1, .class_ 388), (0, u "java/util/Collections$2"), (1, .class_ 391), (0, u "java/util/Collections$SingletonList"), (1, .class_ 394), (0, u "java/util/Collections$SingletonMap"), (22, .class_ 418), (0, u "java/util/Collections$CopiesList"), (4, .class_ 425), (1, u "java/util/Collections$ReverseComparator"), (8, .class_ 435), (0, u "java/util/Collections$ReverseComparator2"), (6, .class_ 443), (0, u "java/util/Collections$3"), (25, .class_ 470), (0, u "java/util/Collections$SetFromMap"), (2, .class_ 474), (0, u "java/util/Collections$SequencedSetFromMap"), (3, .class_ 479), (0, u "java/util/Collections$AsLIFOQueue"), (11, .class_ 492), (0, u "java/util/Collections$EmptySet"), (1, .class_ 495), (0, u "java/util/Collections$EmptyList"), (1, .class_ 498), (0, u "java/util/Collections$EmptyMap"), (1, u "BINARYSEARCH_THRESHOLD"), (0, u "I"), (2, u "REVERSE_THRESHOLD"), (1, u "SHUFFLE_THRESHOLD"), (1, u "FILL_THRESHOLD"), (1, u "ROTATE_THRESHOLD"), (1, u "COPY_THRESHOLD"), (1, u "REPLACEALL_THRESHOLD"), (1, u "INDEXOFSUBLIST_THRESHOLD"), (333, .class_ 851), (0, u "java/util/Collections$CheckedMap$CheckedEntrySet"), (0, .class_ 853), (0, u "java/util/Collections$CheckedMap$CheckedEntrySet$CheckedEntry"), (0, .class_ 855), (0, u "java/util/Collections$CheckedMap$CheckedEntrySet$1"), (0, .class_ 857), (0, u "java/util/Collections$CheckedList$1"), (0, .class_ 859), (0, u "java/util/Collections$CheckedCollection$1"), (0, .class_ 861), (0, u "java/util/Collections$UnmodifiableNavigableMap$EmptyNavigableMap"), (0, .class_ 863), (0, u "java/util/Collections$UnmodifiableMap$UnmodifiableEntrySet"), (0, .class_ 865), (0, u "java/util/Collections$UnmodifiableMap$UnmodifiableEntrySet$UnmodifiableEntry"), (0, .class_ 867), (0, u "java/util/Collections$UnmodifiableMap$UnmodifiableEntrySet$UnmodifiableEntrySetSpliterator"), (0, .class_ 869), (0, u "java/util/Collections$UnmodifiableMap$UnmodifiableEntrySet$1"), (0, .class_ 871), (0, u "java/util/Collections$UnmodifiableList$1"), (0, .class_ 873), (0, u "java/util/Collections$UnmodifiableNavigableSet$EmptyNavigableSet"), (0, .class_ 875), (0, u "java/util/Collections$UnmodifiableCollection$1")] 57

def k16m0 : Method := { name := "<init>", desc := "()V", sig := { parameters := [], returnType := none }, accessFlags := 2, code := none }
/-- java/util/Collections -/
def k16 : Class := { plain "java/util/Collections" (some 0) with
  accessFlags := 33
  interfaces := #[]
  cf := some (fileOf pool16 19 #[.nestMembers #[478, 473, 469, 434, 423, 417, 393, 390, 380, 497, 494, 491, 355, 350, 344, 338, 333, 328, 850, 852, 854, 320, 325, 856, 315, 310, 305, 300, 287, 858, 284, 281, 278, 268, 271, 265, 262, 256, 250, 245, 860, 237, 231, 223, 862, 864, 866, 868, 215, 212, 870, 206, 872, 198, 190, 182, 174, 166, 874, 442, 387, 384]] #[{ accessFlags := 2, nameIndex := 5, descriptorIndex := 6, attributes := #[] }] 33 2 #[] #[{ accessFlags := 26, nameIndex := 500, descriptorIndex := 501, attributes := #[] }, { accessFlags := 26, nameIndex := 504, descriptorIndex := 501, attributes := #[] }, { accessFlags := 26, nameIndex := 506, descriptorIndex := 501, attributes := #[] }, { accessFlags := 26, nameIndex := 508, descriptorIndex := 501, attributes := #[] }, { accessFlags := 26, nameIndex := 510, descriptorIndex := 501, attributes := #[] }, { accessFlags := 26, nameIndex := 512, descriptorIndex := 501, attributes := #[] }, { accessFlags := 26, nameIndex := 514, descriptorIndex := 501, attributes := #[] }, { accessFlags := 26, nameIndex := 516, descriptorIndex := 501, attributes := #[] }, { accessFlags := 10, nameIndex := 84, descriptorIndex := 85, attributes := #[] }, { accessFlags := 25, nameIndex := 362, descriptorIndex := 363, attributes := #[] }, { accessFlags := 25, nameIndex := 370, descriptorIndex := 371, attributes := #[] }, { accessFlags := 25, nameIndex := 374, descriptorIndex := 375, attributes := #[] }])
  fields := #[{ name := "BINARYSEARCH_THRESHOLD", type := .int, accessFlags := 26, slot := 0, constantValue := 0 }, { name := "REVERSE_THRESHOLD", type := .int, accessFlags := 26, slot := 1, constantValue := 0 }, { name := "SHUFFLE_THRESHOLD", type := .int, accessFlags := 26, slot := 2, constantValue := 0 }, { name := "FILL_THRESHOLD", type := .int, accessFlags := 26, slot := 3, constantValue := 0 }, { name := "ROTATE_THRESHOLD", type := .int, accessFlags := 26, slot := 4, constantValue := 0 }, { name := "COPY_THRESHOLD", type := .int, accessFlags := 26, slot := 5, constantValue := 0 }, { name := "REPLACEALL_THRESHOLD", type := .int, accessFlags := 26, slot := 6, constantValue := 0 }, { name := "INDEXOFSUBLIST_THRESHOLD", type := .int, accessFlags := 26, slot := 7, constantValue := 0 }, { name := "r", type := (.object "java/util/Random"), accessFlags := 10, slot := 8, constantValue := 0 }, { name := "EMPTY_SET", type := (.object "java/util/Set"), accessFlags := 25, slot := 9, constantValue := 0 }, { name := "EMPTY_LIST", type := (.object "java/util/List"), accessFlags := 25, slot := 10, constantValue := 0 }, { name := "EMPTY_MAP", type := (.object "java/util/Map"), accessFlags := 25, slot := 11, constantValue := 0 }]
  methods := #[k16m0]
  instanceTypes := #[]
  staticTypes := #[.int, .int, .int, .int, .int, .int, .int, .int, (.object "java/util/Random"), (.object "java/util/Set"), (.object "java/util/List"), (.object "java/util/Map")]
  resolved := Array.replicate 933 none
  statics := some 3 }

def pool17 : Array CpInfo := pool [(8, .class_ 10), (1, u "java/lang/Iterable"), (24, .class_ 36), (0, u "java/lang/Object")] 25

/-- java/lang/Iterable -/
def k17 : Class := { plain "java/lang/Iterable" (some 0) with
  accessFlags := 1537
  interfaces := #[]
  cf := some (fileOf pool17 8 #[] #[] 1537 35 #[] #[])
  fields := #[]
  methods := #[]
  instanceTypes := #[]
  staticTypes := #[]
  resolved := Array.replicate 62 none
  statics := none }

def pool18 : Array CpInfo := pool [(10, .class_ 12), (1, u "java/util/Collection"), (47, .class_ 61), (0, u "java/lang/Object"), (0, .class_ 63), (0, u "java/lang/Iterable")] 51

/-- java/util/Collection -/
def k18 : Class := { plain "java/util/Collection" (some 0) with
  accessFlags := 1537
  interfaces := #[17]
  cf := some (fileOf pool18 10 #[] #[] 1537 60 #[62] #[])
  fields := #[]
  methods := #[]
  instanceTypes := #[]
  staticTypes := #[]
  resolved := Array.replicate 115 none
  statics := none }

def pool19 : Array CpInfo := pool [(2, .class_ 4), (1, u "java/lang/Object"), (0, u "<init>"), (0, u "()V"), (1, .class_ 10), (1, u "java/util/AbstractCollection"), (66, .class_ 78), (0, u "java/util/Collection")] 81

def k19m0 : Method := { name := "<init>", desc := "()V", sig := { parameters := [], returnType := none }, accessFlags := 4, code := none }
/-- java/util/AbstractCollection -/
def k19 : Class := { plain "java/util/AbstractCollection" (some 0) with
  accessFlags := 1057
  interfaces := #[18]
  cf := some (fileOf pool19 8 #[] #[{ accessFlags := 4, nameIndex := 5, descriptorIndex := 6, attributes := #[] }] 1057 2 #[77] #[])
  fields := #[]
  methods := #[k19m0]
  instanceTypes := #[]
  staticTypes := #[]
  resolved := Array.replicate 160 none
  statics := none }

def pool20 : Array CpInfo := pool [(8, .class_ 10), (1, u "java/util/SequencedCollection"), (15, .class_ 27), (0, u "java/lang/Object"), (0, .class_ 29), (0, u "java/util/Collection")] 27

/-- java/util/SequencedCollection -/
def k20 : Class := { plain "java/util/SequencedCollection" (some 0) with
  accessFlags := 1537
  interfaces := #[18]
  cf := some (fileOf pool20 8 #[] #[] 1537 26 #[28] #[])
  fields := #[]
  methods := #[]
  instanceTypes := #[]
  staticTypes := #[]
  resolved := Array.replicate 57 none
  statics := none }

def pool21 : Array CpInfo := pool [(8, .class_ 10), (1, u "java/util/List"), (92, .class_ 104), (0, u "java/lang/Object"), (15, .class_ 121), (0, u "java/util/SequencedCollection")] 129

/-- java/util/List -/
def k21 : Class := { plain "java/util/List" (some 0) with
  accessFlags := 1537
  interfaces := #[20]
  cf := some (fileOf pool21 8 #[] #[] 1537 103 #[120] #[])
  fields := #[]
  methods := #[]
  instanceTypes := #[]
  staticTypes := #[]
  resolved := Array.replicate 251 none
  statics := none }

def pool22 : Array CpInfo := pool [(2, .class_ 4), (1, u "java/util/AbstractCollection"), (0, u "<init>"), (0, u "()V"), (1, .class_ 10), (1, u "java/util/AbstractList"), (0, u "modCount"), (0, u "I"), (64, .class_ 78), (0, u "java/util/AbstractList$Itr"), (3, .class_ 83), (0, u "java/util/AbstractList$ListItr"), (9, .class_ 94), (0, u "java/util/AbstractList$RandomAccessSubList"), (3, .class_ 99), (0, u "java/util/AbstractList$SubList"), (33, .class_ 134), (0, u "java/util/List"), (73, .class_ 209), (0, u "java/util/AbstractList$SubList$1"), (0, .class_ 211), (0, u "java/util/AbstractList$RandomAccessSpliterator")] 6

def k22m0 : Method := { name := "<init>", desc := "()V", sig := { parameters := [], returnType := none }, accessFlags := 4, code := none }
/-- java/util/AbstractList -/
def k22 : Class := { plain "java/util/AbstractList" (some 19) with
  accessFlags := 1057
  interfaces := #[21]
  cf := some (fileOf pool22 8 #[.nestMembers #[93, 98, 208, 210, 82, 77]] #[{ accessFlags := 4, nameIndex := 5, descriptorIndex := 6, attributes := #[] }] 1057 2 #[133] #[{ accessFlags := 132, nameIndex := 11, descriptorIndex := 12, attributes := #[] }])
  fields := #[{ name := "modCount", type := .int, accessFlags := 132, slot := 0, constantValue := 0 }]
  methods := #[k22m0]
  instanceTypes := #[.int]
  staticTypes := #[]
  resolved := Array.replicate 218 none
  statics := none }

def pool23 : Array CpInfo := pool [(1, .class_ 2), (0, u "java/util/RandomAccess"), (0, .class_ 4), (0, u "java/lang/Object")] 2

/-- java/util/RandomAccess -/
def k23 : Class := { plain "java/util/RandomAccess" (some 0) with
  accessFlags := 1537
  interfaces := #[]
  cf := some (fileOf pool23 1 #[] #[] 1537 3 #[] #[])
  fields := #[]
  methods := #[]
  instanceTypes := #[]
  staticTypes := #[]
  resolved := Array.replicate 7 none
  statics := none }

def pool24 : Array CpInfo := pool [(2, .class_ 4), (1, u "java/util/AbstractList"), (0, u "<init>"), (0, u "()V"), (1, .class_ 10), (1, u "java/util/Collections"), (54, .class_ 66), (0, u "java/util/Collections$EmptyList"), (0, .class_ 68), (0, u "java/util/RandomAccess"), (0, .class_ 70), (0, u "java/io/Serializable"), (0, u "serialVersionUID"), (0, u "J")] 77

def k24m0 : Method := { name := "<init>", desc := "()V", sig := { parameters := [], returnType := none }, accessFlags := 2, code := none }
/-- java/util/Collections$EmptyList -/
def k24 : Class := { plain "java/util/Collections$EmptyList" (some 22) with
  accessFlags := 32
  interfaces := #[23, 4]
  cf := some (fileOf pool24 65 #[.nestHost 8] #[{ accessFlags := 2, nameIndex := 5, descriptorIndex := 6, attributes := #[] }] 32 2 #[67, 69] #[{ accessFlags := 26, nameIndex := 71, descriptorIndex := 72, attributes := #[] }])
  fields := #[{ name := "serialVersionUID", type := .long, accessFlags := 26, slot := 0, constantValue := 0 }]
  methods := #[k24m0]
  instanceTypes := #[.int]
  staticTypes := #[.long]
  resolved := Array.replicate 150 none
  statics := none }

def pool25 : Array CpInfo := pool [(2, .class_ 4), (1, u "java/lang/StackTraceElement"), (0, u "<init>"), (2, .class_ 10), (1, u "java/lang/Object"), (0, u "()V"), (2, u "format"), (0, u "B"), (2, u "classLoaderName"), (0, u "Ljava/lang/String;"), (2, u "moduleName"), (2, u "moduleVersion"), (12, u "declaringClass"), (4, u "methodName"), (2, u "fileName"), (2, u "lineNumber"), (0, u "I"), (65, u "declaringClassObject"), (0, u "Ljava/lang/Class;"), (33, .class_ 153), (1, u "java/lang/StackTraceElement$HashedModules"), (17, .class_ 172), (0, u "java/io/Serializable"), (0, u "NATIVE_METHOD"), (1, u "UNKNOWN_SOURCE"), (2, u "BUILTIN_CLASS_LOADER"), (1, u "JDK_NON_UPGRADEABLE_MODULE"), (1, u "serialVersionUID"), (0, u "J")] 51

def k25m0 : Method := { name := "<init>", desc := "()V", sig := { parameters := [], returnType := none }, accessFlags := 2, code := none }
/-- java/lang/StackTraceElement -/
def k25 : Class := { plain "java/lang/StackTraceElement" (some 0) with
  accessFlags := 49
  interfaces := #[4]
  cf := some (fileOf pool25 2 #[.nestMembers #[151]] #[{ accessFlags := 2, nameIndex := 5, descriptorIndex := 11, attributes := #[] }] 49 8 #[171] #[{ accessFlags := 26, nameIndex := 173, descriptorIndex := 19, attributes := #[] }, { accessFlags := 26, nameIndex := 175, descriptorIndex := 19, attributes := #[] }, { accessFlags := 130, nameIndex := 116, descriptorIndex := 117, attributes := #[] }, { accessFlags := 2, nameIndex := 18, descriptorIndex := 19, attributes := #[] }, { accessFlags := 2, nameIndex := 22, descriptorIndex := 19, attributes := #[] }, { accessFlags := 2, nameIndex := 25, descriptorIndex := 19, attributes := #[] }, { accessFlags := 2, nameIndex := 38, descriptorIndex := 19, attributes := #[] }, { accessFlags := 2, nameIndex := 43, descriptorIndex := 19, attributes := #[] }, { accessFlags := 2, nameIndex := 46, descriptorIndex := 19, attributes := #[] }, { accessFlags := 2, nameIndex := 49, descriptorIndex := 50, attributes := #[] }, { accessFlags := 2, nameIndex := 14, descriptorIndex := 15, attributes := #[] }, { accessFlags := 26, nameIndex := 178, descriptorIndex := 15, attributes := #[] }, { accessFlags := 26, nameIndex := 180, descriptorIndex := 15, attributes := #[] }, { accessFlags := 26, nameIndex := 182, descriptorIndex := 183, attributes := #[] }])
  fields := #[{ name := "NATIVE_METHOD", type := (.object "java/lang/String"), accessFlags := 26, slot := 0, constantValue := 0 }, { name := "UNKNOWN_SOURCE", type := (.object "java/lang/String"), accessFlags := 26, slot := 1, constantValue := 0 }, { name := "declaringClassObject", type := (.object "java/lang/Class"), accessFlags := 130, slot := 0, constantValue := 0 }, { name := "classLoaderName", type := (.object "java/lang/String"), accessFlags := 2, slot := 1, constantValue := 0 }, { name := "moduleName", type := (.object "java/lang/String"), accessFlags := 2, slot := 2, constantValue := 0 }, { name := "moduleVersion", type := (.object "java/lang/String"), accessFlags := 2, slot := 3, constantValue := 0 }, { name := "declaringClass", type := (.object "java/lang/String"), accessFlags := 2, slot := 4, constantValue := 0 }, { name := "methodName", type := (.object "java/lang/String"), accessFlags := 2, slot := 5, constantValue := 0 }, { name := "fileName", type := (.object "java/lang/String"), accessFlags := 2, slot := 6, constantValue := 0 }, { name := "lineNumber", type := .int, accessFlags := 2, slot := 7, constantValue := 0 }, { name := "format", type := .byte, accessFlags := 2, slot := 8, constantValue := 0 }, { name := "BUILTIN_CLASS_LOADER", type := .byte, accessFlags := 26, slot := 2, constantValue := 0 }, { name := "JDK_NON_UPGRADEABLE_MODULE", type := .byte, accessFlags := 26, slot := 3, constantValue := 0 }, { name := "serialVersionUID", type := .long, accessFlags := 26, slot := 4, constantValue := 0 }]
  methods := #[k25m0]
  instanceTypes := #[(.object "java/lang/Class"), (.object "java/lang/String"), (.object "java/lang/String"), (.object "java/lang/String"), (.object "java/lang/String"), (.object "java/lang/String"), (.object "java/lang/String"), .int, .byte]
  staticTypes := #[(.object "java/lang/String"), (.object "java/lang/String"), .byte, .byte, .long]
  resolved := Array.replicate 235 none
  statics := none }

def pool26 : Array CpInfo := pool [(1, u "java/lang/Cloneable"), (0, .class_ 1), (0, u "java/lang/Object"), (0, .class_ 3)] 3

/-- java/lang/Cloneable -/
def k26 : Class := { plain "java/lang/Cloneable" (some 0) with
  accessFlags := 1537
  interfaces := #[]
  cf := some (fileOf pool26 2 #[] #[] 1537 4 #[] #[])
  fields := #[]
  methods := #[]
  instanceTypes := #[]
  staticTypes := #[]
  resolved := Array.replicate 8 none
  statics := none }

/-- the primitive byte -/
def k27 : Class := { plain "byte" none with kind := .primitive 'B', accessFlags := 0x411 }
/-- [B -/
def k28 : Class := { plain "[B" (some 0) with kind := .array 27 .byte, interfaces := #[26, 4], accessFlags := 1041 }

/-- the primitive int -/
def k29 : Class := { plain "int" none with kind := .primitive 'I', accessFlags := 0x411 }
/-- [I -/
def k30 : Class := { plain "[I" (some 0) with kind := .array 29 .int, interfaces := #[26, 4], accessFlags := 1041 }

/-- [Ljava/lang/Object; -/
def k31 : Class := { plain "[Ljava/lang/Object;" (some 0) with kind := .array 0 (.object "java/lang/Object"), interfaces := #[26, 4], accessFlags := 1041 }

/-- [Ljava/lang/StackTraceElement; -/
def k32 : Class := { plain "[Ljava/lang/StackTraceElement;" (some 0) with kind := .array 25 (.object "java/lang/StackTraceElement"), interfaces := #[26, 4], accessFlags := 1041 }

/-- [Ljava/lang/Throwable; -/
def k33 : Class := { plain "[Ljava/lang/Throwable;" (some 0) with kind := .array 5 (.object "java/lang/Throwable"), interfaces := #[26, 4], accessFlags := 1041 }

def heap : Heap := #[{ cls := 5, slots := #[.long 0, .ref 4, .ref 5, .null, .null, .null, .null, .ref 6, .int 1], vm := .statics 5 },
  { cls := 12, slots := #[.long 0, .int 1, .null, .int 0, .null, .int 0, .int 0], vm := .statics 12 },
  { cls := 14, slots := #[.null, .null, .null], vm := .statics 14 },
  { cls := 16, slots := #[.int 0, .int 0, .int 0, .int 0, .int 0, .int 0, .int 0, .int 0, .null, .null, .ref 5, .null], vm := .statics 16 },
  { cls := 32, slots := #[], vm := .none },
  { cls := 24, slots := #[.int 0], vm := .none },
  { cls := 33, slots := #[], vm := .none }]
def classes : Array Class := #[k0, k1, k2, k3, k4, k5, k6, k7, k8, k9, k10, k11, k12, k13, k14, k15, k16, k17, k18, k19, k20, k21, k22, k23, k24, k25, k26, k27, k28, k29, k30, k31, k32, k33]
def interned : List (Array UInt16 × Addr) := []
def slotsUsed : Nat := 32
def theMethod : MethodId := ⟨1, 1⟩
def args0 : Array Value := #[.int 5, .int 6, .int 7, .int 8]
def aboutOver (below : List Frame) : State where
  vm := { classes := classes, interned := interned.toArray }
  heap := heap
  slotsUsed := slotsUsed
  threads := #[{ frames := .invoking theMethod args0 :: below }]
def below0 : List Frame := [.native { method := ⟨0, 0⟩, args := #[] }]
def about1 : State := aboutOver below0
def p0 : Program := .bare "" "" ""
def e0 : Env := launch0.env 0 0 0
theorem w_frames : about1.frames = Frame.invoking theMethod args0 :: below0 := rfl
set_option maxRecDepth 65536 in
theorem w_args : argsFit about1.vm theMethod args0 = true := by decide +kernel
set_option maxRecDepth 65536 in
theorem w_heap : heapFits about1 = true := by decide +kernel
set_option maxRecDepth 65536 in
theorem w_runnable : about1.curStatus? = some .runnable := by decide +kernel
set_option maxRecDepth 65536 in
theorem w_alone : about1.alone = true := by decide +kernel
set_option maxRecDepth 65536 in
theorem w_named : about1.methodNamed? x = some theMethod := by decide +kernel
set_option maxRecDepth 65536 in
theorem w_hears : about1.hears theMethod below0 = true := by decide +kernel
set_option maxRecDepth 65536 in
theorem w_ripe : about1.ripe theMethod args0 below0 = true := by decide +kernel
theorem w_running : about1.status = .running := rfl
set_option maxRecDepth 65536 in
theorem w_room : about1.hasRoom e0.platform room_1 = true :=
  launch0.hasRoom_least _ room_1 (by decide +kernel) (by decide +kernel) (by decide +kernel) (by decide +kernel) (by decide +kernel) (by decide +kernel)
theorem allAtoms_all (ts : List Jvm.Cond) (a : Array Jvm.Value) (st : Jvm.State) : (allAtoms ts).before a st = ts.all (fun c => c.before a st) := by
  induction ts with
  | nil => rfl
  | cons c t ih =>
    show (Jvm.Cond.and c (allAtoms t)).before a st = _
    rw [Jvm.Cond.before_and, ih, List.all_cons]
def words1 : List Jvm.Cond := Jvm.Cond.code x code maxLocals ret :: tables_1
/-- a 'code' word, met by the world's own term for the bytes: nothing is compared byte by byte -/
theorem code_word {y : MethodName} {bytes : ByteArray} {mx : Nat} {rt : Option FieldType} {a : Array Value} {s : State} {m : MethodId} {meth : Method} {c : Code} (h1 : s.methodNamed? y = some m) (h2 : s.vm.method? m = some meth) (h3 : meth.code = some c) (h4 : c.code = bytes)
    (h5 : (c.maxLocals == mx && c.exceptionTable.isEmpty && decide (c.maxStack ≤ mostOperands) && decide (meth.sig.returnType = rt) && !meth.locks && decide (parseMethodDescriptor y.desc = some meth.sig)) = true) : (Jvm.Cond.code y bytes mx rt).before a s = true := by
  simp only [Bool.and_eq_true, beq_iff_eq, Bool.not_eq_true', decide_eq_true_eq] at h5
  obtain ⟨⟨⟨⟨⟨g1, g2⟩, g3⟩, g4⟩, g5⟩, g6⟩ := h5
  simp [Cond.before, Cond.holds, Cond.value, h1, h2, h3, h4, g1, g2, g3, g4, g5, g6]
def isCode : Jvm.Cond → Bool
  | .code _ _ _ _ => true
  | _ => false
theorem all_split {L : List Jvm.Cond} {P : Jvm.Cond → Bool} (h1 : L.all (fun c => isCode c || P c) = true) (h2 : ∀ c ∈ L.filter isCode, P c = true) : L.all P = true := by
  refine List.all_eq_true.mpr fun c hc => ?_
  have h := List.all_eq_true.mp h1 c hc
  rcases Bool.eq_false_or_eq_true (isCode c) with hi | hi
  · exact h2 c (List.mem_filter.mpr ⟨hc, hi⟩)
  · simpa [hi] using h
set_option maxRecDepth 65536 in
theorem w_c0 : (Jvm.Cond.code x code maxLocals ret).before args0 about1 = true := code_word (m := ⟨1, 1⟩) (meth := k1m1) (c := k1c1) (by decide +kernel) rfl rfl rfl (by decide +kernel)
set_option maxRecDepth 65536 in
theorem w_c1 : (Jvm.Cond.code ({ cls := "com/example/plaingrant/plaingrant/server/http/Request$Body", name := "<init>", desc := "([BLcom/example/plaingrant/plaingrant/server/http/ApiException;)V" } : Jvm.MethodName) prog_36_method_1_code (3 : Nat) (Option.none : Option Jvm.ClassFile.FieldType)).before args0 about1 = true := code_word (m := ⟨3, 0⟩) (meth := k3m0) (c := k3c0) (by decide +kernel) rfl rfl rfl (by decide +kernel)
set_option maxRecDepth 65536 in
theorem w_c2 : (Jvm.Cond.code ({ cls := "java/lang/Record", name := "<init>", desc := "()V" } : Jvm.MethodName) jdk_30_method_1_code (1 : Nat) (Option.none : Option Jvm.ClassFile.FieldType)).before args0 about1 = true := code_word (m := ⟨2, 0⟩) (meth := k2m0) (c := k2c0) (by decide +kernel) rfl rfl rfl (by decide +kernel)
set_option maxRecDepth 65536 in
theorem w_c3 : (Jvm.Cond.code ({ cls := "java/lang/Object", name := "<init>", desc := "()V" } : Jvm.MethodName) object_method_1_code (1 : Nat) (Option.none : Option Jvm.ClassFile.FieldType)).before args0 about1 = true := code_word (m := ⟨0, 0⟩) (meth := k0m0) (c := k0c0) (by decide +kernel) rfl rfl rfl (by decide +kernel)
set_option maxRecDepth 65536 in
theorem w_c4 : (Jvm.Cond.code ({ cls := "com/example/plaingrant/plaingrant/server/http/Request$Body", name := "whole", desc := "()Z" } : Jvm.MethodName) prog_36_method_4_code (1 : Nat) (Option.some Jvm.ClassFile.FieldType.boolean)).before args0 about1 = true := code_word (m := ⟨3, 1⟩) (meth := k3m1) (c := k3c1) (by decide +kernel) rfl rfl rfl (by decide +kernel)
set_option maxRecDepth 65536 in
theorem w_c5 : (Jvm.Cond.code ({ cls := "com/example/plaingrant/plaingrant/server/http/Request$Body", name := "take", desc := "()[B" } : Jvm.MethodName) prog_36_method_5_code (1 : Nat) (Option.some (Jvm.ClassFile.FieldType.array Jvm.ClassFile.FieldType.byte))).before args0 about1 = true := code_word (m := ⟨3, 2⟩) (meth := k3m2) (c := k3c2) (by decide +kernel) rfl rfl rfl (by decide +kernel)
set_option maxRecDepth 65536 in
theorem w_c6 : (Jvm.Cond.code ({ cls := "java/lang/String", name := "valueOf", desc := "(C)Ljava/lang/String;" } : Jvm.MethodName) jdk_42_method_139_code (1 : Nat) (Option.some (Jvm.ClassFile.FieldType.object "java/lang/String"))).before args0 about1 = true := code_word (m := ⟨12, 1⟩) (meth := k12m1) (c := k12c1) (by decide +kernel) rfl rfl rfl (by decide +kernel)
set_option maxRecDepth 65536 in
theorem w_c7 : (Jvm.Cond.code ({ cls := "java/lang/StringLatin1", name := "canEncode", desc := "(C)Z" } : Jvm.MethodName) jdk_43_method_3_code (1 : Nat) (Option.some Jvm.ClassFile.FieldType.boolean)).before args0 about1 = true := code_word (m := ⟨13, 1⟩) (meth := k13m1) (c := k13c1) (by decide +kernel) rfl rfl rfl (by decide +kernel)
set_option maxRecDepth 65536 in
theorem w_c8 : (Jvm.Cond.code ({ cls := "java/lang/StringLatin1", name := "toBytes", desc := "(C)[B" } : Jvm.MethodName) jdk_43_method_46_code (1 : Nat) (Option.some (Jvm.ClassFile.FieldType.array Jvm.ClassFile.FieldType.byte))).before args0 about1 = true := code_word (m := ⟨13, 2⟩) (meth := k13m2) (c := k13c2) (by decide +kernel) rfl rfl rfl (by decide +kernel)
set_option maxRecDepth 65536 in
theorem w_c9 : (Jvm.Cond.code ({ cls := "java/lang/String", name := "<init>", desc := "([BB)V" } : Jvm.MethodName) jdk_42_method_151_code (3 : Nat) (Option.none : Option Jvm.ClassFile.FieldType)).before args0 about1 = true := code_word (m := ⟨12, 2⟩) (meth := k12m2) (c := k12c2) (by decide +kernel) rfl rfl rfl (by decide +kernel)
set_option maxRecDepth 65536 in
theorem w_c10 : (Jvm.Cond.code ({ cls := "com/example/plaingrant/plaingrant/server/http/ApiException", name := "<init>", desc := "(ILjava/lang/String;)V" } : Jvm.MethodName) prog_30_method_1_code (3 : Nat) (Option.none : Option Jvm.ClassFile.FieldType)).before args0 about1 = true := code_word (m := ⟨7, 0⟩) (meth := k7m0) (c := k7c0) (by decide +kernel) rfl rfl rfl (by decide +kernel)
set_option maxRecDepth 65536 in
theorem w_c11 : (Jvm.Cond.code ({ cls := "java/lang/Exception", name := "<init>", desc := "(Ljava/lang/String;)V" } : Jvm.MethodName) jdk_59_method_2_code (2 : Nat) (Option.none : Option Jvm.ClassFile.FieldType)).before args0 about1 = true := code_word (m := ⟨6, 1⟩) (meth := k6m1) (c := k6c1) (by decide +kernel) rfl rfl rfl (by decide +kernel)
set_option maxRecDepth 65536 in
theorem w_c12 : (Jvm.Cond.code ({ cls := "java/lang/Throwable", name := "<init>", desc := "(Ljava/lang/String;)V" } : Jvm.MethodName) jdk_78_method_2_code (2 : Nat) (Option.none : Option Jvm.ClassFile.FieldType)).before args0 about1 = true := code_word (m := ⟨5, 1⟩) (meth := k5m1) (c := k5c1) (by decide +kernel) rfl rfl rfl (by decide +kernel)
set_option maxRecDepth 65536 in
theorem w_c13 : (Jvm.Cond.code ({ cls := "java/lang/Throwable", name := "<init>", desc := "()V" } : Jvm.MethodName) jdk_78_method_1_code (1 : Nat) (Option.none : Option Jvm.ClassFile.FieldType)).before args0 about1 = true := code_word (m := ⟨5, 0⟩) (meth := k5m0) (c := k5c0) (by decide +kernel) rfl rfl rfl (by decide +kernel)
def codes1 : List Jvm.Cond := [Jvm.Cond.code x code maxLocals ret, Jvm.Cond.code ({ cls := "com/example/plaingrant/plaingrant/server/http/Request$Body", name := "<init>", desc := "([BLcom/example/plaingrant/plaingrant/server/http/ApiException;)V" } : Jvm.MethodName) prog_36_method_1_code (3 : Nat) (Option.none : Option Jvm.ClassFile.FieldType), Jvm.Cond.code ({ cls := "java/lang/Record", name := "<init>", desc := "()V" } : Jvm.MethodName) jdk_30_method_1_code (1 : Nat) (Option.none : Option Jvm.ClassFile.FieldType), Jvm.Cond.code ({ cls := "java/lang/Object", name := "<init>", desc := "()V" } : Jvm.MethodName) object_method_1_code (1 : Nat) (Option.none : Option Jvm.ClassFile.FieldType), Jvm.Cond.code ({ cls := "com/example/plaingrant/plaingrant/server/http/Request$Body", name := "whole", desc := "()Z" } : Jvm.MethodName) prog_36_method_4_code (1 : Nat) (Option.some Jvm.ClassFile.FieldType.boolean), Jvm.Cond.code ({ cls := "com/example/plaingrant/plaingrant/server/http/Request$Body", name := "take", desc := "()[B" } : Jvm.MethodName) prog_36_method_5_code (1 : Nat) (Option.some (Jvm.ClassFile.FieldType.array Jvm.ClassFile.FieldType.byte)), Jvm.Cond.code ({ cls := "java/lang/String", name := "valueOf", desc := "(C)Ljava/lang/String;" } : Jvm.MethodName) jdk_42_method_139_code (1 : Nat) (Option.some (Jvm.ClassFile.FieldType.object "java/lang/String")), Jvm.Cond.code ({ cls := "java/lang/StringLatin1", name := "canEncode", desc := "(C)Z" } : Jvm.MethodName) jdk_43_method_3_code (1 : Nat) (Option.some Jvm.ClassFile.FieldType.boolean), Jvm.Cond.code ({ cls := "java/lang/StringLatin1", name := "toBytes", desc := "(C)[B" } : Jvm.MethodName) jdk_43_method_46_code (1 : Nat) (Option.some (Jvm.ClassFile.FieldType.array Jvm.ClassFile.FieldType.byte)), Jvm.Cond.code ({ cls := "java/lang/String", name := "<init>", desc := "([BB)V" } : Jvm.MethodName) jdk_42_method_151_code (3 : Nat) (Option.none : Option Jvm.ClassFile.FieldType), Jvm.Cond.code ({ cls := "com/example/plaingrant/plaingrant/server/http/ApiException", name := "<init>", desc := "(ILjava/lang/String;)V" } : Jvm.MethodName) prog_30_method_1_code (3 : Nat) (Option.none : Option Jvm.ClassFile.FieldType), Jvm.Cond.code ({ cls := "java/lang/Exception", name := "<init>", desc := "(Ljava/lang/String;)V" } : Jvm.MethodName) jdk_59_method_2_code (2 : Nat) (Option.none : Option Jvm.ClassFile.FieldType), Jvm.Cond.code ({ cls := "java/lang/Throwable", name := "<init>", desc := "(Ljava/lang/String;)V" } : Jvm.MethodName) jdk_78_method_2_code (2 : Nat) (Option.none : Option Jvm.ClassFile.FieldType), Jvm.Cond.code ({ cls := "java/lang/Throwable", name := "<init>", desc := "()V" } : Jvm.MethodName) jdk_78_method_1_code (1 : Nat) (Option.none : Option Jvm.ClassFile.FieldType)]
set_option maxRecDepth 65536 in
theorem codes_eq : words1.filter isCode = codes1 := rfl
theorem w_codes : ∀ c ∈ words1.filter isCode, c.before args0 about1 = true := by
  rw [codes_eq]
  intro c hc
  simp only [codes1, List.mem_cons, List.not_mem_nil, or_false] at hc
  rcases hc with rfl | rfl | rfl | rfl | rfl | rfl | rfl | rfl | rfl | rfl | rfl | rfl | rfl | rfl
  · exact w_c0
  · exact w_c1
  · exact w_c2
  · exact w_c3
  · exact w_c4
  · exact w_c5
  · exact w_c6
  · exact w_c7
  · exact w_c8
  · exact w_c9
  · exact w_c10
  · exact w_c11
  · exact w_c12
  · exact w_c13
set_option maxRecDepth 65536 in
theorem w_t1 : (words1.take 24).all (fun c => isCode c || c.before args0 about1) = true := by decide +kernel
set_option maxRecDepth 65536 in
theorem w_t2 : ((words1.drop 24).take 24).all (fun c => isCode c || c.before args0 about1) = true := by decide +kernel
set_option maxRecDepth 65536 in
theorem w_t3 : (((words1.drop 24).drop 24).take 24).all (fun c => isCode c || c.before args0 about1) = true := by decide +kernel
set_option maxRecDepth 65536 in
theorem w_t4 : ((((words1.drop 24).drop 24).drop 24).take 24).all (fun c => isCode c || c.before args0 about1) = true := by decide +kernel
set_option maxRecDepth 65536 in
theorem w_t5 : ((((words1.drop 24).drop 24).drop 24).drop 24).all (fun c => isCode c || c.before args0 about1) = true := by decide +kernel
theorem w_tables : (allAtoms (Jvm.Cond.code x code maxLocals ret :: tables_1)).before args0 about1 = true := by
  rw [allAtoms_all]
  show words1.all (fun c => c.before args0 about1) = true
  refine all_split ?_ w_codes
  rw [← List.take_append_drop 24 words1, List.all_append, w_t1, ← List.take_append_drop 24 (words1.drop 24), List.all_append, w_t2, ← List.take_append_drop 24 ((words1.drop 24).drop 24), List.all_append, w_t3, ← List.take_append_drop 24 (((words1.drop 24).drop 24).drop 24), List.all_append, w_t4, w_t5]
  rfl
set_option maxRecDepth 65536 in
theorem w_rest : rest_1_c.before args0 about1 = true := by decide +kernel
set_option maxRecDepth 65536 in
theorem w_case : (Jvm.Cond.and given_1 narrow_1).before args0 about1 = true := by decide +kernel
theorem w_applies : (headSpec (Jvm.Cond.code x code maxLocals ret :: tables_1) room_1).applies x e0.platform about1 = true :=
  (Spec.applies_iff w_frames).mpr ⟨w_running, w_runnable, w_alone, w_named, w_hears, w_ripe, w_room, w_tables⟩
theorem atStart : AtStart classFile x code maxLocals ret World_1 tables_1 room_1 Calls_1 rest_1 Pre_1 launch0 p0 e0 about1 theMethod args0 below0 :=
  ⟨lists_1, trivial, launch0.admits_env _ _ _, launch0.least_env, fairChoices_fair.cas, fairChoices_fair.clock, w_frames, w_args, w_heap, w_applies, ⟨(by decide +kernel : framesKnown about1 = true), ⟨(by decide +kernel : tablesKnown about1 = true), trivial⟩⟩, w_rest, w_case⟩
end start1
theorem witness_1 : WitnessClaimed_1 := ⟨start1.p0, start1.e0, start1.about1, start1.theMethod, start1.args0, start1.below0, start1.atStart⟩
end Jvm.Pilot.@@N@@
