import JvmDerived
import JvmDerived.Pilot.@@N@@Statement
import JvmDerived.Pilot.@@N@@Code
set_option linter.unusedVariables false
set_option linter.unusedSimpArgs false
namespace Jvm.OwnKit
open Sem ClassFile Op Lib Jvm.Stand Jvm.Free Jvm.LawKit Jvm.RoadKit
/-- from the frame g over T the run ends, and what it leaves is Q's -/
def Go (p : Program) (e : Env) (below : List Frame) (s : State) (Q : Option Value → Heap → List Loc → Prop) (C S : Nat) (T : State) (g : JFrame) : Prop :=
  ∃ s₂ o, Steps p.tables e below (T.setTop g) s₂ ∧ s₂.status = .running ∧ Ended s₂ below o ∧ ∃ v L, o = .returned v ∧ Q v s₂.heap L ∧ FrameEnd s o s₂ L C S
section OwnGo
variable {p : Program} {l : Launch} {e : Env} {R : Room} {s : State} {m : MethodId} {args : Array Value} {below : List Frame} {meth : Method} {c : Code} {T T' : State} {locs : List Loc} {cells slots : Nat} {Q : Option Value → Heap → List Loc → Prop} {C S : Nat} {g g' : JFrame}
theorem Go.st (h : ∀ t, Steps p.tables e below (T'.setTop g') t → Steps p.tables e below (T.setTop g) t) (k : Go p e below s Q C S T' g') : Go p e below s Q C S T g := by
  obtain ⟨s₂, o, h1, h2⟩ := k
  exact ⟨s₂, o, h _ h1, h2⟩
theorem Go.eq (q : g = g') (k : Go p e below s Q C S T g') : Go p e below s Q C S T g := q ▸ k
theorem Go.retV (X : Stand p l e R s m args below meth c T locs cells slots) (hx : p.tables.exec = Jvm.exec) (hlk : meth.locks = false) {pc : Nat} {Ls : Array Slot} {w : Value} {t : FieldType} {i : Instr} {rest : List Value} (hret : meth.sig.returnType = some t) (hn : narrow t w = w)
    (hi : (i = .ireturn ∧ (t = .int ∨ t = .boolean ∨ t = .byte ∨ t = .char ∨ t = .short) ∧ ∃ z, w = .int z) ∨ (i = .lreturn ∧ t = .long ∧ ∃ z, w = .long z) ∨ (i = .dreturn ∧ t = .double ∧ ∃ z, w = .double z) ∨ (i = .freturn ∧ t = .float ∧ ∃ z, w = .float z) ∨ (i = .areturn ∧ t.isReference = true ∧ w.isRef = true))
    (hd : decode c.code pc = .ok (i, 1)) (hQ : Q (some w) T.heap locs) (hc : cells ≤ C) (hs : slots ≤ S) : Go p e below s Q C S T (mkF m pc Ls (w :: rest)) := by
  obtain ⟨fs, hr, hrun, hended, hW, hsame⟩ := X.leave (v := some w) (fun h => by rw [hret] at h; cases h) hlk
  exact ⟨_, _, retOut X hx hret hn hi hd hr, hrun, hended, _, _, rfl, hQ, ⟨_, rfl⟩, hW, hsame.mono hc hs⟩
theorem Go.retI (X : Stand p l e R s m args below meth c T locs cells slots) (hx : p.tables.exec = Jvm.exec) (hlk : meth.locks = false) {pc : Nat} {Ls : Array Slot} {z : Int32} {rest : List Value} (hret : meth.sig.returnType = some .int) (hd : decode c.code pc = .ok (.ireturn, 1)) (hQ : Q (some (.int z)) T.heap locs) (hc : cells ≤ C) (hs : slots ≤ S) : Go p e below s Q C S T (mkF m pc Ls (.int z :: rest)) :=
  Go.retV X hx hlk hret rfl (Or.inl ⟨rfl, Or.inl rfl, _, rfl⟩) hd hQ hc hs
theorem Go.retZ (X : Stand p l e R s m args below meth c T locs cells slots) (hx : p.tables.exec = Jvm.exec) (hlk : meth.locks = false) {pc : Nat} {Ls : Array Slot} {z : Int32} {rest : List Value} (hret : meth.sig.returnType = some .boolean) (hd : decode c.code pc = .ok (.ireturn, 1)) (hn : narrow .boolean (.int z) = .int z) (hQ : Q (some (.int z)) T.heap locs) (hc : cells ≤ C) (hs : slots ≤ S) : Go p e below s Q C S T (mkF m pc Ls (.int z :: rest)) :=
  Go.retV X hx hlk hret hn (Or.inl ⟨rfl, Or.inr (Or.inl rfl), _, rfl⟩) hd hQ hc hs
theorem Go.retB (X : Stand p l e R s m args below meth c T locs cells slots) (hx : p.tables.exec = Jvm.exec) (hlk : meth.locks = false) {pc : Nat} {Ls : Array Slot} {z : Int32} {rest : List Value} (hret : meth.sig.returnType = some .byte) (hd : decode c.code pc = .ok (.ireturn, 1)) (hn : narrow .byte (.int z) = .int z) (hQ : Q (some (.int z)) T.heap locs) (hc : cells ≤ C) (hs : slots ≤ S) : Go p e below s Q C S T (mkF m pc Ls (.int z :: rest)) :=
  Go.retV X hx hlk hret hn (Or.inl ⟨rfl, Or.inr (Or.inr (Or.inl rfl)), _, rfl⟩) hd hQ hc hs
theorem Go.retC (X : Stand p l e R s m args below meth c T locs cells slots) (hx : p.tables.exec = Jvm.exec) (hlk : meth.locks = false) {pc : Nat} {Ls : Array Slot} {z : Int32} {rest : List Value} (hret : meth.sig.returnType = some .char) (hd : decode c.code pc = .ok (.ireturn, 1)) (hn : narrow .char (.int z) = .int z) (hQ : Q (some (.int z)) T.heap locs) (hc : cells ≤ C) (hs : slots ≤ S) : Go p e below s Q C S T (mkF m pc Ls (.int z :: rest)) :=
  Go.retV X hx hlk hret hn (Or.inl ⟨rfl, Or.inr (Or.inr (Or.inr (Or.inl rfl))), _, rfl⟩) hd hQ hc hs
theorem Go.retJ (X : Stand p l e R s m args below meth c T locs cells slots) (hx : p.tables.exec = Jvm.exec) (hlk : meth.locks = false) {pc : Nat} {Ls : Array Slot} {z : Int64} {rest : List Value} (hret : meth.sig.returnType = some .long) (hd : decode c.code pc = .ok (.lreturn, 1)) (hQ : Q (some (.long z)) T.heap locs) (hc : cells ≤ C) (hs : slots ≤ S) : Go p e below s Q C S T (mkF m pc Ls (.long z :: rest)) :=
  Go.retV X hx hlk hret rfl (Or.inr (Or.inl ⟨rfl, rfl, _, rfl⟩)) hd hQ hc hs
theorem own_nar_ref {t : FieldType} {w : Value} (hw : w.isRef = true) : narrow t w = w := by
  rcases ref_cases hw with rfl | ⟨_, rfl⟩ <;> cases t <;> rfl
theorem Go.retA (X : Stand p l e R s m args below meth c T locs cells slots) (hx : p.tables.exec = Jvm.exec) (hlk : meth.locks = false) {pc : Nat} {Ls : Array Slot} {w : Value} {t : FieldType} {rest : List Value} (hret : meth.sig.returnType = some t) (ht : t.isReference = true) (hw : w.isRef = true) (hd : decode c.code pc = .ok (.areturn, 1)) (hQ : Q (some w) T.heap locs) (hc : cells ≤ C) (hs : slots ≤ S) : Go p e below s Q C S T (mkF m pc Ls (w :: rest)) :=
  Go.retV X hx hlk hret (own_nar_ref hw) (Or.inr (Or.inr (Or.inr (Or.inr ⟨rfl, ht, hw⟩)))) hd hQ hc hs
theorem Go.ret0 (X : Stand p l e R s m args below meth c T locs cells slots) (hx : p.tables.exec = Jvm.exec) (hlk : meth.locks = false) {pc : Nat} {Ls : Array Slot} (hret : meth.sig.returnType = none) (hd : decode c.code pc = .ok (.return_, 1)) (hQ : Q none T.heap locs) (hc : cells ≤ C) (hs : slots ≤ S) : Go p e below s Q C S T (mkF m pc Ls []) := by
  obtain ⟨fs, hr, hrun, hended, hW, hsame⟩ := X.leave (v := none) (fun _ => rfl) hlk
  exact ⟨_, _, X.returnOut hx hret hd hr, hrun, hended, _, _, rfl, hQ, ⟨_, rfl⟩, hW, hsame.mono hc hs⟩
end OwnGo
/-- a proposition as Java's boolean -/
def b2i (P : Prop) [Decidable P] : Int32 := if P then 1 else 0
theorem b2i_pos {P : Prop} [Decidable P] (h : P) : b2i P = 1 := if_pos h
theorem b2i_neg {P : Prop} [Decidable P] (h : ¬ P) : b2i P = 0 := if_neg h
theorem b2i_ne {P : Prop} [Decidable P] (h : P) : ¬ b2i P = 0 := by rw [b2i_pos h]; decide
theorem b2i_zero {P : Prop} [Decidable P] (h : ¬ P) : b2i P = 0 := b2i_neg h
theorem own_b2i_t {P : Prop} [Decidable P] (h : P) : some (Value.int 1) = some (Value.int (b2i P)) := by rw [b2i_pos h]
theorem own_b2i_f {P : Prop} [Decidable P] (h : ¬ P) : some (Value.int 0) = some (Value.int (b2i P)) := by rw [b2i_neg h]
theorem own_nb (y : Int32) : nar .byte (y.toInt8.toInt32) = y.toInt8.toInt32 := by
  show y.toInt8.toInt32.toInt8.toInt32 = y.toInt8.toInt32
  simp
theorem own_nc (y : Int32) : nar .char (y.toUInt32.toUInt16.toUInt32.toInt32) = y.toUInt32.toUInt16.toUInt32.toInt32 := by
  show (y.toUInt32.toUInt16.toUInt32.toInt32).toUInt32.toUInt16.toUInt32.toInt32 = y.toUInt32.toUInt16.toUInt32.toInt32
  rw [UInt32.toUInt32_toInt32, UInt16.toUInt16_toUInt32]
theorem own_nbv (y : Int32) : narrow .byte (.int (y.toInt8.toInt32)) = .int (y.toInt8.toInt32) := congrArg Value.int (own_nb y)
theorem own_and1 (a : Int32) : a &&& (1 : Int32) = (0 : Int32) ∨ a &&& (1 : Int32) = (1 : Int32) := and_one a
theorem own_and3 (a : Int32) : a &&& (3 : Int32) = (0 : Int32) ∨ a &&& (3 : Int32) = (1 : Int32) ∨ a &&& (3 : Int32) = (2 : Int32) ∨ a &&& (3 : Int32) = (3 : Int32) := by
  have e := c_mask a 3 2 (by decide) (by decide)
  have h : (a &&& (3 : Int32)).toInt = 0 ∨ (a &&& (3 : Int32)).toInt = 1 ∨ (a &&& (3 : Int32)).toInt = 2 ∨ (a &&& (3 : Int32)).toInt = 3 := by omega
  rcases h with h | h | h | h
  · exact Or.inl (Int32.toInt_inj.mp (h.trans (by decide)))
  · exact Or.inr (Or.inl (Int32.toInt_inj.mp (h.trans (by decide))))
  · exact Or.inr (Or.inr (Or.inl (Int32.toInt_inj.mp (h.trans (by decide)))))
  · exact Or.inr (Or.inr (Or.inr (Int32.toInt_inj.mp (h.trans (by decide)))))
theorem own_ord {s : State} {args : Array Value} {t : Term} {a : Addr} {C n d : String} {k : Int32} (ev : t.eval args s none [] s = some (.ref a)) (h : (Jvm.Cond.eq (Term.field t C n d) (Term.int k)).value args s none s [] = some true) : Fld s s.heap a C n d (.int k) := by
  obtain ⟨u, w, hu, hw, k1, k2⟩ := cmp_v (Or.inl h)
  have hw' : (Term.int k).eval args s none [] s = some (.int k) := Term.int_eval k
  cases hw.symm.trans hw'
  obtain ⟨z, rfl⟩ : ∃ z, u = .int z := k2
  have hz : z = k := gotT (Cond.eq_ints hu hw') h
  subst hz
  exact Fld.start ((fld_at ev).symm.trans hu)
section OwnBounds
variable {c a b : Int32} {n : Int}
theorem own_i1 (h : c < a) (q : a.toInt ≤ b.toInt) : c < b := by rw [Int32.lt_iff_toInt_lt] at *; omega
theorem own_i2 (h : ¬ a < c) (q : a.toInt < b.toInt) : c < b := by rw [Int32.lt_iff_toInt_lt] at *; omega
theorem own_i3 (h : ¬ c < a) (q : b.toInt ≤ a.toInt) : ¬ c < b := by rw [Int32.lt_iff_toInt_lt] at *; omega
theorem own_i4 (h : a < c) (q : b.toInt ≤ a.toInt + 1) : ¬ c < b := by rw [Int32.lt_iff_toInt_lt] at *; omega
theorem own_j1 (h : c < a) (q : a.toInt ≤ b.toInt + 1) : ¬ b < c := by rw [Int32.lt_iff_toInt_lt] at *; omega
theorem own_j2 (h : ¬ a < c) (q : a.toInt ≤ b.toInt) : ¬ b < c := by rw [Int32.lt_iff_toInt_lt] at *; omega
theorem own_j3 (h : ¬ c < a) (q : b.toInt < a.toInt) : b < c := by rw [Int32.lt_iff_toInt_lt] at *; omega
theorem own_j4 (h : a < c) (q : b.toInt ≤ a.toInt) : b < c := by rw [Int32.lt_iff_toInt_lt] at *; omega
theorem own_k1 (h : c < a) (q : a.toInt ≤ b.toInt) : ¬ c = b := fun e => by rw [e, Int32.lt_iff_toInt_lt] at h; omega
theorem own_k2 (h : ¬ a < c) (q : a.toInt < b.toInt) : ¬ c = b := fun e => by rw [e, Int32.lt_iff_toInt_lt] at h; omega
theorem own_k3 (h : ¬ c < a) (q : b.toInt < a.toInt) : ¬ c = b := fun e => by rw [e, Int32.lt_iff_toInt_lt] at h; omega
theorem own_k4 (h : a < c) (q : b.toInt ≤ a.toInt) : ¬ c = b := fun e => by rw [e, Int32.lt_iff_toInt_lt] at h; omega
theorem own_c1 (h : c < a) (q : a.toInt = n) : c.toInt < n := by rw [Int32.lt_iff_toInt_lt] at h; omega
theorem own_c2 (h : ¬ a < c) (q : a.toInt = n) : c.toInt ≤ n := by rw [Int32.lt_iff_toInt_lt] at h; omega
theorem own_c3 (h : ¬ c < a) (q : a.toInt = n) : n ≤ c.toInt := by rw [Int32.lt_iff_toInt_lt] at h; omega
theorem own_c4 (h : a < c) (q : a.toInt = n) : n < c.toInt := by rw [Int32.lt_iff_toInt_lt] at h; omega
theorem own_c5 (h : c = a) (q : a.toInt = n) : c.toInt = n := by rw [h]; exact q
theorem own_c6 (h : ¬ c = a) (q : a.toInt = n) : ¬ c.toInt = n := fun e => h (Int32.toInt_inj.mp (e.trans q.symm))
end OwnBounds
theorem own_addc {a b c d : Int32} (h : b + c = d) : (a + b) + c = a + d := by rw [Int32.add_assoc, h]
theorem own_byte_of {v : Value} (h : fits .byte v = true) : ∃ w, v = .int w ∧ narrow .byte (.int w) = .int w := by
  cases v with
  | int w =>
    refine ⟨w, rfl, ?_⟩
    obtain ⟨h1, h2⟩ := rng_byte h
    have e := c_i2b w
    have e1 : (-128 : Int32).toInt = -128 := by decide
    have e2 : (127 : Int32).toInt = 127 := by decide
    rw [Int32.lt_iff_toInt_lt, e1] at h1
    rw [Int32.lt_iff_toInt_lt, e2] at h2
    have e3 : w.toInt8.toInt32 = w := Int32.toInt_inj.mp (by omega)
    exact congrArg Value.int e3
  | _ => simp [fits] at h
theorem own_arv_nostat {Z : State} {h : Heap} {a : Addr} {k : ClassId} {ty : FieldType} {z : Int32} {vs : List Value} {dv : Value} (F : Arv Z h a k ty z vs dv) : ∀ cell : Cell, h[a]? = some cell → cell.vm.isStatics = false := by
  obtain ⟨c, A, -⟩ := F
  intro cell hc
  cases A.1.symm.trans hc
  exact A.plain
theorem own_selP {s : State} {args args' : Array Value} {y y' : MethodName} (hsel : (Jvm.Cond.selects y'.cls y' y').before args s = true) (he : y.cls = y'.cls) (hp : s.PrivateAt y) (hi : (Jvm.Cond.instanceMethod y).before args s = true) (hy : y.cls ≠ "java/lang/invoke/MethodHandle" ∧ y.cls ≠ "java/lang/invoke/VarHandle") : (Jvm.Cond.selects y.cls y y).before args s = true := by
  obtain ⟨c2, r2, m2, -, -, q3, -, kP, hkP, hkPi⟩ := Cond.selects_spec hsel
  exact Jvm.Stand.selects_self_of_private (by rw [he]; exact findClass_of_methodNamed q3) hkP hkPi hp hi hy
theorem own_irr {a : Int32} : ¬ (a < a) := Int32.lt_irrefl
theorem own_irrL {a : Int64} : ¬ (a < a) := Int64.lt_irrefl
theorem own_sta_keep {Z : State} {h h' : Heap} {C n d : String} {v : Value} {ws : List Addr} (F : Sta Z h C n d v) (K : Keep h h' ws) (q : ∀ x ∈ ws, ∀ cell : Cell, h[x]? = some cell → cell.vm.isStatics = false) : Sta Z h' C n d v := by
  obtain ⟨cf, i, k, f, st, cell, h1, h2, h3, h4, h5, h6, h7⟩ := F
  refine ⟨cf, i, k, f, st, cell, h1, h2, h3, h4, K.2.1 _ _ h5 (fun hm => ?_), h6, h7⟩
  have := q _ hm _ h5
  rw [h6] at this
  cases this
end Jvm.OwnKit
namespace Jvm.Pilot.@@N@@
open Jvm Jvm.ClassFile Sem Op Lib Jvm.Free Jvm.Stand Jvm.LawKit Jvm.RoadKit Jvm.OwnKit Bundle Jvm.Pilot.@@N@@.Jvm.D
theorem d2_0 : decode jdk_30_method_1_code 0 = .ok (.aload_n 0, 1) := by decide +kernel
theorem d2_1 : decode jdk_30_method_1_code 1 = .ok (.invokespecial 1, 3) := by decide +kernel
theorem d2_4 : decode jdk_30_method_1_code 4 = .ok (.return_, 1) := by decide +kernel
theorem pn_0 : plainName "java/lang/Record" = true := by first | (simp [plainName, overriddenIn]; done) | decide +kernel
theorem ef_rm2 (m : MethodId) (a : Addr) : entryFrame m #[(.ref a)] 1 = mkF m 0 #[.val (.ref a)] [] := by first | (simp [entryFrame, mkF, argsToLocals, Value.category]; done) | rfl
def Qrm2 (Z : State) (a : Addr) (h0 : Heap) (n0 : Nat) (rV : Option Value) (hE : Heap) (LE : List Loc) : Prop := rV = none ∧ Fr n0 LE ∧ hE = h0
set_option maxRecDepth 65536 in
set_option maxHeartbeats 40000000 in
theorem rm2 (l : Launch) (Z : State) (a0 : Array Value) (hw : ∀ d ∈ tables_1, d.before a0 Z = true) (ws : List Jvm.Cond) (a : Addr) (h0 : Heap) (n0 : Nat) (Z0 : n0 ≤ h0.size) :
    MetFree l (⟨"java/lang/Record", "<init>", "()V"⟩ : MethodName) (head1 (Jvm.Cond.code (⟨"java/lang/Record", "<init>", "()V"⟩ : MethodName) jdk_30_method_1_code 1 none :: ws) ({ frames := 1, cells := 0, slots := 0, locals := 12 } : Room)) (fun aA UA => aA = #[(.ref a)] ∧ Z.Warmed39 UA.vm ∧ UA.heap = h0) (fun _ _ _ _ _ => True) (fun _ UA oA UB => ∃ rV LE, oA = .returned rV ∧ Qrm2 Z a h0 n0 rV UB.heap LE ∧ FrameEnd UA oA UB LE ({ frames := 1, cells := 0, slots := 0, locals := 12 } : Room).cells ({ frames := 1, cells := 0, slots := 0, locals := 12 } : Room).slots) := by
  refine MetFree.of_bodySF (plainFor_of_name pn_0) hisR ?_
  intro p e s m args below meth c s₁ Bd hml0 hP hK
  obtain ⟨rfl, hZ, hh⟩ := hP
  have hx := Bd.exec
  have hby := Bd.bytes
  have hml : c.maxLocals = 1 := hml0
  have hown : s.vm.findClass "java/lang/Record" = some m.cls := findClass_of_methodNamed Bd.named
  have hnm := (name_of_methodNamed Bd.named Bd.method).1
  have hlk := Bd.notSynchronized
  have X0 : Stand p l e ({ frames := 1, cells := 0, slots := 0, locals := 12 } : Room) s m #[(.ref a)] below meth c s₁ [] 0 0 := Stand.of_body Bd
  have e0 : s₁.heap = h0 := by rw [← hh, Bd.state]; rfl
  have N0 := Fr.nil n0
  show Go p e below s (Qrm2 Z a h0 n0) ({ frames := 1, cells := 0, slots := 0, locals := 12 } : Room).cells ({ frames := 1, cells := 0, slots := 0, locals := 12 } : Room).slots s₁ (entryFrame m #[(.ref a)] 1)
  refine Go.eq (ef_rm2 m a) ?_
  show Go p e below s _ _ _ s₁ (mkF m 0 #[.val (.ref a)] [])
  refine Go.st (fun _ => XS.aloadN X0.here hx rfl (hb hby d2_0) rfl rfl) ?_
  show Go p e below s _ _ _ s₁ (mkF m 1 #[.val (.ref a)] [(.ref a)])
  obtain ⟨T1, X1, e1, st1⟩ := initO X0 hx hZ hown (hw _ (List.mem_of_getElem? (i := 12) rfl)) (hw _ (List.mem_of_getElem? (i := 13) rfl)) (hw _ (List.mem_of_getElem? (i := 14) rfl)) e0 (g := (mkF m 1 #[.val (.ref a)] [(.ref a)])) rfl (by rw [hml]; rfl) rfl (hb hby d2_1) (by decide) (W := 0) (by show 2 * 0 + _ ≤ _; exact Nat.le_of_eq rfl) (by decide)
  refine Go.st st1 ?_
  show Go p e below s _ _ _ T1 (mkF m 4 #[.val (.ref a)] [])
  exact Go.ret0 X1 hx hlk Bd.returns (hb hby d2_4) (by rw [e1]; exact ⟨rfl, N0, rfl⟩) (by decide) (by decide)
theorem d1_0 : decode prog_36_method_1_code 0 = .ok (.aload_n 0, 1) := by decide +kernel
theorem d1_1 : decode prog_36_method_1_code 1 = .ok (.invokespecial 1, 3) := by decide +kernel
theorem pd_0 : parseMethodDescriptor "()V" = some ⟨[], none⟩ := by decide +kernel
theorem d1_4 : decode prog_36_method_1_code 4 = .ok (.aload_n 0, 1) := by decide +kernel
theorem d1_5 : decode prog_36_method_1_code 5 = .ok (.aload_n 1, 1) := by decide +kernel
theorem d1_6 : decode prog_36_method_1_code 6 = .ok (.putfield 7, 3) := by decide +kernel
theorem d1_9 : decode prog_36_method_1_code 9 = .ok (.aload_n 0, 1) := by decide +kernel
theorem d1_10 : decode prog_36_method_1_code 10 = .ok (.aload_n 2, 1) := by decide +kernel
theorem d1_11 : decode prog_36_method_1_code 11 = .ok (.putfield 13, 3) := by decide +kernel
theorem d1_14 : decode prog_36_method_1_code 14 = .ok (.return_, 1) := by decide +kernel
theorem pn_1 : plainName "com/example/plaingrant/plaingrant/server/http/Request$Body" = true := by first | (simp [plainName, overriddenIn]; done) | decide +kernel
theorem ef_rmIn (m : MethodId) (a : Addr) : entryFrame m #[(.ref a), .null, .null] 3 = mkF m 0 #[.val (.ref a), .val .null, .val .null] [] := by first | (simp [entryFrame, mkF, argsToLocals, Value.category]; done) | rfl
def QrmIn (Z : State) (a : Addr) (h0 : Heap) (n0 : Nat) (rV : Option Value) (hE : Heap) (LE : List Loc) : Prop := rV = none ∧ Fr n0 LE ∧ Keep h0 hE [a] ∧ Exa Z hE a "com/example/plaingrant/plaingrant/server/http/Request$Body" ∧ Fld Z hE a "com/example/plaingrant/plaingrant/server/http/Request$Body" "bytes" "[B" .null ∧ Fld Z hE a "com/example/plaingrant/plaingrant/server/http/Request$Body" "refusal" "Lcom/example/plaingrant/plaingrant/server/http/ApiException;" .null
set_option maxRecDepth 65536 in
set_option maxHeartbeats 40000000 in
theorem rmIn (l : Launch) (Z : State) (a0 : Array Value) (hw : ∀ d ∈ tables_1, d.before a0 Z = true) (ws : List Jvm.Cond) (a : Addr) (h0 : Heap) (n0 : Nat) (Z0 : n0 ≤ h0.size) (E_a : Exa Z h0 a "com/example/plaingrant/plaingrant/server/http/Request$Body") (F_bytes_a : Fld Z h0 a "com/example/plaingrant/plaingrant/server/http/Request$Body" "bytes" "[B" .null) (F_refusal_a : Fld Z h0 a "com/example/plaingrant/plaingrant/server/http/Request$Body" "refusal" "Lcom/example/plaingrant/plaingrant/server/http/ApiException;" .null) (g_a : n0 ≤ a) :
    MetFree l (⟨"com/example/plaingrant/plaingrant/server/http/Request$Body", "<init>", "([BLcom/example/plaingrant/plaingrant/server/http/ApiException;)V"⟩ : MethodName) (head1 (Jvm.Cond.code (⟨"com/example/plaingrant/plaingrant/server/http/Request$Body", "<init>", "([BLcom/example/plaingrant/plaingrant/server/http/ApiException;)V"⟩ : MethodName) prog_36_method_1_code 3 none :: ws) ({ frames := 2, cells := 0, slots := 0, locals := 24 } : Room)) (fun aA UA => aA = #[(.ref a), .null, .null] ∧ Z.Warmed39 UA.vm ∧ UA.heap = h0) (fun _ _ _ _ _ => True) (fun _ UA oA UB => ∃ rV LE, oA = .returned rV ∧ QrmIn Z a h0 n0 rV UB.heap LE ∧ FrameEnd UA oA UB LE ({ frames := 2, cells := 0, slots := 0, locals := 24 } : Room).cells ({ frames := 2, cells := 0, slots := 0, locals := 24 } : Room).slots) := by
  refine MetFree.of_bodySF (plainFor_of_name pn_1) hisR ?_
  intro p e s m args below meth c s₁ Bd hml0 hP hK
  obtain ⟨rfl, hZ, hh⟩ := hP
  have hx := Bd.exec
  have hby := Bd.bytes
  have hml : c.maxLocals = 3 := hml0
  have hown : s.vm.findClass "com/example/plaingrant/plaingrant/server/http/Request$Body" = some m.cls := findClass_of_methodNamed Bd.named
  have hnm := (name_of_methodNamed Bd.named Bd.method).1
  have hlk := Bd.notSynchronized
  have X0 : Stand p l e ({ frames := 2, cells := 0, slots := 0, locals := 24 } : Room) s m #[(.ref a), .null, .null] below meth c s₁ [] 0 0 := Stand.of_body Bd
  have e0 : s₁.heap = h0 := by rw [← hh, Bd.state]; rfl
  have N0 := Fr.nil n0
  show Go p e below s (QrmIn Z a h0 n0) ({ frames := 2, cells := 0, slots := 0, locals := 24 } : Room).cells ({ frames := 2, cells := 0, slots := 0, locals := 24 } : Room).slots s₁ (entryFrame m #[(.ref a), .null, .null] 3)
  refine Go.eq (ef_rmIn m a) ?_
  show Go p e below s _ _ _ s₁ (mkF m 0 #[.val (.ref a), .val .null, .val .null] [])
  refine Go.st (fun _ => XS.aloadN X0.here hx rfl (hb hby d1_0) rfl rfl) ?_
  show Go p e below s _ _ _ s₁ (mkF m 1 #[.val (.ref a), .val .null, .val .null] [(.ref a)])
  obtain ⟨_, _, ⟨T1, L1, kc1, nc1⟩, -, X1, ⟨Lc1, hQ1, l1, y1, z1⟩, st1⟩ := X0.specialBack hx (y := (⟨"java/lang/Record", "<init>", "()V"⟩ : MethodName)) rfl hown (mvT hZ (hw _ (List.mem_of_getElem? (i := 7) rfl))) (mvT hZ (hw _ (List.mem_of_getElem? (i := 8) rfl))) (mvT hZ (hw _ (List.mem_of_getElem? (i := 11) rfl))) (by decide) (backOf (W := 0) (rm2 l Z a0 hw [] a h0 n0 Z0 ) hZ (hw _ (List.mem_of_getElem? (i := 11) rfl)) (hw _ (List.mem_of_getElem? (i := 10) rfl)) (by decide) (by decide)) (g := (mkF m 1 #[.val (.ref a), .val .null, .val .null] [(.ref a)])) rfl (by rw [hml]; rfl) (Steps.refl _) (a := a) (argsL := []) (rest := []) (lenOf pd_0 rfl) rfl (by show 2 * 0 + _ ≤ _; exact Nat.le_of_eq rfl) (hb hby d1_1) (fun _ _ => ⟨rfl, e0, (by decide : 0 + 0 ≤ _), (by decide : 0 + 0 ≤ _)⟩)
  dsimp only [Pt.U, Pt.locs, Pt.cells, Pt.slots] at X1 l1 y1 z1 st1 hQ1
  subst l1 y1 z1
  obtain ⟨h1, e1⟩ : ∃ hh, T1.heap = hh := ⟨_, rfl⟩
  rw [e1] at hQ1
  obtain ⟨rfl, N1q, s1⟩ := hQ1
  have N1 := Fr.app N0 N1q
  refine Go.st (fun _ kk => st1.trans kk) ?_
  rw [s1] at e1
  show Go p e below s _ _ _ T1 (mkF m 4 #[.val (.ref a), .val .null, .val .null] [])
  refine Go.st (fun _ => XS.aloadN X1.here hx rfl (hb hby d1_4) rfl rfl) ?_
  show Go p e below s _ _ _ T1 (mkF m 5 #[.val (.ref a), .val .null, .val .null] [(.ref a)])
  refine Go.st (fun _ => XS.aloadN X1.here hx rfl (hb hby d1_5) rfl rfl) ?_
  show Go p e below s _ _ _ T1 (mkF m 6 #[.val (.ref a), .val .null, .val .null] [.null, (.ref a)])
  obtain ⟨T2, h2, X2, e2, W2, st2⟩ := putF X1 hx hZ hown (host := "") (Or.inl (hw _ (List.mem_of_getElem? (i := 15) rfl))) Via.refl e1 F_bytes_a E_a (Or.inr ⟨(hw _ (List.mem_of_getElem? (i := 16) rfl)), rfl, hnm⟩) (hw _ (List.mem_of_getElem? (i := 2) rfl)) (ty := (.array .byte)) (by decide) rfl rfl (g := (mkF m 6 #[.val (.ref a), .val .null, .val .null] [.null, (.ref a)])) rfl rfl (hb hby d1_6)
  refine Go.st st2 ?_
  have N2 := Fr.snoc X2 N1 g_a
  have K2 : Keep h0 h2 [a] := (Keep.refl h0 [a]).wr W2 (Or.inl (List.mem_of_getElem? (i := 0) rfl))
  have z2 : n0 ≤ h2.size := Nat.le_trans Z0 (Nat.le_of_eq W2.size.symm)
  have Fw2 := F_bytes_a.same W2
  show Go p e below s _ _ _ T2 (mkF m 9 #[.val (.ref a), .val .null, .val .null] [])
  refine Go.st (fun _ => XS.aloadN X2.here hx rfl (hb hby d1_9) rfl rfl) ?_
  show Go p e below s _ _ _ T2 (mkF m 10 #[.val (.ref a), .val .null, .val .null] [(.ref a)])
  refine Go.st (fun _ => XS.aloadN X2.here hx rfl (hb hby d1_10) rfl rfl) ?_
  show Go p e below s _ _ _ T2 (mkF m 11 #[.val (.ref a), .val .null, .val .null] [.null, (.ref a)])
  have f3 := (E_a.wr W2)
  have f4 := (F_refusal_a.other W2 (Or.inr (slot_ne (Or.inr (hw _ (List.mem_of_getElem? (i := 18) rfl))) (Or.inr (hw _ (List.mem_of_getElem? (i := 16) rfl))) (by decide) (t := (.object "com/example/plaingrant/plaingrant/server/http/ApiException")) (t' := (.array .byte)) (by decide) (by decide))))
  obtain ⟨T5, h5, X5, e5, W5, st5⟩ := putF X2 hx hZ hown (host := "") (Or.inl (hw _ (List.mem_of_getElem? (i := 17) rfl))) Via.refl e2 f4 f3 (Or.inr ⟨(hw _ (List.mem_of_getElem? (i := 18) rfl)), rfl, hnm⟩) (hw _ (List.mem_of_getElem? (i := 2) rfl)) (ty := (.object "com/example/plaingrant/plaingrant/server/http/ApiException")) (by decide) rfl rfl (g := (mkF m 11 #[.val (.ref a), .val .null, .val .null] [.null, (.ref a)])) rfl rfl (hb hby d1_11)
  refine Go.st st5 ?_
  have N5 := Fr.snoc X5 N2 g_a
  have K5 : Keep h0 h5 [a] := K2.wr W5 (Or.inl (List.mem_of_getElem? (i := 0) rfl))
  have z5 : n0 ≤ h5.size := Nat.le_trans z2 (Nat.le_of_eq W5.size.symm)
  have Fw5 := f4.same W5
  show Go p e below s _ _ _ T5 (mkF m 14 #[.val (.ref a), .val .null, .val .null] [])
  have f6 := (f3.wr W5)
  have f7 := (Fw2.other W5 (Or.inr (slot_ne (Or.inr (hw _ (List.mem_of_getElem? (i := 16) rfl))) (Or.inr (hw _ (List.mem_of_getElem? (i := 18) rfl))) (by decide) (t := (.array .byte)) (t' := (.object "com/example/plaingrant/plaingrant/server/http/ApiException")) (by decide) (by decide))))
  exact Go.ret0 X5 hx hlk Bd.returns (hb hby d1_14) (by rw [e5]; exact ⟨rfl, N5, K5, f6, f7, Fw5⟩) (by decide) (by decide)
theorem d4_0 : decode prog_36_method_5_code 0 = .ok (.aload_n 0, 1) := by decide +kernel
theorem d4_1 : decode prog_36_method_5_code 1 = .ok (.getfield 13, 3) := by decide +kernel
theorem d4_4 : decode prog_36_method_5_code 4 = .ok (.ifnull 8, 3) := by decide +kernel
theorem d4_12 : decode prog_36_method_5_code 12 = .ok (.aload_n 0, 1) := by decide +kernel
theorem d4_13 : decode prog_36_method_5_code 13 = .ok (.getfield 7, 3) := by decide +kernel
theorem d4_16 : decode prog_36_method_5_code 16 = .ok (.areturn, 1) := by decide +kernel
theorem ef_rmTn (m : MethodId) (a : Addr) : entryFrame m #[(.ref a)] 1 = mkF m 0 #[.val (.ref a)] [] := by first | (simp [entryFrame, mkF, argsToLocals, Value.category]; done) | rfl
def QrmTn (Z : State) (a : Addr) (h0 : Heap) (n0 : Nat) (rV : Option Value) (hE : Heap) (LE : List Loc) : Prop := rV = some .null ∧ Fr n0 LE ∧ hE = h0
set_option maxRecDepth 65536 in
set_option maxHeartbeats 40000000 in
theorem rmTn (l : Launch) (Z : State) (a0 : Array Value) (hw : ∀ d ∈ tables_1, d.before a0 Z = true) (ws : List Jvm.Cond) (a : Addr) (h0 : Heap) (n0 : Nat) (Z0 : n0 ≤ h0.size) (F_bytes_a : Fld Z h0 a "com/example/plaingrant/plaingrant/server/http/Request$Body" "bytes" "[B" .null) (F_refusal_a : Fld Z h0 a "com/example/plaingrant/plaingrant/server/http/Request$Body" "refusal" "Lcom/example/plaingrant/plaingrant/server/http/ApiException;" .null) :
    MetFree l (⟨"com/example/plaingrant/plaingrant/server/http/Request$Body", "take", "()[B"⟩ : MethodName) (head1 (Jvm.Cond.code (⟨"com/example/plaingrant/plaingrant/server/http/Request$Body", "take", "()[B"⟩ : MethodName) prog_36_method_5_code 1 (some (.array .byte)) :: ws) ({ frames := 0, cells := 0, slots := 0, locals := 0 } : Room)) (fun aA UA => aA = #[(.ref a)] ∧ Z.Warmed39 UA.vm ∧ UA.heap = h0) (fun _ _ _ _ _ => True) (fun _ UA oA UB => ∃ rV LE, oA = .returned rV ∧ QrmTn Z a h0 n0 rV UB.heap LE ∧ FrameEnd UA oA UB LE ({ frames := 0, cells := 0, slots := 0, locals := 0 } : Room).cells ({ frames := 0, cells := 0, slots := 0, locals := 0 } : Room).slots) := by
  refine MetFree.of_bodySF (plainFor_of_name pn_1) hisR ?_
  intro p e s m args below meth c s₁ Bd hml0 hP hK
  obtain ⟨rfl, hZ, hh⟩ := hP
  have hx := Bd.exec
  have hby := Bd.bytes
  have hml : c.maxLocals = 1 := hml0
  have hown : s.vm.findClass "com/example/plaingrant/plaingrant/server/http/Request$Body" = some m.cls := findClass_of_methodNamed Bd.named
  have hnm := (name_of_methodNamed Bd.named Bd.method).1
  have hlk := Bd.notSynchronized
  have X0 : Stand p l e ({ frames := 0, cells := 0, slots := 0, locals := 0 } : Room) s m #[(.ref a)] below meth c s₁ [] 0 0 := Stand.of_body Bd
  have e0 : s₁.heap = h0 := by rw [← hh, Bd.state]; rfl
  have N0 := Fr.nil n0
  show Go p e below s (QrmTn Z a h0 n0) ({ frames := 0, cells := 0, slots := 0, locals := 0 } : Room).cells ({ frames := 0, cells := 0, slots := 0, locals := 0 } : Room).slots s₁ (entryFrame m #[(.ref a)] 1)
  refine Go.eq (ef_rmTn m a) ?_
  show Go p e below s _ _ _ s₁ (mkF m 0 #[.val (.ref a)] [])
  refine Go.st (fun _ => XS.aloadN X0.here hx rfl (hb hby d4_0) rfl rfl) ?_
  show Go p e below s _ _ _ s₁ (mkF m 1 #[.val (.ref a)] [(.ref a)])
  obtain ⟨T1, X1, e1, st1⟩ := getF X0 hx hZ hown (host := "") (Or.inl (hw _ (List.mem_of_getElem? (i := 17) rfl))) Via.refl e0 F_refusal_a (g := (mkF m 1 #[.val (.ref a)] [(.ref a)])) rfl rfl (hb hby d4_1)
  refine Go.st st1 ?_
  show Go p e below s _ _ _ T1 (mkF m 4 #[.val (.ref a)] [.null])
  refine Go.st (fun _ => XS.ifnullYes X1.here hx rfl (pc0 := 4) (pc' := 12) rfl (hb hby d4_4) rfl (by decide) (by decide)) ?_
  show Go p e below s _ _ _ T1 (mkF m 12 #[.val (.ref a)] [])
  refine Go.st (fun _ => XS.aloadN X1.here hx rfl (hb hby d4_12) rfl rfl) ?_
  show Go p e below s _ _ _ T1 (mkF m 13 #[.val (.ref a)] [(.ref a)])
  obtain ⟨T2, X2, e2, st2⟩ := getF X1 hx hZ hown (host := "") (Or.inl (hw _ (List.mem_of_getElem? (i := 15) rfl))) Via.refl e1 F_bytes_a (g := (mkF m 13 #[.val (.ref a)] [(.ref a)])) rfl rfl (hb hby d4_13)
  refine Go.st st2 ?_
  show Go p e below s _ _ _ T2 (mkF m 16 #[.val (.ref a)] [.null])
  exact Go.retA X2 hx hlk Bd.returns rfl rfl (hb hby d4_16) (by rw [e2]; exact ⟨rfl, N0, rfl⟩) (by decide) (by decide)
theorem ef_rmIr (m : MethodId) (a : Addr) (t : Addr) : entryFrame m #[(.ref a), (.ref t), .null] 3 = mkF m 0 #[.val (.ref a), .val (.ref t), .val .null] [] := by first | (simp [entryFrame, mkF, argsToLocals, Value.category]; done) | rfl
def QrmIr (Z : State) (a : Addr) (t : Addr) (h0 : Heap) (n0 : Nat) (rV : Option Value) (hE : Heap) (LE : List Loc) : Prop := rV = none ∧ Fr n0 LE ∧ Keep h0 hE [a] ∧ Exa Z hE a "com/example/plaingrant/plaingrant/server/http/Request$Body" ∧ Fld Z hE a "com/example/plaingrant/plaingrant/server/http/Request$Body" "bytes" "[B" (.ref t) ∧ Fld Z hE a "com/example/plaingrant/plaingrant/server/http/Request$Body" "refusal" "Lcom/example/plaingrant/plaingrant/server/http/ApiException;" .null
set_option maxRecDepth 65536 in
set_option maxHeartbeats 40000000 in
theorem rmIr (l : Launch) (Z : State) (a0 : Array Value) (hw : ∀ d ∈ tables_1, d.before a0 Z = true) (ws : List Jvm.Cond) (a : Addr) (t : Addr) (h0 : Heap) (n0 : Nat) (Z0 : n0 ≤ h0.size) (E_a : Exa Z h0 a "com/example/plaingrant/plaingrant/server/http/Request$Body") (F_bytes_a : Fld Z h0 a "com/example/plaingrant/plaingrant/server/http/Request$Body" "bytes" "[B" .null) (F_refusal_a : Fld Z h0 a "com/example/plaingrant/plaingrant/server/http/Request$Body" "refusal" "Lcom/example/plaingrant/plaingrant/server/http/ApiException;" .null) (g_a : n0 ≤ a) :
    MetFree l (⟨"com/example/plaingrant/plaingrant/server/http/Request$Body", "<init>", "([BLcom/example/plaingrant/plaingrant/server/http/ApiException;)V"⟩ : MethodName) (head1 (Jvm.Cond.code (⟨"com/example/plaingrant/plaingrant/server/http/Request$Body", "<init>", "([BLcom/example/plaingrant/plaingrant/server/http/ApiException;)V"⟩ : MethodName) prog_36_method_1_code 3 none :: ws) ({ frames := 2, cells := 0, slots := 0, locals := 24 } : Room)) (fun aA UA => aA = #[(.ref a), (.ref t), .null] ∧ Z.Warmed39 UA.vm ∧ UA.heap = h0) (fun _ _ _ _ _ => True) (fun _ UA oA UB => ∃ rV LE, oA = .returned rV ∧ QrmIr Z a t h0 n0 rV UB.heap LE ∧ FrameEnd UA oA UB LE ({ frames := 2, cells := 0, slots := 0, locals := 24 } : Room).cells ({ frames := 2, cells := 0, slots := 0, locals := 24 } : Room).slots) := by
  refine MetFree.of_bodySF (plainFor_of_name pn_1) hisR ?_
  intro p e s m args below meth c s₁ Bd hml0 hP hK
  obtain ⟨rfl, hZ, hh⟩ := hP
  have hx := Bd.exec
  have hby := Bd.bytes
  have hml : c.maxLocals = 3 := hml0
  have hown : s.vm.findClass "com/example/plaingrant/plaingrant/server/http/Request$Body" = some m.cls := findClass_of_methodNamed Bd.named
  have hnm := (name_of_methodNamed Bd.named Bd.method).1
  have hlk := Bd.notSynchronized
  have X0 : Stand p l e ({ frames := 2, cells := 0, slots := 0, locals := 24 } : Room) s m #[(.ref a), (.ref t), .null] below meth c s₁ [] 0 0 := Stand.of_body Bd
  have e0 : s₁.heap = h0 := by rw [← hh, Bd.state]; rfl
  have N0 := Fr.nil n0
  show Go p e below s (QrmIr Z a t h0 n0) ({ frames := 2, cells := 0, slots := 0, locals := 24 } : Room).cells ({ frames := 2, cells := 0, slots := 0, locals := 24 } : Room).slots s₁ (entryFrame m #[(.ref a), (.ref t), .null] 3)
  refine Go.eq (ef_rmIr m a t) ?_
  show Go p e below s _ _ _ s₁ (mkF m 0 #[.val (.ref a), .val (.ref t), .val .null] [])
  refine Go.st (fun _ => XS.aloadN X0.here hx rfl (hb hby d1_0) rfl rfl) ?_
  show Go p e below s _ _ _ s₁ (mkF m 1 #[.val (.ref a), .val (.ref t), .val .null] [(.ref a)])
  obtain ⟨_, _, ⟨T1, L1, kc1, nc1⟩, -, X1, ⟨Lc1, hQ1, l1, y1, z1⟩, st1⟩ := X0.specialBack hx (y := (⟨"java/lang/Record", "<init>", "()V"⟩ : MethodName)) rfl hown (mvT hZ (hw _ (List.mem_of_getElem? (i := 7) rfl))) (mvT hZ (hw _ (List.mem_of_getElem? (i := 8) rfl))) (mvT hZ (hw _ (List.mem_of_getElem? (i := 11) rfl))) (by decide) (backOf (W := 0) (rm2 l Z a0 hw [] a h0 n0 Z0 ) hZ (hw _ (List.mem_of_getElem? (i := 11) rfl)) (hw _ (List.mem_of_getElem? (i := 10) rfl)) (by decide) (by decide)) (g := (mkF m 1 #[.val (.ref a), .val (.ref t), .val .null] [(.ref a)])) rfl (by rw [hml]; rfl) (Steps.refl _) (a := a) (argsL := []) (rest := []) (lenOf pd_0 rfl) rfl (by show 2 * 0 + _ ≤ _; exact Nat.le_of_eq rfl) (hb hby d1_1) (fun _ _ => ⟨rfl, e0, (by decide : 0 + 0 ≤ _), (by decide : 0 + 0 ≤ _)⟩)
  dsimp only [Pt.U, Pt.locs, Pt.cells, Pt.slots] at X1 l1 y1 z1 st1 hQ1
  subst l1 y1 z1
  obtain ⟨h1, e1⟩ : ∃ hh, T1.heap = hh := ⟨_, rfl⟩
  rw [e1] at hQ1
  obtain ⟨rfl, N1q, s1⟩ := hQ1
  have N1 := Fr.app N0 N1q
  refine Go.st (fun _ kk => st1.trans kk) ?_
  rw [s1] at e1
  show Go p e below s _ _ _ T1 (mkF m 4 #[.val (.ref a), .val (.ref t), .val .null] [])
  refine Go.st (fun _ => XS.aloadN X1.here hx rfl (hb hby d1_4) rfl rfl) ?_
  show Go p e below s _ _ _ T1 (mkF m 5 #[.val (.ref a), .val (.ref t), .val .null] [(.ref a)])
  refine Go.st (fun _ => XS.aloadN X1.here hx rfl (hb hby d1_5) rfl rfl) ?_
  show Go p e below s _ _ _ T1 (mkF m 6 #[.val (.ref a), .val (.ref t), .val .null] [(.ref t), (.ref a)])
  obtain ⟨T2, h2, X2, e2, W2, st2⟩ := putF X1 hx hZ hown (host := "") (Or.inl (hw _ (List.mem_of_getElem? (i := 15) rfl))) Via.refl e1 F_bytes_a E_a (Or.inr ⟨(hw _ (List.mem_of_getElem? (i := 16) rfl)), rfl, hnm⟩) (hw _ (List.mem_of_getElem? (i := 2) rfl)) (ty := (.array .byte)) (by decide) rfl rfl (g := (mkF m 6 #[.val (.ref a), .val (.ref t), .val .null] [(.ref t), (.ref a)])) rfl rfl (hb hby d1_6)
  refine Go.st st2 ?_
  have N2 := Fr.snoc X2 N1 g_a
  have K2 : Keep h0 h2 [a] := (Keep.refl h0 [a]).wr W2 (Or.inl (List.mem_of_getElem? (i := 0) rfl))
  have z2 : n0 ≤ h2.size := Nat.le_trans Z0 (Nat.le_of_eq W2.size.symm)
  have Fw2 := F_bytes_a.same W2
  show Go p e below s _ _ _ T2 (mkF m 9 #[.val (.ref a), .val (.ref t), .val .null] [])
  refine Go.st (fun _ => XS.aloadN X2.here hx rfl (hb hby d1_9) rfl rfl) ?_
  show Go p e below s _ _ _ T2 (mkF m 10 #[.val (.ref a), .val (.ref t), .val .null] [(.ref a)])
  refine Go.st (fun _ => XS.aloadN X2.here hx rfl (hb hby d1_10) rfl rfl) ?_
  show Go p e below s _ _ _ T2 (mkF m 11 #[.val (.ref a), .val (.ref t), .val .null] [.null, (.ref a)])
  have f3 := (E_a.wr W2)
  have f4 := (F_refusal_a.other W2 (Or.inr (slot_ne (Or.inr (hw _ (List.mem_of_getElem? (i := 18) rfl))) (Or.inr (hw _ (List.mem_of_getElem? (i := 16) rfl))) (by decide) (t := (.object "com/example/plaingrant/plaingrant/server/http/ApiException")) (t' := (.array .byte)) (by decide) (by decide))))
  obtain ⟨T5, h5, X5, e5, W5, st5⟩ := putF X2 hx hZ hown (host := "") (Or.inl (hw _ (List.mem_of_getElem? (i := 17) rfl))) Via.refl e2 f4 f3 (Or.inr ⟨(hw _ (List.mem_of_getElem? (i := 18) rfl)), rfl, hnm⟩) (hw _ (List.mem_of_getElem? (i := 2) rfl)) (ty := (.object "com/example/plaingrant/plaingrant/server/http/ApiException")) (by decide) rfl rfl (g := (mkF m 11 #[.val (.ref a), .val (.ref t), .val .null] [.null, (.ref a)])) rfl rfl (hb hby d1_11)
  refine Go.st st5 ?_
  have N5 := Fr.snoc X5 N2 g_a
  have K5 : Keep h0 h5 [a] := K2.wr W5 (Or.inl (List.mem_of_getElem? (i := 0) rfl))
  have z5 : n0 ≤ h5.size := Nat.le_trans z2 (Nat.le_of_eq W5.size.symm)
  have Fw5 := f4.same W5
  show Go p e below s _ _ _ T5 (mkF m 14 #[.val (.ref a), .val (.ref t), .val .null] [])
  have f6 := (f3.wr W5)
  have f7 := (Fw2.other W5 (Or.inr (slot_ne (Or.inr (hw _ (List.mem_of_getElem? (i := 16) rfl))) (Or.inr (hw _ (List.mem_of_getElem? (i := 18) rfl))) (by decide) (t := (.array .byte)) (t' := (.object "com/example/plaingrant/plaingrant/server/http/ApiException")) (by decide) (by decide))))
  exact Go.ret0 X5 hx hlk Bd.returns (hb hby d1_14) (by rw [e5]; exact ⟨rfl, N5, K5, f6, f7, Fw5⟩) (by decide) (by decide)
theorem ef_rmTr (m : MethodId) (a : Addr) : entryFrame m #[(.ref a)] 1 = mkF m 0 #[.val (.ref a)] [] := by first | (simp [entryFrame, mkF, argsToLocals, Value.category]; done) | rfl
def QrmTr (Z : State) (a : Addr) (t : Addr) (h0 : Heap) (n0 : Nat) (rV : Option Value) (hE : Heap) (LE : List Loc) : Prop := rV = some (.ref t) ∧ Fr n0 LE ∧ hE = h0
set_option maxRecDepth 65536 in
set_option maxHeartbeats 40000000 in
theorem rmTr (l : Launch) (Z : State) (a0 : Array Value) (hw : ∀ d ∈ tables_1, d.before a0 Z = true) (ws : List Jvm.Cond) (a : Addr) (t : Addr) (h0 : Heap) (n0 : Nat) (Z0 : n0 ≤ h0.size) (F_bytes_a : Fld Z h0 a "com/example/plaingrant/plaingrant/server/http/Request$Body" "bytes" "[B" (.ref t)) (F_refusal_a : Fld Z h0 a "com/example/plaingrant/plaingrant/server/http/Request$Body" "refusal" "Lcom/example/plaingrant/plaingrant/server/http/ApiException;" .null) :
    MetFree l (⟨"com/example/plaingrant/plaingrant/server/http/Request$Body", "take", "()[B"⟩ : MethodName) (head1 (Jvm.Cond.code (⟨"com/example/plaingrant/plaingrant/server/http/Request$Body", "take", "()[B"⟩ : MethodName) prog_36_method_5_code 1 (some (.array .byte)) :: ws) ({ frames := 0, cells := 0, slots := 0, locals := 0 } : Room)) (fun aA UA => aA = #[(.ref a)] ∧ Z.Warmed39 UA.vm ∧ UA.heap = h0) (fun _ _ _ _ _ => True) (fun _ UA oA UB => ∃ rV LE, oA = .returned rV ∧ QrmTr Z a t h0 n0 rV UB.heap LE ∧ FrameEnd UA oA UB LE ({ frames := 0, cells := 0, slots := 0, locals := 0 } : Room).cells ({ frames := 0, cells := 0, slots := 0, locals := 0 } : Room).slots) := by
  refine MetFree.of_bodySF (plainFor_of_name pn_1) hisR ?_
  intro p e s m args below meth c s₁ Bd hml0 hP hK
  obtain ⟨rfl, hZ, hh⟩ := hP
  have hx := Bd.exec
  have hby := Bd.bytes
  have hml : c.maxLocals = 1 := hml0
  have hown : s.vm.findClass "com/example/plaingrant/plaingrant/server/http/Request$Body" = some m.cls := findClass_of_methodNamed Bd.named
  have hnm := (name_of_methodNamed Bd.named Bd.method).1
  have hlk := Bd.notSynchronized
  have X0 : Stand p l e ({ frames := 0, cells := 0, slots := 0, locals := 0 } : Room) s m #[(.ref a)] below meth c s₁ [] 0 0 := Stand.of_body Bd
  have e0 : s₁.heap = h0 := by rw [← hh, Bd.state]; rfl
  have N0 := Fr.nil n0
  show Go p e below s (QrmTr Z a t h0 n0) ({ frames := 0, cells := 0, slots := 0, locals := 0 } : Room).cells ({ frames := 0, cells := 0, slots := 0, locals := 0 } : Room).slots s₁ (entryFrame m #[(.ref a)] 1)
  refine Go.eq (ef_rmTr m a) ?_
  show Go p e below s _ _ _ s₁ (mkF m 0 #[.val (.ref a)] [])
  refine Go.st (fun _ => XS.aloadN X0.here hx rfl (hb hby d4_0) rfl rfl) ?_
  show Go p e below s _ _ _ s₁ (mkF m 1 #[.val (.ref a)] [(.ref a)])
  obtain ⟨T1, X1, e1, st1⟩ := getF X0 hx hZ hown (host := "") (Or.inl (hw _ (List.mem_of_getElem? (i := 17) rfl))) Via.refl e0 F_refusal_a (g := (mkF m 1 #[.val (.ref a)] [(.ref a)])) rfl rfl (hb hby d4_1)
  refine Go.st st1 ?_
  show Go p e below s _ _ _ T1 (mkF m 4 #[.val (.ref a)] [.null])
  refine Go.st (fun _ => XS.ifnullYes X1.here hx rfl (pc0 := 4) (pc' := 12) rfl (hb hby d4_4) rfl (by decide) (by decide)) ?_
  show Go p e below s _ _ _ T1 (mkF m 12 #[.val (.ref a)] [])
  refine Go.st (fun _ => XS.aloadN X1.here hx rfl (hb hby d4_12) rfl rfl) ?_
  show Go p e below s _ _ _ T1 (mkF m 13 #[.val (.ref a)] [(.ref a)])
  obtain ⟨T2, X2, e2, st2⟩ := getF X1 hx hZ hown (host := "") (Or.inl (hw _ (List.mem_of_getElem? (i := 15) rfl))) Via.refl e1 F_bytes_a (g := (mkF m 13 #[.val (.ref a)] [(.ref a)])) rfl rfl (hb hby d4_13)
  refine Go.st st2 ?_
  show Go p e below s _ _ _ T2 (mkF m 16 #[.val (.ref a)] [(.ref t)])
  exact Go.retA X2 hx hlk Bd.returns rfl rfl (hb hby d4_16) (by rw [e2]; exact ⟨rfl, N0, rfl⟩) (by decide) (by decide)
theorem pd_1 : parseMethodDescriptor "([BLcom/example/plaingrant/plaingrant/server/http/ApiException;)V" = some ⟨[(.array .byte), (.object "com/example/plaingrant/plaingrant/server/http/ApiException")], none⟩ := by decide +kernel
theorem pd_2 : parseMethodDescriptor "()[B" = some ⟨[], some (.array .byte)⟩ := by decide +kernel
theorem pn_2 : plainName "com/example/plaingrant/plaingrant/server/http/BodyTakePinLaw" = true := by first | (simp [plainName, overriddenIn]; done) | decide +kernel
theorem ef_rm0 (m : MethodId) (xa : Int32) (xb : Int32) (xc : Int32) (fl : Int32) : entryFrame m #[(.int xa), (.int xb), (.int xc), (.int fl)] maxLocals = mkF m 0 #[.val (.int xa), .val (.int xb), .val (.int xc), .val (.int fl), .unset, .unset, .unset, .unset, .unset, .unset] [] := by first | (simp [entryFrame, mkF, argsToLocals, Value.category, maxLocals]; done) | rfl
def Qrm0 (Z : State) (xa : Int32) (xb : Int32) (xc : Int32) (fl : Int32) (h0 : Heap) (n0 : Nat) (rV : Option Value) (hE : Heap) (LE : List Loc) : Prop := rV = some (.int (1 : Int32)) ∧ Fr n0 LE
set_option maxRecDepth 65536 in
set_option maxHeartbeats 40000000 in
theorem rm0 (l : Launch) (Z : State) (a0 : Array Value) (hw : ∀ d ∈ tables_1, d.before a0 Z = true) (ws : List Jvm.Cond) (xa : Int32) (xb : Int32) (xc : Int32) (fl : Int32) (h0 : Heap) (n0 : Nat) (Z0 : n0 ≤ h0.size) :
    MetFree l x (head1 (Jvm.Cond.code x code maxLocals ret :: ws) room_1) (fun aA UA => aA = #[(.int xa), (.int xb), (.int xc), (.int fl)] ∧ Z.Warmed39 UA.vm ∧ UA.heap = h0) (fun _ _ _ _ _ => True) (fun _ UA oA UB => ∃ rV LE, oA = .returned rV ∧ Qrm0 Z xa xb xc fl h0 n0 rV UB.heap LE ∧ FrameEnd UA oA UB LE room_1.cells room_1.slots) := by
  refine MetFree.of_bodySF (plainFor_of_name pn_2) hisR ?_
  intro p e s m args below meth c s₁ Bd hml0 hP hK
  obtain ⟨rfl, hZ, hh⟩ := hP
  have hx := Bd.exec
  have hby := Bd.bytes
  have hml : c.maxLocals = 10 := hml0
  have hown : s.vm.findClass "com/example/plaingrant/plaingrant/server/http/BodyTakePinLaw" = some m.cls := findClass_of_methodNamed Bd.named
  have hnm := (name_of_methodNamed Bd.named Bd.method).1
  have hlk := Bd.notSynchronized
  have X0 : Stand p l e room_1 s m #[(.int xa), (.int xb), (.int xc), (.int fl)] below meth c s₁ [] 0 0 := Stand.of_body Bd
  have e0 : s₁.heap = h0 := by rw [← hh, Bd.state]; rfl
  have N0 := Fr.nil n0
  show Go p e below s (Qrm0 Z xa xb xc fl h0 n0) room_1.cells room_1.slots s₁ (entryFrame m #[(.int xa), (.int xb), (.int xc), (.int fl)] maxLocals)
  refine Go.eq (ef_rm0 m xa xb xc fl) ?_
  show Go p e below s _ _ _ s₁ (mkF m 0 #[.val (.int xa), .val (.int xb), .val (.int xc), .val (.int fl), .unset, .unset, .unset, .unset, .unset, .unset] [])
  refine Go.st (fun _ => XS.iconst X0.here hx rfl (hb hby at_0)) ?_
  show Go p e below s _ _ _ s₁ (mkF m 1 #[.val (.int xa), .val (.int xb), .val (.int xc), .val (.int fl), .unset, .unset, .unset, .unset, .unset, .unset] [(.int (3 : Int32))])
  obtain ⟨T1, h1, kA1, X1, e1, E1, A1, st1⟩ := newP X0 hx hZ (hw _ (List.mem_of_getElem? (i := 0) rfl)) e0 (g := (mkF m 1 #[.val (.int xa), .val (.int xb), .val (.int xc), .val (.int fl), .unset, .unset, .unset, .unset, .unset, .unset] [(.int (3 : Int32))])) rfl (hb hby at_1) rfl (by decide) (cap := 3) (by decide) (by decide) (by decide) (by decide)
  obtain ⟨b1, g1⟩ : ∃ z, z = h0.size := ⟨_, rfl⟩
  rw [← g1] at A1 st1
  refine Go.st st1 ?_
  have gg1 : n0 ≤ b1 := Nat.le_trans Z0 (Nat.le_of_eq g1.symm)
  have z1 : n0 ≤ h1.size := Nat.le_trans Z0 E1.1
  have V_b1 : Arv Z h1 b1 kA1 .byte (3 : Int32) [(.int (0 : Int32)), (.int (0 : Int32)), (.int (0 : Int32))] (.int (0 : Int32)) := (Arv.new A1 (by decide)).pad (pad_rep [] (.int (0 : Int32)) 3)
  show Go p e below s _ _ _ T1 (mkF m 3 #[.val (.int xa), .val (.int xb), .val (.int xc), .val (.int fl), .unset, .unset, .unset, .unset, .unset, .unset] [(.ref b1)])
  refine Go.st (fun _ => XS.astore X1.here hx rfl (hb hby at_3) rfl rfl (l' := #[.val (.int xa), .val (.int xb), .val (.int xc), .val (.int fl), .val (.ref b1), .unset, .unset, .unset, .unset, .unset]) rfl) ?_
  show Go p e below s _ _ _ T1 (mkF m 5 #[.val (.int xa), .val (.int xb), .val (.int xc), .val (.int fl), .val (.ref b1), .unset, .unset, .unset, .unset, .unset] [])
  refine Go.st (fun _ => XS.aload X1.here hx rfl (hb hby at_5) rfl rfl) ?_
  show Go p e below s _ _ _ T1 (mkF m 7 #[.val (.int xa), .val (.int xb), .val (.int xc), .val (.int fl), .val (.ref b1), .unset, .unset, .unset, .unset, .unset] [(.ref b1)])
  refine Go.st (fun _ => XS.iconst X1.here hx rfl (hb hby at_7)) ?_
  show Go p e below s _ _ _ T1 (mkF m 8 #[.val (.int xa), .val (.int xb), .val (.int xc), .val (.int fl), .val (.ref b1), .unset, .unset, .unset, .unset, .unset] [(.int (0 : Int32)), (.ref b1)])
  refine Go.st (fun _ => XS.iloadN X1.here hx rfl (hb hby at_8) rfl) ?_
  show Go p e below s _ _ _ T1 (mkF m 9 #[.val (.int xa), .val (.int xb), .val (.int xc), .val (.int fl), .val (.ref b1), .unset, .unset, .unset, .unset, .unset] [(.int xa), (.int (0 : Int32)), (.ref b1)])
  refine Go.st (fun _ => XS.i2b X1.here hx rfl (hb hby at_9) rfl) ?_
  show Go p e below s _ _ _ T1 (mkF m 10 #[.val (.int xa), .val (.int xb), .val (.int xc), .val (.int fl), .val (.ref b1), .unset, .unset, .unset, .unset, .unset] [(.int (xa.toInt8.toInt32)), (.int (0 : Int32)), (.ref b1)])
  obtain ⟨cl2, Ar2, q2, S2, M2, H2, G2⟩ := id V_b1
  have hin2 : ¬ ((0 : Int32) < 0 ∨ cl2.slots.size ≤ ((0 : Int32)).toNatClampNeg) := inb_of S2 ⟨by decide, by decide⟩
  obtain ⟨T2, h2, X2, e2, W2, st2⟩ := stB X1 hx hZ e1 Ar2 (j := (0 : Int32)) hin2 (g := (mkF m 10 #[.val (.int xa), .val (.int xb), .val (.int xc), .val (.int fl), .val (.ref b1), .unset, .unset, .unset, .unset, .unset] [(.int (xa.toInt8.toInt32)), (.int (0 : Int32)), (.ref b1)])) rfl rfl (hb hby at_10)
  refine Go.st st2 ?_
  rw [own_nb] at W2
  have V2 : Arv Z h2 b1 kA1 .byte (3 : Int32) [(.int (xa.toInt8.toInt32)), (.int (0 : Int32)), (.int (0 : Int32))] (.int (0 : Int32)) := Arv.set Ar2 q2 S2 M2 H2 G2 (fits_nar_byte _) W2 0 rfl (Nat.le_of_ble_eq_true rfl)
  have N2 := Fr.snoc X2 N0 gg1
  have z2 : n0 ≤ h2.size := Nat.le_trans z1 (Nat.le_of_eq W2.size.symm)
  show Go p e below s _ _ _ T2 (mkF m 11 #[.val (.int xa), .val (.int xb), .val (.int xc), .val (.int fl), .val (.ref b1), .unset, .unset, .unset, .unset, .unset] [])
  refine Go.st (fun _ => XS.aload X2.here hx rfl (hb hby at_11) rfl rfl) ?_
  show Go p e below s _ _ _ T2 (mkF m 13 #[.val (.int xa), .val (.int xb), .val (.int xc), .val (.int fl), .val (.ref b1), .unset, .unset, .unset, .unset, .unset] [(.ref b1)])
  refine Go.st (fun _ => XS.iconst X2.here hx rfl (hb hby at_13)) ?_
  show Go p e below s _ _ _ T2 (mkF m 14 #[.val (.int xa), .val (.int xb), .val (.int xc), .val (.int fl), .val (.ref b1), .unset, .unset, .unset, .unset, .unset] [(.int (1 : Int32)), (.ref b1)])
  refine Go.st (fun _ => XS.iloadN X2.here hx rfl (hb hby at_14) rfl) ?_
  show Go p e below s _ _ _ T2 (mkF m 15 #[.val (.int xa), .val (.int xb), .val (.int xc), .val (.int fl), .val (.ref b1), .unset, .unset, .unset, .unset, .unset] [(.int xb), (.int (1 : Int32)), (.ref b1)])
  refine Go.st (fun _ => XS.i2b X2.here hx rfl (hb hby at_15) rfl) ?_
  show Go p e below s _ _ _ T2 (mkF m 16 #[.val (.int xa), .val (.int xb), .val (.int xc), .val (.int fl), .val (.ref b1), .unset, .unset, .unset, .unset, .unset] [(.int (xb.toInt8.toInt32)), (.int (1 : Int32)), (.ref b1)])
  obtain ⟨cl3, Ar3, q3, S3, M3, H3, G3⟩ := id V2
  have hin3 : ¬ ((1 : Int32) < 0 ∨ cl3.slots.size ≤ ((1 : Int32)).toNatClampNeg) := inb_of S3 ⟨by decide, by decide⟩
  obtain ⟨T3, h3, X3, e3, W3, st3⟩ := stB X2 hx hZ e2 Ar3 (j := (1 : Int32)) hin3 (g := (mkF m 16 #[.val (.int xa), .val (.int xb), .val (.int xc), .val (.int fl), .val (.ref b1), .unset, .unset, .unset, .unset, .unset] [(.int (xb.toInt8.toInt32)), (.int (1 : Int32)), (.ref b1)])) rfl rfl (hb hby at_16)
  refine Go.st st3 ?_
  rw [own_nb] at W3
  have V3 : Arv Z h3 b1 kA1 .byte (3 : Int32) [(.int (xa.toInt8.toInt32)), (.int (xb.toInt8.toInt32)), (.int (0 : Int32))] (.int (0 : Int32)) := Arv.set Ar3 q3 S3 M3 H3 G3 (fits_nar_byte _) W3 1 rfl (Nat.le_of_ble_eq_true rfl)
  have N3 := Fr.snoc X3 N2 gg1
  have z3 : n0 ≤ h3.size := Nat.le_trans z2 (Nat.le_of_eq W3.size.symm)
  show Go p e below s _ _ _ T3 (mkF m 17 #[.val (.int xa), .val (.int xb), .val (.int xc), .val (.int fl), .val (.ref b1), .unset, .unset, .unset, .unset, .unset] [])
  refine Go.st (fun _ => XS.aload X3.here hx rfl (hb hby at_17) rfl rfl) ?_
  show Go p e below s _ _ _ T3 (mkF m 19 #[.val (.int xa), .val (.int xb), .val (.int xc), .val (.int fl), .val (.ref b1), .unset, .unset, .unset, .unset, .unset] [(.ref b1)])
  refine Go.st (fun _ => XS.iconst X3.here hx rfl (hb hby at_19)) ?_
  show Go p e below s _ _ _ T3 (mkF m 20 #[.val (.int xa), .val (.int xb), .val (.int xc), .val (.int fl), .val (.ref b1), .unset, .unset, .unset, .unset, .unset] [(.int (2 : Int32)), (.ref b1)])
  refine Go.st (fun _ => XS.iloadN X3.here hx rfl (hb hby at_20) rfl) ?_
  show Go p e below s _ _ _ T3 (mkF m 21 #[.val (.int xa), .val (.int xb), .val (.int xc), .val (.int fl), .val (.ref b1), .unset, .unset, .unset, .unset, .unset] [(.int xc), (.int (2 : Int32)), (.ref b1)])
  refine Go.st (fun _ => XS.i2b X3.here hx rfl (hb hby at_21) rfl) ?_
  show Go p e below s _ _ _ T3 (mkF m 22 #[.val (.int xa), .val (.int xb), .val (.int xc), .val (.int fl), .val (.ref b1), .unset, .unset, .unset, .unset, .unset] [(.int (xc.toInt8.toInt32)), (.int (2 : Int32)), (.ref b1)])
  obtain ⟨cl4, Ar4, q4, S4, M4, H4, G4⟩ := id V3
  have hin4 : ¬ ((2 : Int32) < 0 ∨ cl4.slots.size ≤ ((2 : Int32)).toNatClampNeg) := inb_of S4 ⟨by decide, by decide⟩
  obtain ⟨T4, h4, X4, e4, W4, st4⟩ := stB X3 hx hZ e3 Ar4 (j := (2 : Int32)) hin4 (g := (mkF m 22 #[.val (.int xa), .val (.int xb), .val (.int xc), .val (.int fl), .val (.ref b1), .unset, .unset, .unset, .unset, .unset] [(.int (xc.toInt8.toInt32)), (.int (2 : Int32)), (.ref b1)])) rfl rfl (hb hby at_22)
  refine Go.st st4 ?_
  rw [own_nb] at W4
  have V4 : Arv Z h4 b1 kA1 .byte (3 : Int32) [(.int (xa.toInt8.toInt32)), (.int (xb.toInt8.toInt32)), (.int (xc.toInt8.toInt32))] (.int (0 : Int32)) := Arv.set Ar4 q4 S4 M4 H4 G4 (fits_nar_byte _) W4 2 rfl (Nat.le_of_ble_eq_true rfl)
  have N4 := Fr.snoc X4 N3 gg1
  have z4 : n0 ≤ h4.size := Nat.le_trans z3 (Nat.le_of_eq W4.size.symm)
  show Go p e below s _ _ _ T4 (mkF m 23 #[.val (.int xa), .val (.int xb), .val (.int xc), .val (.int fl), .val (.ref b1), .unset, .unset, .unset, .unset, .unset] [])
  refine Go.st (fun _ => XS.iconst X4.here hx rfl (hb hby at_23)) ?_
  show Go p e below s _ _ _ T4 (mkF m 24 #[.val (.int xa), .val (.int xb), .val (.int xc), .val (.int fl), .val (.ref b1), .unset, .unset, .unset, .unset, .unset] [(.int (0 : Int32))])
  obtain ⟨T5, h5, kA5, X5, e5, E5, A5, st5⟩ := newP X4 hx hZ (hw _ (List.mem_of_getElem? (i := 0) rfl)) e4 (g := (mkF m 24 #[.val (.int xa), .val (.int xb), .val (.int xc), .val (.int fl), .val (.ref b1), .unset, .unset, .unset, .unset, .unset] [(.int (0 : Int32))])) rfl (hb hby at_24) rfl (by decide) (cap := 0) (by decide) (by decide) (by decide) (by decide)
  obtain ⟨b5, g5⟩ : ∃ z, z = h4.size := ⟨_, rfl⟩
  rw [← g5] at A5 st5
  refine Go.st st5 ?_
  have ne_b1_b5 : b1 ≠ b5 := Nat.ne_of_lt (Nat.lt_of_lt_of_eq V4.lt g5.symm)
  have gg5 : n0 ≤ b5 := Nat.le_trans z4 (Nat.le_of_eq g5.symm)
  have z5 : n0 ≤ h5.size := Nat.le_trans z4 E5.1
  have V_b5 : Arv Z h5 b5 kA5 .byte (0 : Int32) [] (.int (0 : Int32)) := (Arv.new A5 (by decide)).pad (pad_rep [] (.int (0 : Int32)) 0)
  show Go p e below s _ _ _ T5 (mkF m 26 #[.val (.int xa), .val (.int xb), .val (.int xc), .val (.int fl), .val (.ref b1), .unset, .unset, .unset, .unset, .unset] [(.ref b5)])
  refine Go.st (fun _ => XS.astore X5.here hx rfl (hb hby at_26) rfl rfl (l' := #[.val (.int xa), .val (.int xb), .val (.int xc), .val (.int fl), .val (.ref b1), .val (.ref b5), .unset, .unset, .unset, .unset]) rfl) ?_
  show Go p e below s _ _ _ T5 (mkF m 28 #[.val (.int xa), .val (.int xb), .val (.int xc), .val (.int fl), .val (.ref b1), .val (.ref b5), .unset, .unset, .unset, .unset] [])
  refine Go.st (fun _ => XS.iloadN X5.here hx rfl (hb hby at_28) rfl) ?_
  show Go p e below s _ _ _ T5 (mkF m 29 #[.val (.int xa), .val (.int xb), .val (.int xc), .val (.int fl), .val (.ref b1), .val (.ref b5), .unset, .unset, .unset, .unset] [(.int fl)])
  refine Go.st (fun _ => XS.iconst X5.here hx rfl (hb hby at_29)) ?_
  show Go p e below s _ _ _ T5 (mkF m 30 #[.val (.int xa), .val (.int xb), .val (.int xc), .val (.int fl), .val (.ref b1), .val (.ref b5), .unset, .unset, .unset, .unset] [(.int (3 : Int32)), (.int fl)])
  refine Go.st (fun _ => XS.iand X5.here hx rfl (hb hby at_30) rfl) ?_
  show Go p e below s _ _ _ T5 (mkF m 31 #[.val (.int xa), .val (.int xb), .val (.int xc), .val (.int fl), .val (.ref b1), .val (.ref b5), .unset, .unset, .unset, .unset] [(.int (fl &&& (3 : Int32)))])
  refine Go.st (fun _ => XS.istore X5.here hx rfl (hb hby at_31) rfl (l' := #[.val (.int xa), .val (.int xb), .val (.int xc), .val (.int fl), .val (.ref b1), .val (.ref b5), .val (.int (fl &&& (3 : Int32))), .unset, .unset, .unset]) rfl) ?_
  show Go p e below s _ _ _ T5 (mkF m 33 #[.val (.int xa), .val (.int xb), .val (.int xc), .val (.int fl), .val (.ref b1), .val (.ref b5), .val (.int (fl &&& (3 : Int32))), .unset, .unset, .unset] [])
  refine Go.st (fun _ => XS.iload X5.here hx rfl (hb hby at_33) rfl) ?_
  show Go p e below s _ _ _ T5 (mkF m 35 #[.val (.int xa), .val (.int xb), .val (.int xc), .val (.int fl), .val (.ref b1), .val (.ref b5), .val (.int (fl &&& (3 : Int32))), .unset, .unset, .unset] [(.int (fl &&& (3 : Int32)))])
  by_cases hc6 : (fl &&& (3 : Int32)) = (0 : Int32)
  · refine Go.st (fun _ => XS.ifNo X5.here hx rfl (hb hby at_35) rfl ((if0 _ _).trans (teq hc6).2)) ?_
    show Go p e below s _ _ _ T5 (mkF m 38 #[.val (.int xa), .val (.int xb), .val (.int xc), .val (.int fl), .val (.ref b1), .val (.ref b5), .val (.int (fl &&& (3 : Int32))), .unset, .unset, .unset] [])
    refine Go.st (fun _ => XS.aconstNull X5.here hx rfl (hb hby at_38)) ?_
    show Go p e below s _ _ _ T5 (mkF m 39 #[.val (.int xa), .val (.int xb), .val (.int xc), .val (.int fl), .val (.ref b1), .val (.ref b5), .val (.int (fl &&& (3 : Int32))), .unset, .unset, .unset] [.null])
    refine Go.st (fun _ => XS.astore X5.here hx rfl (hb hby at_39) rfl rfl (l' := #[.val (.int xa), .val (.int xb), .val (.int xc), .val (.int fl), .val (.ref b1), .val (.ref b5), .val (.int (fl &&& (3 : Int32))), .val .null, .unset, .unset]) rfl) ?_
    show Go p e below s _ _ _ T5 (mkF m 41 #[.val (.int xa), .val (.int xb), .val (.int xc), .val (.int fl), .val (.ref b1), .val (.ref b5), .val (.int (fl &&& (3 : Int32))), .val .null, .unset, .unset] [])
    refine Go.st (fun _ => XS.goto X5.here hx rfl (pc0 := 41) (pc' := 61) rfl (hb hby at_41) (by decide) (by decide)) ?_
    show Go p e below s _ _ _ T5 (mkF m 61 #[.val (.int xa), .val (.int xb), .val (.int xc), .val (.int fl), .val (.ref b1), .val (.ref b5), .val (.int (fl &&& (3 : Int32))), .val .null, .unset, .unset] [])
    obtain ⟨T7, h7, X7, e7, E7, A7, D7, -, st7⟩ := newO X5 hx hZ hown (hw _ (List.mem_of_getElem? (i := 1) rfl)) (hw _ (List.mem_of_getElem? (i := 2) rfl)) (hw _ (List.mem_of_getElem? (i := 3) rfl)) e5 (g := (mkF m 61 #[.val (.int xa), .val (.int xb), .val (.int xc), .val (.int fl), .val (.ref b1), .val (.ref b5), .val (.int (fl &&& (3 : Int32))), .val .null, .unset, .unset] [])) rfl (hb hby at_61) (by decide) (by decide)
    obtain ⟨b7, g7⟩ : ∃ z, z = h5.size := ⟨_, rfl⟩
    rw [← g7] at A7 D7 st7
    refine Go.st st7 ?_
    have f8 := (V4.ext E5)
    have ne_b1_b7 : b1 ≠ b7 := Nat.ne_of_lt (Nat.lt_of_lt_of_eq f8.lt g7.symm)
    have ne_b5_b7 : b5 ≠ b7 := Nat.ne_of_lt (Nat.lt_of_lt_of_eq V_b5.lt g7.symm)
    have gg7 : n0 ≤ b7 := Nat.le_trans z5 (Nat.le_of_eq g7.symm)
    have z7 : n0 ≤ h7.size := Nat.le_trans z5 E7.1
    have F_bytes_b7 : Fld Z h7 b7 "com/example/plaingrant/plaingrant/server/http/Request$Body" "bytes" "[B" .null := D7 (Or.inr (hw _ (List.mem_of_getElem? (i := 16) rfl))) (ty := (.array .byte)) (by decide)
    have F_refusal_b7 : Fld Z h7 b7 "com/example/plaingrant/plaingrant/server/http/Request$Body" "refusal" "Lcom/example/plaingrant/plaingrant/server/http/ApiException;" .null := D7 (Or.inr (hw _ (List.mem_of_getElem? (i := 18) rfl))) (ty := (.object "com/example/plaingrant/plaingrant/server/http/ApiException")) (by decide)
    show Go p e below s _ _ _ T7 (mkF m 64 #[.val (.int xa), .val (.int xb), .val (.int xc), .val (.int fl), .val (.ref b1), .val (.ref b5), .val (.int (fl &&& (3 : Int32))), .val .null, .unset, .unset] [(.ref b7)])
    refine Go.st (fun _ => XS.dup X7.here hx rfl (hb hby at_64) rfl rfl) ?_
    show Go p e below s _ _ _ T7 (mkF m 65 #[.val (.int xa), .val (.int xb), .val (.int xc), .val (.int fl), .val (.ref b1), .val (.ref b5), .val (.int (fl &&& (3 : Int32))), .val .null, .unset, .unset] [(.ref b7), (.ref b7)])
    refine Go.st (fun _ => XS.aload X7.here hx rfl (hb hby at_65) rfl rfl) ?_
    show Go p e below s _ _ _ T7 (mkF m 67 #[.val (.int xa), .val (.int xb), .val (.int xc), .val (.int fl), .val (.ref b1), .val (.ref b5), .val (.int (fl &&& (3 : Int32))), .val .null, .unset, .unset] [.null, (.ref b7), (.ref b7)])
    refine Go.st (fun _ => XS.aconstNull X7.here hx rfl (hb hby at_67)) ?_
    show Go p e below s _ _ _ T7 (mkF m 68 #[.val (.int xa), .val (.int xb), .val (.int xc), .val (.int fl), .val (.ref b1), .val (.ref b5), .val (.int (fl &&& (3 : Int32))), .val .null, .unset, .unset] [.null, .null, (.ref b7), (.ref b7)])
    obtain ⟨_, _, ⟨T9, L9, kc9, nc9⟩, -, X9, ⟨Lc9, hQ9, l9, y9, z9⟩, st9⟩ := X7.specialBack hx (y := (⟨"com/example/plaingrant/plaingrant/server/http/Request$Body", "<init>", "([BLcom/example/plaingrant/plaingrant/server/http/ApiException;)V"⟩ : MethodName)) rfl hown (mvT hZ (hw _ (List.mem_of_getElem? (i := 4) rfl))) (mvT hZ (hw _ (List.mem_of_getElem? (i := 5) rfl))) (mvT hZ (hw _ (List.mem_of_getElem? (i := 6) rfl))) (by decide) (backOf (W := 1) (rmIn l Z a0 hw [] b7 h7 n0 z7 A7 F_bytes_b7 F_refusal_b7 gg7) hZ (hw _ (List.mem_of_getElem? (i := 6) rfl)) (hw _ (List.mem_of_getElem? (i := 3) rfl)) (by decide) (by decide)) (g := (mkF m 68 #[.val (.int xa), .val (.int xb), .val (.int xc), .val (.int fl), .val (.ref b1), .val (.ref b5), .val (.int (fl &&& (3 : Int32))), .val .null, .unset, .unset] [.null, .null, (.ref b7), (.ref b7)])) rfl (by rw [hml]; rfl) (Steps.refl _) (a := b7) (argsL := [.null, .null]) (rest := [(.ref b7)]) (lenOf pd_1 rfl) rfl (by show 2 * 0 + _ ≤ _; exact Nat.le_of_eq rfl) (hb hby at_68) (fun _ _ => ⟨rfl, e7, (by decide : 3 + 0 ≤ _), (by decide : 5 + 0 ≤ _)⟩)
    dsimp only [Pt.U, Pt.locs, Pt.cells, Pt.slots] at X9 l9 y9 z9 st9 hQ9
    subst l9 y9 z9
    obtain ⟨h9, e9⟩ : ∃ hh, T9.heap = hh := ⟨_, rfl⟩
    rw [e9] at hQ9
    obtain ⟨rfl, N9q, K9, p9_0, p9_1, p9_2⟩ := hQ9
    have N9 := Fr.app N4 N9q
    refine Go.st (fun _ kk => st9.trans kk) ?_
    have z9q : n0 ≤ h9.size := Nat.le_trans z7 K9.1
    show Go p e below s _ _ _ T9 (mkF m 71 #[.val (.int xa), .val (.int xb), .val (.int xc), .val (.int fl), .val (.ref b1), .val (.ref b5), .val (.int (fl &&& (3 : Int32))), .val .null, .unset, .unset] [(.ref b7)])
    refine Go.st (fun _ => XS.astore X9.here hx rfl (hb hby at_71) rfl rfl (l' := #[.val (.int xa), .val (.int xb), .val (.int xc), .val (.int fl), .val (.ref b1), .val (.ref b5), .val (.int (fl &&& (3 : Int32))), .val .null, .val (.ref b7), .unset]) rfl) ?_
    show Go p e below s _ _ _ T9 (mkF m 73 #[.val (.int xa), .val (.int xb), .val (.int xc), .val (.int fl), .val (.ref b1), .val (.ref b5), .val (.int (fl &&& (3 : Int32))), .val .null, .val (.ref b7), .unset] [])
    refine Go.st (fun _ => XS.aload X9.here hx rfl (hb hby at_73) rfl rfl) ?_
    show Go p e below s _ _ _ T9 (mkF m 75 #[.val (.int xa), .val (.int xb), .val (.int xc), .val (.int fl), .val (.ref b1), .val (.ref b5), .val (.int (fl &&& (3 : Int32))), .val .null, .val (.ref b7), .unset] [(.ref b7)])
    obtain ⟨cq10, kq10, q10a, q10b, q10c⟩ := isOf hZ e9 p9_0
    obtain ⟨_, _, ⟨T10, L10, kc10, nc10⟩, -, X10, ⟨Lc10, hQ10, l10, y10, z10⟩, st10⟩ := X9.virtualBack hx (y := (⟨"com/example/plaingrant/plaingrant/server/http/Request$Body", "take", "()[B"⟩ : MethodName)) (z := (⟨"com/example/plaingrant/plaingrant/server/http/Request$Body", "take", "()[B"⟩ : MethodName)) hown (mvT hZ (hw _ (List.mem_of_getElem? (i := 19) rfl))) (mvT hZ (hw _ (List.mem_of_getElem? (i := 20) rfl))) (notFace_of_selects (args := #[]) (mvT hZ (hw _ (List.mem_of_getElem? (i := 22) rfl)))) (mvT hZ (hw _ (List.mem_of_getElem? (i := 22) rfl))) (mvT hZ (hw _ (List.mem_of_getElem? (i := 21) rfl))) (by decide) (backOf (W := 0) (rmTn l Z a0 hw [] b7 h9 n0 z9q p9_1 p9_2) hZ (hw _ (List.mem_of_getElem? (i := 23) rfl)) (hw _ (List.mem_of_getElem? (i := 3) rfl)) (by decide) (by decide)) q10a q10c (g := (mkF m 75 #[.val (.int xa), .val (.int xb), .val (.int xc), .val (.int fl), .val (.ref b1), .val (.ref b5), .val (.int (fl &&& (3 : Int32))), .val .null, .val (.ref b7), .unset] [(.ref b7)])) rfl (by rw [hml]; rfl) (Steps.refl _) (argsL := []) (rest := []) (lenOf pd_2 rfl) rfl (by show 2 * 0 + _ ≤ _; exact Nat.le_of_eq rfl) (hb hby at_75) (fun _ _ => ⟨rfl, e9, (by decide : 3 + 0 ≤ _), (by decide : 5 + 0 ≤ _)⟩)
    dsimp only [Pt.U, Pt.locs, Pt.cells, Pt.slots] at X10 l10 y10 z10 st10 hQ10
    subst l10 y10 z10
    obtain ⟨h10, e10⟩ : ∃ hh, T10.heap = hh := ⟨_, rfl⟩
    rw [e10] at hQ10
    obtain ⟨rfl, N10q, s10⟩ := hQ10
    have N10 := Fr.app N9 N10q
    refine Go.st (fun _ kk => st10.trans kk) ?_
    rw [s10] at e10
    show Go p e below s _ _ _ T10 (mkF m 78 #[.val (.int xa), .val (.int xb), .val (.int xc), .val (.int fl), .val (.ref b1), .val (.ref b5), .val (.int (fl &&& (3 : Int32))), .val .null, .val (.ref b7), .unset] [.null])
    refine Go.st (fun _ => XS.astore X10.here hx rfl (hb hby at_78) rfl rfl (l' := #[.val (.int xa), .val (.int xb), .val (.int xc), .val (.int fl), .val (.ref b1), .val (.ref b5), .val (.int (fl &&& (3 : Int32))), .val .null, .val (.ref b7), .val .null]) rfl) ?_
    show Go p e below s _ _ _ T10 (mkF m 80 #[.val (.int xa), .val (.int xb), .val (.int xc), .val (.int fl), .val (.ref b1), .val (.ref b5), .val (.int (fl &&& (3 : Int32))), .val .null, .val (.ref b7), .val .null] [])
    refine Go.st (fun _ => XS.aload X10.here hx rfl (hb hby at_80) rfl rfl) ?_
    show Go p e below s _ _ _ T10 (mkF m 82 #[.val (.int xa), .val (.int xb), .val (.int xc), .val (.int fl), .val (.ref b1), .val (.ref b5), .val (.int (fl &&& (3 : Int32))), .val .null, .val (.ref b7), .val .null] [.null])
    refine Go.st (fun _ => XS.aload X10.here hx rfl (hb hby at_82) rfl rfl) ?_
    show Go p e below s _ _ _ T10 (mkF m 84 #[.val (.int xa), .val (.int xb), .val (.int xc), .val (.int fl), .val (.ref b1), .val (.ref b5), .val (.int (fl &&& (3 : Int32))), .val .null, .val (.ref b7), .val .null] [.null, .null])
    refine Go.st (fun _ => Jvm.RoadKit.acmp (g := (mkF m 84 #[.val (.int xa), .val (.int xb), .val (.int xc), .val (.int fl), .val (.ref b1), .val (.ref b5), .val (.int (fl &&& (3 : Int32))), .val .null, .val (.ref b7), .val .null] [.null, .null])) X10 hx rfl rfl rfl (pc0 := 84) (pc' := 89) (same := true) rfl (hb hby at_84) rfl (decide_eq_true rfl) (by decide) (by decide)) ?_
    show Go p e below s _ _ _ T10 (mkF m 89 #[.val (.int xa), .val (.int xb), .val (.int xc), .val (.int fl), .val (.ref b1), .val (.ref b5), .val (.int (fl &&& (3 : Int32))), .val .null, .val (.ref b7), .val .null] [])
    refine Go.st (fun _ => XS.aload X10.here hx rfl (hb hby at_89) rfl rfl) ?_
    show Go p e below s _ _ _ T10 (mkF m 91 #[.val (.int xa), .val (.int xb), .val (.int xc), .val (.int fl), .val (.ref b1), .val (.ref b5), .val (.int (fl &&& (3 : Int32))), .val .null, .val (.ref b7), .val .null] [.null])
    refine Go.st (fun _ => XS.aload X10.here hx rfl (hb hby at_91) rfl rfl) ?_
    show Go p e below s _ _ _ T10 (mkF m 93 #[.val (.int xa), .val (.int xb), .val (.int xc), .val (.int fl), .val (.ref b1), .val (.ref b5), .val (.int (fl &&& (3 : Int32))), .val .null, .val (.ref b7), .val .null] [(.ref b1), .null])
    refine Go.st (fun _ => Jvm.RoadKit.acmp (g := (mkF m 93 #[.val (.int xa), .val (.int xb), .val (.int xc), .val (.int fl), .val (.ref b1), .val (.ref b5), .val (.int (fl &&& (3 : Int32))), .val .null, .val (.ref b7), .val .null] [(.ref b1), .null])) X10 hx rfl rfl rfl (pc0 := 93) (pc' := 136) (same := false) rfl (hb hby at_93) rfl (decide_eq_false nofun) (by decide) (by decide)) ?_
    show Go p e below s _ _ _ T10 (mkF m 136 #[.val (.int xa), .val (.int xb), .val (.int xc), .val (.int fl), .val (.ref b1), .val (.ref b5), .val (.int (fl &&& (3 : Int32))), .val .null, .val (.ref b7), .val .null] [])
    refine Go.st (fun _ => XS.aload X10.here hx rfl (hb hby at_136) rfl rfl) ?_
    show Go p e below s _ _ _ T10 (mkF m 138 #[.val (.int xa), .val (.int xb), .val (.int xc), .val (.int fl), .val (.ref b1), .val (.ref b5), .val (.int (fl &&& (3 : Int32))), .val .null, .val (.ref b7), .val .null] [.null])
    refine Go.st (fun _ => XS.aload X10.here hx rfl (hb hby at_138) rfl rfl) ?_
    show Go p e below s _ _ _ T10 (mkF m 140 #[.val (.int xa), .val (.int xb), .val (.int xc), .val (.int fl), .val (.ref b1), .val (.ref b5), .val (.int (fl &&& (3 : Int32))), .val .null, .val (.ref b7), .val .null] [(.ref b5), .null])
    refine Go.st (fun _ => Jvm.RoadKit.acmp (g := (mkF m 140 #[.val (.int xa), .val (.int xb), .val (.int xc), .val (.int fl), .val (.ref b1), .val (.ref b5), .val (.int (fl &&& (3 : Int32))), .val .null, .val (.ref b7), .val .null] [(.ref b5), .null])) X10 hx rfl rfl rfl (pc0 := 140) (pc' := 155) (same := false) rfl (hb hby at_140) rfl (decide_eq_false nofun) (by decide) (by decide)) ?_
    show Go p e below s _ _ _ T10 (mkF m 155 #[.val (.int xa), .val (.int xb), .val (.int xc), .val (.int fl), .val (.ref b1), .val (.ref b5), .val (.int (fl &&& (3 : Int32))), .val .null, .val (.ref b7), .val .null] [])
    refine Go.st (fun _ => XS.aload X10.here hx rfl (hb hby at_155) rfl rfl) ?_
    show Go p e below s _ _ _ T10 (mkF m 157 #[.val (.int xa), .val (.int xb), .val (.int xc), .val (.int fl), .val (.ref b1), .val (.ref b5), .val (.int (fl &&& (3 : Int32))), .val .null, .val (.ref b7), .val .null] [.null])
    refine Go.st (fun _ => XS.ifnonnullNo X10.here hx rfl (hb hby at_157) rfl) ?_
    show Go p e below s _ _ _ T10 (mkF m 160 #[.val (.int xa), .val (.int xb), .val (.int xc), .val (.int fl), .val (.ref b1), .val (.ref b5), .val (.int (fl &&& (3 : Int32))), .val .null, .val (.ref b7), .val .null] [])
    refine Go.st (fun _ => XS.iconst X10.here hx rfl (hb hby at_160)) ?_
    show Go p e below s _ _ _ T10 (mkF m 161 #[.val (.int xa), .val (.int xb), .val (.int xc), .val (.int fl), .val (.ref b1), .val (.ref b5), .val (.int (fl &&& (3 : Int32))), .val .null, .val (.ref b7), .val .null] [(.int (1 : Int32))])
    refine Go.st (fun _ => XS.goto X10.here hx rfl (pc0 := 161) (pc' := 165) rfl (hb hby at_161) (by decide) (by decide)) ?_
    show Go p e below s _ _ _ T10 (mkF m 165 #[.val (.int xa), .val (.int xb), .val (.int xc), .val (.int fl), .val (.ref b1), .val (.ref b5), .val (.int (fl &&& (3 : Int32))), .val .null, .val (.ref b7), .val .null] [(.int (1 : Int32))])
    exact Go.retZ X10 hx hlk Bd.returns (hb hby at_165) rfl (by rw [e10]; exact ⟨rfl, N10⟩) (by decide) (by decide)
  · refine Go.st (fun _ => XS.ifYes X5.here hx rfl (pc0 := 35) (pc' := 44) rfl (hb hby at_35) rfl ((if0 _ _).trans (feq hc6).2) (by decide) (by decide)) ?_
    show Go p e below s _ _ _ T5 (mkF m 44 #[.val (.int xa), .val (.int xb), .val (.int xc), .val (.int fl), .val (.ref b1), .val (.ref b5), .val (.int (fl &&& (3 : Int32))), .unset, .unset, .unset] [])
    refine Go.st (fun _ => XS.iload X5.here hx rfl (hb hby at_44) rfl) ?_
    show Go p e below s _ _ _ T5 (mkF m 46 #[.val (.int xa), .val (.int xb), .val (.int xc), .val (.int fl), .val (.ref b1), .val (.ref b5), .val (.int (fl &&& (3 : Int32))), .unset, .unset, .unset] [(.int (fl &&& (3 : Int32)))])
    refine Go.st (fun _ => XS.iconst X5.here hx rfl (hb hby at_46)) ?_
    show Go p e below s _ _ _ T5 (mkF m 47 #[.val (.int xa), .val (.int xb), .val (.int xc), .val (.int fl), .val (.ref b1), .val (.ref b5), .val (.int (fl &&& (3 : Int32))), .unset, .unset, .unset] [(.int (1 : Int32)), (.int (fl &&& (3 : Int32)))])
    by_cases hc11 : (fl &&& (3 : Int32)) = (1 : Int32)
    · refine Go.st (fun _ => XS.icmpNo X5.here hx rfl (hb hby at_47) rfl (teq hc11).2) ?_
      show Go p e below s _ _ _ T5 (mkF m 50 #[.val (.int xa), .val (.int xb), .val (.int xc), .val (.int fl), .val (.ref b1), .val (.ref b5), .val (.int (fl &&& (3 : Int32))), .unset, .unset, .unset] [])
      refine Go.st (fun _ => XS.aload X5.here hx rfl (hb hby at_50) rfl rfl) ?_
      show Go p e below s _ _ _ T5 (mkF m 52 #[.val (.int xa), .val (.int xb), .val (.int xc), .val (.int fl), .val (.ref b1), .val (.ref b5), .val (.int (fl &&& (3 : Int32))), .unset, .unset, .unset] [(.ref b5)])
      refine Go.st (fun _ => XS.astore X5.here hx rfl (hb hby at_52) rfl rfl (l' := #[.val (.int xa), .val (.int xb), .val (.int xc), .val (.int fl), .val (.ref b1), .val (.ref b5), .val (.int (fl &&& (3 : Int32))), .val (.ref b5), .unset, .unset]) rfl) ?_
      show Go p e below s _ _ _ T5 (mkF m 54 #[.val (.int xa), .val (.int xb), .val (.int xc), .val (.int fl), .val (.ref b1), .val (.ref b5), .val (.int (fl &&& (3 : Int32))), .val (.ref b5), .unset, .unset] [])
      refine Go.st (fun _ => XS.goto X5.here hx rfl (pc0 := 54) (pc' := 61) rfl (hb hby at_54) (by decide) (by decide)) ?_
      show Go p e below s _ _ _ T5 (mkF m 61 #[.val (.int xa), .val (.int xb), .val (.int xc), .val (.int fl), .val (.ref b1), .val (.ref b5), .val (.int (fl &&& (3 : Int32))), .val (.ref b5), .unset, .unset] [])
      obtain ⟨T12, h12, X12, e12, E12, A12, D12, -, st12⟩ := newO X5 hx hZ hown (hw _ (List.mem_of_getElem? (i := 1) rfl)) (hw _ (List.mem_of_getElem? (i := 2) rfl)) (hw _ (List.mem_of_getElem? (i := 3) rfl)) e5 (g := (mkF m 61 #[.val (.int xa), .val (.int xb), .val (.int xc), .val (.int fl), .val (.ref b1), .val (.ref b5), .val (.int (fl &&& (3 : Int32))), .val (.ref b5), .unset, .unset] [])) rfl (hb hby at_61) (by decide) (by decide)
      obtain ⟨b12, g12⟩ : ∃ z, z = h5.size := ⟨_, rfl⟩
      rw [← g12] at A12 D12 st12
      refine Go.st st12 ?_
      have f13 := (V4.ext E5)
      have ne_b1_b12 : b1 ≠ b12 := Nat.ne_of_lt (Nat.lt_of_lt_of_eq f13.lt g12.symm)
      have ne_b5_b12 : b5 ≠ b12 := Nat.ne_of_lt (Nat.lt_of_lt_of_eq V_b5.lt g12.symm)
      have gg12 : n0 ≤ b12 := Nat.le_trans z5 (Nat.le_of_eq g12.symm)
      have z12 : n0 ≤ h12.size := Nat.le_trans z5 E12.1
      have F_bytes_b12 : Fld Z h12 b12 "com/example/plaingrant/plaingrant/server/http/Request$Body" "bytes" "[B" .null := D12 (Or.inr (hw _ (List.mem_of_getElem? (i := 16) rfl))) (ty := (.array .byte)) (by decide)
      have F_refusal_b12 : Fld Z h12 b12 "com/example/plaingrant/plaingrant/server/http/Request$Body" "refusal" "Lcom/example/plaingrant/plaingrant/server/http/ApiException;" .null := D12 (Or.inr (hw _ (List.mem_of_getElem? (i := 18) rfl))) (ty := (.object "com/example/plaingrant/plaingrant/server/http/ApiException")) (by decide)
      show Go p e below s _ _ _ T12 (mkF m 64 #[.val (.int xa), .val (.int xb), .val (.int xc), .val (.int fl), .val (.ref b1), .val (.ref b5), .val (.int (fl &&& (3 : Int32))), .val (.ref b5), .unset, .unset] [(.ref b12)])
      refine Go.st (fun _ => XS.dup X12.here hx rfl (hb hby at_64) rfl rfl) ?_
      show Go p e below s _ _ _ T12 (mkF m 65 #[.val (.int xa), .val (.int xb), .val (.int xc), .val (.int fl), .val (.ref b1), .val (.ref b5), .val (.int (fl &&& (3 : Int32))), .val (.ref b5), .unset, .unset] [(.ref b12), (.ref b12)])
      refine Go.st (fun _ => XS.aload X12.here hx rfl (hb hby at_65) rfl rfl) ?_
      show Go p e below s _ _ _ T12 (mkF m 67 #[.val (.int xa), .val (.int xb), .val (.int xc), .val (.int fl), .val (.ref b1), .val (.ref b5), .val (.int (fl &&& (3 : Int32))), .val (.ref b5), .unset, .unset] [(.ref b5), (.ref b12), (.ref b12)])
      refine Go.st (fun _ => XS.aconstNull X12.here hx rfl (hb hby at_67)) ?_
      show Go p e below s _ _ _ T12 (mkF m 68 #[.val (.int xa), .val (.int xb), .val (.int xc), .val (.int fl), .val (.ref b1), .val (.ref b5), .val (.int (fl &&& (3 : Int32))), .val (.ref b5), .unset, .unset] [.null, (.ref b5), (.ref b12), (.ref b12)])
      obtain ⟨_, _, ⟨T14, L14, kc14, nc14⟩, -, X14, ⟨Lc14, hQ14, l14, y14, z14⟩, st14⟩ := X12.specialBack hx (y := (⟨"com/example/plaingrant/plaingrant/server/http/Request$Body", "<init>", "([BLcom/example/plaingrant/plaingrant/server/http/ApiException;)V"⟩ : MethodName)) rfl hown (mvT hZ (hw _ (List.mem_of_getElem? (i := 4) rfl))) (mvT hZ (hw _ (List.mem_of_getElem? (i := 5) rfl))) (mvT hZ (hw _ (List.mem_of_getElem? (i := 6) rfl))) (by decide) (backOf (W := 1) (rmIr l Z a0 hw [] b12 b5 h12 n0 z12 A12 F_bytes_b12 F_refusal_b12 gg12) hZ (hw _ (List.mem_of_getElem? (i := 6) rfl)) (hw _ (List.mem_of_getElem? (i := 3) rfl)) (by decide) (by decide)) (g := (mkF m 68 #[.val (.int xa), .val (.int xb), .val (.int xc), .val (.int fl), .val (.ref b1), .val (.ref b5), .val (.int (fl &&& (3 : Int32))), .val (.ref b5), .unset, .unset] [.null, (.ref b5), (.ref b12), (.ref b12)])) rfl (by rw [hml]; rfl) (Steps.refl _) (a := b12) (argsL := [(.ref b5), .null]) (rest := [(.ref b12)]) (lenOf pd_1 rfl) rfl (by show 2 * 0 + _ ≤ _; exact Nat.le_of_eq rfl) (hb hby at_68) (fun _ _ => ⟨rfl, e12, (by decide : 3 + 0 ≤ _), (by decide : 5 + 0 ≤ _)⟩)
      dsimp only [Pt.U, Pt.locs, Pt.cells, Pt.slots] at X14 l14 y14 z14 st14 hQ14
      subst l14 y14 z14
      obtain ⟨h14, e14⟩ : ∃ hh, T14.heap = hh := ⟨_, rfl⟩
      rw [e14] at hQ14
      obtain ⟨rfl, N14q, K14, p14_0, p14_1, p14_2⟩ := hQ14
      have N14 := Fr.app N4 N14q
      refine Go.st (fun _ kk => st14.trans kk) ?_
      have z14q : n0 ≤ h14.size := Nat.le_trans z12 K14.1
      show Go p e below s _ _ _ T14 (mkF m 71 #[.val (.int xa), .val (.int xb), .val (.int xc), .val (.int fl), .val (.ref b1), .val (.ref b5), .val (.int (fl &&& (3 : Int32))), .val (.ref b5), .unset, .unset] [(.ref b12)])
      refine Go.st (fun _ => XS.astore X14.here hx rfl (hb hby at_71) rfl rfl (l' := #[.val (.int xa), .val (.int xb), .val (.int xc), .val (.int fl), .val (.ref b1), .val (.ref b5), .val (.int (fl &&& (3 : Int32))), .val (.ref b5), .val (.ref b12), .unset]) rfl) ?_
      show Go p e below s _ _ _ T14 (mkF m 73 #[.val (.int xa), .val (.int xb), .val (.int xc), .val (.int fl), .val (.ref b1), .val (.ref b5), .val (.int (fl &&& (3 : Int32))), .val (.ref b5), .val (.ref b12), .unset] [])
      refine Go.st (fun _ => XS.aload X14.here hx rfl (hb hby at_73) rfl rfl) ?_
      show Go p e below s _ _ _ T14 (mkF m 75 #[.val (.int xa), .val (.int xb), .val (.int xc), .val (.int fl), .val (.ref b1), .val (.ref b5), .val (.int (fl &&& (3 : Int32))), .val (.ref b5), .val (.ref b12), .unset] [(.ref b12)])
      obtain ⟨cq15, kq15, q15a, q15b, q15c⟩ := isOf hZ e14 p14_0
      obtain ⟨_, _, ⟨T15, L15, kc15, nc15⟩, -, X15, ⟨Lc15, hQ15, l15, y15, z15⟩, st15⟩ := X14.virtualBack hx (y := (⟨"com/example/plaingrant/plaingrant/server/http/Request$Body", "take", "()[B"⟩ : MethodName)) (z := (⟨"com/example/plaingrant/plaingrant/server/http/Request$Body", "take", "()[B"⟩ : MethodName)) hown (mvT hZ (hw _ (List.mem_of_getElem? (i := 19) rfl))) (mvT hZ (hw _ (List.mem_of_getElem? (i := 20) rfl))) (notFace_of_selects (args := #[]) (mvT hZ (hw _ (List.mem_of_getElem? (i := 22) rfl)))) (mvT hZ (hw _ (List.mem_of_getElem? (i := 22) rfl))) (mvT hZ (hw _ (List.mem_of_getElem? (i := 21) rfl))) (by decide) (backOf (W := 0) (rmTr l Z a0 hw [] b12 b5 h14 n0 z14q p14_1 p14_2) hZ (hw _ (List.mem_of_getElem? (i := 23) rfl)) (hw _ (List.mem_of_getElem? (i := 3) rfl)) (by decide) (by decide)) q15a q15c (g := (mkF m 75 #[.val (.int xa), .val (.int xb), .val (.int xc), .val (.int fl), .val (.ref b1), .val (.ref b5), .val (.int (fl &&& (3 : Int32))), .val (.ref b5), .val (.ref b12), .unset] [(.ref b12)])) rfl (by rw [hml]; rfl) (Steps.refl _) (argsL := []) (rest := []) (lenOf pd_2 rfl) rfl (by show 2 * 0 + _ ≤ _; exact Nat.le_of_eq rfl) (hb hby at_75) (fun _ _ => ⟨rfl, e14, (by decide : 3 + 0 ≤ _), (by decide : 5 + 0 ≤ _)⟩)
      dsimp only [Pt.U, Pt.locs, Pt.cells, Pt.slots] at X15 l15 y15 z15 st15 hQ15
      subst l15 y15 z15
      obtain ⟨h15, e15⟩ : ∃ hh, T15.heap = hh := ⟨_, rfl⟩
      rw [e15] at hQ15
      obtain ⟨rfl, N15q, s15⟩ := hQ15
      have N15 := Fr.app N14 N15q
      refine Go.st (fun _ kk => st15.trans kk) ?_
      rw [s15] at e15
      show Go p e below s _ _ _ T15 (mkF m 78 #[.val (.int xa), .val (.int xb), .val (.int xc), .val (.int fl), .val (.ref b1), .val (.ref b5), .val (.int (fl &&& (3 : Int32))), .val (.ref b5), .val (.ref b12), .unset] [(.ref b5)])
      refine Go.st (fun _ => XS.astore X15.here hx rfl (hb hby at_78) rfl rfl (l' := #[.val (.int xa), .val (.int xb), .val (.int xc), .val (.int fl), .val (.ref b1), .val (.ref b5), .val (.int (fl &&& (3 : Int32))), .val (.ref b5), .val (.ref b12), .val (.ref b5)]) rfl) ?_
      show Go p e below s _ _ _ T15 (mkF m 80 #[.val (.int xa), .val (.int xb), .val (.int xc), .val (.int fl), .val (.ref b1), .val (.ref b5), .val (.int (fl &&& (3 : Int32))), .val (.ref b5), .val (.ref b12), .val (.ref b5)] [])
      refine Go.st (fun _ => XS.aload X15.here hx rfl (hb hby at_80) rfl rfl) ?_
      show Go p e below s _ _ _ T15 (mkF m 82 #[.val (.int xa), .val (.int xb), .val (.int xc), .val (.int fl), .val (.ref b1), .val (.ref b5), .val (.int (fl &&& (3 : Int32))), .val (.ref b5), .val (.ref b12), .val (.ref b5)] [(.ref b5)])
      refine Go.st (fun _ => XS.aload X15.here hx rfl (hb hby at_82) rfl rfl) ?_
      show Go p e below s _ _ _ T15 (mkF m 84 #[.val (.int xa), .val (.int xb), .val (.int xc), .val (.int fl), .val (.ref b1), .val (.ref b5), .val (.int (fl &&& (3 : Int32))), .val (.ref b5), .val (.ref b12), .val (.ref b5)] [(.ref b5), (.ref b5)])
      refine Go.st (fun _ => Jvm.RoadKit.acmp (g := (mkF m 84 #[.val (.int xa), .val (.int xb), .val (.int xc), .val (.int fl), .val (.ref b1), .val (.ref b5), .val (.int (fl &&& (3 : Int32))), .val (.ref b5), .val (.ref b12), .val (.ref b5)] [(.ref b5), (.ref b5)])) X15 hx rfl rfl rfl (pc0 := 84) (pc' := 89) (same := true) rfl (hb hby at_84) rfl (decide_eq_true rfl) (by decide) (by decide)) ?_
      show Go p e below s _ _ _ T15 (mkF m 89 #[.val (.int xa), .val (.int xb), .val (.int xc), .val (.int fl), .val (.ref b1), .val (.ref b5), .val (.int (fl &&& (3 : Int32))), .val (.ref b5), .val (.ref b12), .val (.ref b5)] [])
      refine Go.st (fun _ => XS.aload X15.here hx rfl (hb hby at_89) rfl rfl) ?_
      show Go p e below s _ _ _ T15 (mkF m 91 #[.val (.int xa), .val (.int xb), .val (.int xc), .val (.int fl), .val (.ref b1), .val (.ref b5), .val (.int (fl &&& (3 : Int32))), .val (.ref b5), .val (.ref b12), .val (.ref b5)] [(.ref b5)])
      refine Go.st (fun _ => XS.aload X15.here hx rfl (hb hby at_91) rfl rfl) ?_
      show Go p e below s _ _ _ T15 (mkF m 93 #[.val (.int xa), .val (.int xb), .val (.int xc), .val (.int fl), .val (.ref b1), .val (.ref b5), .val (.int (fl &&& (3 : Int32))), .val (.ref b5), .val (.ref b12), .val (.ref b5)] [(.ref b1), (.ref b5)])
      refine Go.st (fun _ => Jvm.RoadKit.acmp (g := (mkF m 93 #[.val (.int xa), .val (.int xb), .val (.int xc), .val (.int fl), .val (.ref b1), .val (.ref b5), .val (.int (fl &&& (3 : Int32))), .val (.ref b5), .val (.ref b12), .val (.ref b5)] [(.ref b1), (.ref b5)])) X15 hx rfl rfl rfl (pc0 := 93) (pc' := 136) (same := false) rfl (hb hby at_93) rfl (decide_eq_false fun q => (Ne.symm ne_b1_b5) (Value.ref.inj q)) (by decide) (by decide)) ?_
      show Go p e below s _ _ _ T15 (mkF m 136 #[.val (.int xa), .val (.int xb), .val (.int xc), .val (.int fl), .val (.ref b1), .val (.ref b5), .val (.int (fl &&& (3 : Int32))), .val (.ref b5), .val (.ref b12), .val (.ref b5)] [])
      refine Go.st (fun _ => XS.aload X15.here hx rfl (hb hby at_136) rfl rfl) ?_
      show Go p e below s _ _ _ T15 (mkF m 138 #[.val (.int xa), .val (.int xb), .val (.int xc), .val (.int fl), .val (.ref b1), .val (.ref b5), .val (.int (fl &&& (3 : Int32))), .val (.ref b5), .val (.ref b12), .val (.ref b5)] [(.ref b5)])
      refine Go.st (fun _ => XS.aload X15.here hx rfl (hb hby at_138) rfl rfl) ?_
      show Go p e below s _ _ _ T15 (mkF m 140 #[.val (.int xa), .val (.int xb), .val (.int xc), .val (.int fl), .val (.ref b1), .val (.ref b5), .val (.int (fl &&& (3 : Int32))), .val (.ref b5), .val (.ref b12), .val (.ref b5)] [(.ref b5), (.ref b5)])
      refine Go.st (fun _ => Jvm.RoadKit.acmp (g := (mkF m 140 #[.val (.int xa), .val (.int xb), .val (.int xc), .val (.int fl), .val (.ref b1), .val (.ref b5), .val (.int (fl &&& (3 : Int32))), .val (.ref b5), .val (.ref b12), .val (.ref b5)] [(.ref b5), (.ref b5)])) X15 hx rfl rfl rfl (pc0 := 140) (pc' := 143) (same := true) rfl (hb hby at_140) rfl (decide_eq_true rfl) (by decide) (by decide)) ?_
      show Go p e below s _ _ _ T15 (mkF m 143 #[.val (.int xa), .val (.int xb), .val (.int xc), .val (.int fl), .val (.ref b1), .val (.ref b5), .val (.int (fl &&& (3 : Int32))), .val (.ref b5), .val (.ref b12), .val (.ref b5)] [])
      refine Go.st (fun _ => XS.aload X15.here hx rfl (hb hby at_143) rfl rfl) ?_
      show Go p e below s _ _ _ T15 (mkF m 145 #[.val (.int xa), .val (.int xb), .val (.int xc), .val (.int fl), .val (.ref b1), .val (.ref b5), .val (.int (fl &&& (3 : Int32))), .val (.ref b5), .val (.ref b12), .val (.ref b5)] [(.ref b5)])
      have f16 := ((V_b5.ext E12).keep K14 (ninS ne_b5_b12 nin0))
      obtain ⟨cl17, Ar17, q17, S17, M17, H17, G17⟩ := id f16
      refine Go.st (fun t => X15.arraylength hx (by rw [e15]; exact Ar17.1) (State.isArrayOf_alike hZ.alike Ar17.2.1) (g := (mkF m 145 #[.val (.int xa), .val (.int xb), .val (.int xc), .val (.int fl), .val (.ref b1), .val (.ref b5), .val (.int (fl &&& (3 : Int32))), .val (.ref b5), .val (.ref b12), .val (.ref b5)] [(.ref b5)])) rfl rfl (hb hby at_145) t) ?_
      rw [len_of S17 M17]
      show Go p e below s _ _ _ T15 (mkF m 146 #[.val (.int xa), .val (.int xb), .val (.int xc), .val (.int fl), .val (.ref b1), .val (.ref b5), .val (.int (fl &&& (3 : Int32))), .val (.ref b5), .val (.ref b12), .val (.ref b5)] [(.int (0 : Int32))])
      refine Go.st (fun _ => XS.ifNo X15.here hx rfl (hb hby at_146) rfl ((if0 _ _).trans (teq (by decide : (0 : Int32) = (0 : Int32))).2)) ?_
      show Go p e below s _ _ _ T15 (mkF m 149 #[.val (.int xa), .val (.int xb), .val (.int xc), .val (.int fl), .val (.ref b1), .val (.ref b5), .val (.int (fl &&& (3 : Int32))), .val (.ref b5), .val (.ref b12), .val (.ref b5)] [])
      refine Go.st (fun _ => XS.iconst X15.here hx rfl (hb hby at_149)) ?_
      show Go p e below s _ _ _ T15 (mkF m 150 #[.val (.int xa), .val (.int xb), .val (.int xc), .val (.int fl), .val (.ref b1), .val (.ref b5), .val (.int (fl &&& (3 : Int32))), .val (.ref b5), .val (.ref b12), .val (.ref b5)] [(.int (1 : Int32))])
      refine Go.st (fun _ => XS.goto X15.here hx rfl (pc0 := 150) (pc' := 154) rfl (hb hby at_150) (by decide) (by decide)) ?_
      show Go p e below s _ _ _ T15 (mkF m 154 #[.val (.int xa), .val (.int xb), .val (.int xc), .val (.int fl), .val (.ref b1), .val (.ref b5), .val (.int (fl &&& (3 : Int32))), .val (.ref b5), .val (.ref b12), .val (.ref b5)] [(.int (1 : Int32))])
      exact Go.retZ X15 hx hlk Bd.returns (hb hby at_154) rfl (by rw [e15]; exact ⟨rfl, N15⟩) (by decide) (by decide)
    · refine Go.st (fun _ => XS.icmpYes X5.here hx rfl (pc0 := 47) (pc' := 57) rfl (hb hby at_47) rfl (feq hc11).2 (by decide) (by decide)) ?_
      show Go p e below s _ _ _ T5 (mkF m 57 #[.val (.int xa), .val (.int xb), .val (.int xc), .val (.int fl), .val (.ref b1), .val (.ref b5), .val (.int (fl &&& (3 : Int32))), .unset, .unset, .unset] [])
      refine Go.st (fun _ => XS.aload X5.here hx rfl (hb hby at_57) rfl rfl) ?_
      show Go p e below s _ _ _ T5 (mkF m 59 #[.val (.int xa), .val (.int xb), .val (.int xc), .val (.int fl), .val (.ref b1), .val (.ref b5), .val (.int (fl &&& (3 : Int32))), .unset, .unset, .unset] [(.ref b1)])
      refine Go.st (fun _ => XS.astore X5.here hx rfl (hb hby at_59) rfl rfl (l' := #[.val (.int xa), .val (.int xb), .val (.int xc), .val (.int fl), .val (.ref b1), .val (.ref b5), .val (.int (fl &&& (3 : Int32))), .val (.ref b1), .unset, .unset]) rfl) ?_
      show Go p e below s _ _ _ T5 (mkF m 61 #[.val (.int xa), .val (.int xb), .val (.int xc), .val (.int fl), .val (.ref b1), .val (.ref b5), .val (.int (fl &&& (3 : Int32))), .val (.ref b1), .unset, .unset] [])
      obtain ⟨T18, h18, X18, e18, E18, A18, D18, -, st18⟩ := newO X5 hx hZ hown (hw _ (List.mem_of_getElem? (i := 1) rfl)) (hw _ (List.mem_of_getElem? (i := 2) rfl)) (hw _ (List.mem_of_getElem? (i := 3) rfl)) e5 (g := (mkF m 61 #[.val (.int xa), .val (.int xb), .val (.int xc), .val (.int fl), .val (.ref b1), .val (.ref b5), .val (.int (fl &&& (3 : Int32))), .val (.ref b1), .unset, .unset] [])) rfl (hb hby at_61) (by decide) (by decide)
      obtain ⟨b18, g18⟩ : ∃ z, z = h5.size := ⟨_, rfl⟩
      rw [← g18] at A18 D18 st18
      refine Go.st st18 ?_
      have f19 := (V4.ext E5)
      have ne_b1_b18 : b1 ≠ b18 := Nat.ne_of_lt (Nat.lt_of_lt_of_eq f19.lt g18.symm)
      have ne_b5_b18 : b5 ≠ b18 := Nat.ne_of_lt (Nat.lt_of_lt_of_eq V_b5.lt g18.symm)
      have gg18 : n0 ≤ b18 := Nat.le_trans z5 (Nat.le_of_eq g18.symm)
      have z18 : n0 ≤ h18.size := Nat.le_trans z5 E18.1
      have F_bytes_b18 : Fld Z h18 b18 "com/example/plaingrant/plaingrant/server/http/Request$Body" "bytes" "[B" .null := D18 (Or.inr (hw _ (List.mem_of_getElem? (i := 16) rfl))) (ty := (.array .byte)) (by decide)
      have F_refusal_b18 : Fld Z h18 b18 "com/example/plaingrant/plaingrant/server/http/Request$Body" "refusal" "Lcom/example/plaingrant/plaingrant/server/http/ApiException;" .null := D18 (Or.inr (hw _ (List.mem_of_getElem? (i := 18) rfl))) (ty := (.object "com/example/plaingrant/plaingrant/server/http/ApiException")) (by decide)
      show Go p e below s _ _ _ T18 (mkF m 64 #[.val (.int xa), .val (.int xb), .val (.int xc), .val (.int fl), .val (.ref b1), .val (.ref b5), .val (.int (fl &&& (3 : Int32))), .val (.ref b1), .unset, .unset] [(.ref b18)])
      refine Go.st (fun _ => XS.dup X18.here hx rfl (hb hby at_64) rfl rfl) ?_
      show Go p e below s _ _ _ T18 (mkF m 65 #[.val (.int xa), .val (.int xb), .val (.int xc), .val (.int fl), .val (.ref b1), .val (.ref b5), .val (.int (fl &&& (3 : Int32))), .val (.ref b1), .unset, .unset] [(.ref b18), (.ref b18)])
      refine Go.st (fun _ => XS.aload X18.here hx rfl (hb hby at_65) rfl rfl) ?_
      show Go p e below s _ _ _ T18 (mkF m 67 #[.val (.int xa), .val (.int xb), .val (.int xc), .val (.int fl), .val (.ref b1), .val (.ref b5), .val (.int (fl &&& (3 : Int32))), .val (.ref b1), .unset, .unset] [(.ref b1), (.ref b18), (.ref b18)])
      refine Go.st (fun _ => XS.aconstNull X18.here hx rfl (hb hby at_67)) ?_
      show Go p e below s _ _ _ T18 (mkF m 68 #[.val (.int xa), .val (.int xb), .val (.int xc), .val (.int fl), .val (.ref b1), .val (.ref b5), .val (.int (fl &&& (3 : Int32))), .val (.ref b1), .unset, .unset] [.null, (.ref b1), (.ref b18), (.ref b18)])
      obtain ⟨_, _, ⟨T20, L20, kc20, nc20⟩, -, X20, ⟨Lc20, hQ20, l20, y20, z20⟩, st20⟩ := X18.specialBack hx (y := (⟨"com/example/plaingrant/plaingrant/server/http/Request$Body", "<init>", "([BLcom/example/plaingrant/plaingrant/server/http/ApiException;)V"⟩ : MethodName)) rfl hown (mvT hZ (hw _ (List.mem_of_getElem? (i := 4) rfl))) (mvT hZ (hw _ (List.mem_of_getElem? (i := 5) rfl))) (mvT hZ (hw _ (List.mem_of_getElem? (i := 6) rfl))) (by decide) (backOf (W := 1) (rmIr l Z a0 hw [] b18 b1 h18 n0 z18 A18 F_bytes_b18 F_refusal_b18 gg18) hZ (hw _ (List.mem_of_getElem? (i := 6) rfl)) (hw _ (List.mem_of_getElem? (i := 3) rfl)) (by decide) (by decide)) (g := (mkF m 68 #[.val (.int xa), .val (.int xb), .val (.int xc), .val (.int fl), .val (.ref b1), .val (.ref b5), .val (.int (fl &&& (3 : Int32))), .val (.ref b1), .unset, .unset] [.null, (.ref b1), (.ref b18), (.ref b18)])) rfl (by rw [hml]; rfl) (Steps.refl _) (a := b18) (argsL := [(.ref b1), .null]) (rest := [(.ref b18)]) (lenOf pd_1 rfl) rfl (by show 2 * 0 + _ ≤ _; exact Nat.le_of_eq rfl) (hb hby at_68) (fun _ _ => ⟨rfl, e18, (by decide : 3 + 0 ≤ _), (by decide : 5 + 0 ≤ _)⟩)
      dsimp only [Pt.U, Pt.locs, Pt.cells, Pt.slots] at X20 l20 y20 z20 st20 hQ20
      subst l20 y20 z20
      obtain ⟨h20, e20⟩ : ∃ hh, T20.heap = hh := ⟨_, rfl⟩
      rw [e20] at hQ20
      obtain ⟨rfl, N20q, K20, p20_0, p20_1, p20_2⟩ := hQ20
      have N20 := Fr.app N4 N20q
      refine Go.st (fun _ kk => st20.trans kk) ?_
      have z20q : n0 ≤ h20.size := Nat.le_trans z18 K20.1
      show Go p e below s _ _ _ T20 (mkF m 71 #[.val (.int xa), .val (.int xb), .val (.int xc), .val (.int fl), .val (.ref b1), .val (.ref b5), .val (.int (fl &&& (3 : Int32))), .val (.ref b1), .unset, .unset] [(.ref b18)])
      refine Go.st (fun _ => XS.astore X20.here hx rfl (hb hby at_71) rfl rfl (l' := #[.val (.int xa), .val (.int xb), .val (.int xc), .val (.int fl), .val (.ref b1), .val (.ref b5), .val (.int (fl &&& (3 : Int32))), .val (.ref b1), .val (.ref b18), .unset]) rfl) ?_
      show Go p e below s _ _ _ T20 (mkF m 73 #[.val (.int xa), .val (.int xb), .val (.int xc), .val (.int fl), .val (.ref b1), .val (.ref b5), .val (.int (fl &&& (3 : Int32))), .val (.ref b1), .val (.ref b18), .unset] [])
      refine Go.st (fun _ => XS.aload X20.here hx rfl (hb hby at_73) rfl rfl) ?_
      show Go p e below s _ _ _ T20 (mkF m 75 #[.val (.int xa), .val (.int xb), .val (.int xc), .val (.int fl), .val (.ref b1), .val (.ref b5), .val (.int (fl &&& (3 : Int32))), .val (.ref b1), .val (.ref b18), .unset] [(.ref b18)])
      obtain ⟨cq21, kq21, q21a, q21b, q21c⟩ := isOf hZ e20 p20_0
      obtain ⟨_, _, ⟨T21, L21, kc21, nc21⟩, -, X21, ⟨Lc21, hQ21, l21, y21, z21⟩, st21⟩ := X20.virtualBack hx (y := (⟨"com/example/plaingrant/plaingrant/server/http/Request$Body", "take", "()[B"⟩ : MethodName)) (z := (⟨"com/example/plaingrant/plaingrant/server/http/Request$Body", "take", "()[B"⟩ : MethodName)) hown (mvT hZ (hw _ (List.mem_of_getElem? (i := 19) rfl))) (mvT hZ (hw _ (List.mem_of_getElem? (i := 20) rfl))) (notFace_of_selects (args := #[]) (mvT hZ (hw _ (List.mem_of_getElem? (i := 22) rfl)))) (mvT hZ (hw _ (List.mem_of_getElem? (i := 22) rfl))) (mvT hZ (hw _ (List.mem_of_getElem? (i := 21) rfl))) (by decide) (backOf (W := 0) (rmTr l Z a0 hw [] b18 b1 h20 n0 z20q p20_1 p20_2) hZ (hw _ (List.mem_of_getElem? (i := 23) rfl)) (hw _ (List.mem_of_getElem? (i := 3) rfl)) (by decide) (by decide)) q21a q21c (g := (mkF m 75 #[.val (.int xa), .val (.int xb), .val (.int xc), .val (.int fl), .val (.ref b1), .val (.ref b5), .val (.int (fl &&& (3 : Int32))), .val (.ref b1), .val (.ref b18), .unset] [(.ref b18)])) rfl (by rw [hml]; rfl) (Steps.refl _) (argsL := []) (rest := []) (lenOf pd_2 rfl) rfl (by show 2 * 0 + _ ≤ _; exact Nat.le_of_eq rfl) (hb hby at_75) (fun _ _ => ⟨rfl, e20, (by decide : 3 + 0 ≤ _), (by decide : 5 + 0 ≤ _)⟩)
      dsimp only [Pt.U, Pt.locs, Pt.cells, Pt.slots] at X21 l21 y21 z21 st21 hQ21
      subst l21 y21 z21
      obtain ⟨h21, e21⟩ : ∃ hh, T21.heap = hh := ⟨_, rfl⟩
      rw [e21] at hQ21
      obtain ⟨rfl, N21q, s21⟩ := hQ21
      have N21 := Fr.app N20 N21q
      refine Go.st (fun _ kk => st21.trans kk) ?_
      rw [s21] at e21
      show Go p e below s _ _ _ T21 (mkF m 78 #[.val (.int xa), .val (.int xb), .val (.int xc), .val (.int fl), .val (.ref b1), .val (.ref b5), .val (.int (fl &&& (3 : Int32))), .val (.ref b1), .val (.ref b18), .unset] [(.ref b1)])
      refine Go.st (fun _ => XS.astore X21.here hx rfl (hb hby at_78) rfl rfl (l' := #[.val (.int xa), .val (.int xb), .val (.int xc), .val (.int fl), .val (.ref b1), .val (.ref b5), .val (.int (fl &&& (3 : Int32))), .val (.ref b1), .val (.ref b18), .val (.ref b1)]) rfl) ?_
      show Go p e below s _ _ _ T21 (mkF m 80 #[.val (.int xa), .val (.int xb), .val (.int xc), .val (.int fl), .val (.ref b1), .val (.ref b5), .val (.int (fl &&& (3 : Int32))), .val (.ref b1), .val (.ref b18), .val (.ref b1)] [])
      refine Go.st (fun _ => XS.aload X21.here hx rfl (hb hby at_80) rfl rfl) ?_
      show Go p e below s _ _ _ T21 (mkF m 82 #[.val (.int xa), .val (.int xb), .val (.int xc), .val (.int fl), .val (.ref b1), .val (.ref b5), .val (.int (fl &&& (3 : Int32))), .val (.ref b1), .val (.ref b18), .val (.ref b1)] [(.ref b1)])
      refine Go.st (fun _ => XS.aload X21.here hx rfl (hb hby at_82) rfl rfl) ?_
      show Go p e below s _ _ _ T21 (mkF m 84 #[.val (.int xa), .val (.int xb), .val (.int xc), .val (.int fl), .val (.ref b1), .val (.ref b5), .val (.int (fl &&& (3 : Int32))), .val (.ref b1), .val (.ref b18), .val (.ref b1)] [(.ref b1), (.ref b1)])
      refine Go.st (fun _ => Jvm.RoadKit.acmp (g := (mkF m 84 #[.val (.int xa), .val (.int xb), .val (.int xc), .val (.int fl), .val (.ref b1), .val (.ref b5), .val (.int (fl &&& (3 : Int32))), .val (.ref b1), .val (.ref b18), .val (.ref b1)] [(.ref b1), (.ref b1)])) X21 hx rfl rfl rfl (pc0 := 84) (pc' := 89) (same := true) rfl (hb hby at_84) rfl (decide_eq_true rfl) (by decide) (by decide)) ?_
      show Go p e below s _ _ _ T21 (mkF m 89 #[.val (.int xa), .val (.int xb), .val (.int xc), .val (.int fl), .val (.ref b1), .val (.ref b5), .val (.int (fl &&& (3 : Int32))), .val (.ref b1), .val (.ref b18), .val (.ref b1)] [])
      refine Go.st (fun _ => XS.aload X21.here hx rfl (hb hby at_89) rfl rfl) ?_
      show Go p e below s _ _ _ T21 (mkF m 91 #[.val (.int xa), .val (.int xb), .val (.int xc), .val (.int fl), .val (.ref b1), .val (.ref b5), .val (.int (fl &&& (3 : Int32))), .val (.ref b1), .val (.ref b18), .val (.ref b1)] [(.ref b1)])
      refine Go.st (fun _ => XS.aload X21.here hx rfl (hb hby at_91) rfl rfl) ?_
      show Go p e below s _ _ _ T21 (mkF m 93 #[.val (.int xa), .val (.int xb), .val (.int xc), .val (.int fl), .val (.ref b1), .val (.ref b5), .val (.int (fl &&& (3 : Int32))), .val (.ref b1), .val (.ref b18), .val (.ref b1)] [(.ref b1), (.ref b1)])
      refine Go.st (fun _ => Jvm.RoadKit.acmp (g := (mkF m 93 #[.val (.int xa), .val (.int xb), .val (.int xc), .val (.int fl), .val (.ref b1), .val (.ref b5), .val (.int (fl &&& (3 : Int32))), .val (.ref b1), .val (.ref b18), .val (.ref b1)] [(.ref b1), (.ref b1)])) X21 hx rfl rfl rfl (pc0 := 93) (pc' := 96) (same := true) rfl (hb hby at_93) rfl (decide_eq_true rfl) (by decide) (by decide)) ?_
      show Go p e below s _ _ _ T21 (mkF m 96 #[.val (.int xa), .val (.int xb), .val (.int xc), .val (.int fl), .val (.ref b1), .val (.ref b5), .val (.int (fl &&& (3 : Int32))), .val (.ref b1), .val (.ref b18), .val (.ref b1)] [])
      refine Go.st (fun _ => XS.aload X21.here hx rfl (hb hby at_96) rfl rfl) ?_
      show Go p e below s _ _ _ T21 (mkF m 98 #[.val (.int xa), .val (.int xb), .val (.int xc), .val (.int fl), .val (.ref b1), .val (.ref b5), .val (.int (fl &&& (3 : Int32))), .val (.ref b1), .val (.ref b18), .val (.ref b1)] [(.ref b1)])
      have f22 := ((f19.ext E18).keep K20 (ninS ne_b1_b18 nin0))
      obtain ⟨cl23, Ar23, q23, S23, M23, H23, G23⟩ := id f22
      refine Go.st (fun t => X21.arraylength hx (by rw [e21]; exact Ar23.1) (State.isArrayOf_alike hZ.alike Ar23.2.1) (g := (mkF m 98 #[.val (.int xa), .val (.int xb), .val (.int xc), .val (.int fl), .val (.ref b1), .val (.ref b5), .val (.int (fl &&& (3 : Int32))), .val (.ref b1), .val (.ref b18), .val (.ref b1)] [(.ref b1)])) rfl rfl (hb hby at_98) t) ?_
      rw [len_of S23 M23]
      show Go p e below s _ _ _ T21 (mkF m 99 #[.val (.int xa), .val (.int xb), .val (.int xc), .val (.int fl), .val (.ref b1), .val (.ref b5), .val (.int (fl &&& (3 : Int32))), .val (.ref b1), .val (.ref b18), .val (.ref b1)] [(.int (3 : Int32))])
      refine Go.st (fun _ => XS.iconst X21.here hx rfl (hb hby at_99)) ?_
      show Go p e below s _ _ _ T21 (mkF m 100 #[.val (.int xa), .val (.int xb), .val (.int xc), .val (.int fl), .val (.ref b1), .val (.ref b5), .val (.int (fl &&& (3 : Int32))), .val (.ref b1), .val (.ref b18), .val (.ref b1)] [(.int (3 : Int32)), (.int (3 : Int32))])
      refine Go.st (fun _ => XS.icmpNo X21.here hx rfl (hb hby at_100) rfl (teq (by decide : (3 : Int32) = (3 : Int32))).2) ?_
      show Go p e below s _ _ _ T21 (mkF m 103 #[.val (.int xa), .val (.int xb), .val (.int xc), .val (.int fl), .val (.ref b1), .val (.ref b5), .val (.int (fl &&& (3 : Int32))), .val (.ref b1), .val (.ref b18), .val (.ref b1)] [])
      refine Go.st (fun _ => XS.aload X21.here hx rfl (hb hby at_103) rfl rfl) ?_
      show Go p e below s _ _ _ T21 (mkF m 105 #[.val (.int xa), .val (.int xb), .val (.int xc), .val (.int fl), .val (.ref b1), .val (.ref b5), .val (.int (fl &&& (3 : Int32))), .val (.ref b1), .val (.ref b18), .val (.ref b1)] [(.ref b1)])
      refine Go.st (fun _ => XS.iconst X21.here hx rfl (hb hby at_105)) ?_
      show Go p e below s _ _ _ T21 (mkF m 106 #[.val (.int xa), .val (.int xb), .val (.int xc), .val (.int fl), .val (.ref b1), .val (.ref b5), .val (.int (fl &&& (3 : Int32))), .val (.ref b1), .val (.ref b18), .val (.ref b1)] [(.int (0 : Int32)), (.ref b1)])
      obtain ⟨cl24, Ar24, q24, S24, M24, H24, G24⟩ := id f22
      have hin24 : ¬ ((0 : Int32) < 0 ∨ cl24.slots.size ≤ ((0 : Int32)).toNatClampNeg) := inb_of S24 ⟨by decide, by decide⟩
      have hat24 : cl24.slots[((0 : Int32)).toNatClampNeg]? = some (.int (xa.toInt8.toInt32)) := H24.at hin24 rfl
      refine Go.st (fun t => X21.baloadBytes hx (j := (0 : Int32)) (v := (.int (xa.toInt8.toInt32))) (by rw [e21]; exact Ar24.1) (State.isArrayOf_alike hZ.alike Ar24.2.1) Ar24.2.2 hin24 hat24 (g := (mkF m 106 #[.val (.int xa), .val (.int xb), .val (.int xc), .val (.int fl), .val (.ref b1), .val (.ref b5), .val (.int (fl &&& (3 : Int32))), .val (.ref b1), .val (.ref b18), .val (.ref b1)] [(.int (0 : Int32)), (.ref b1)])) rfl rfl (hb hby at_106) t) ?_
      show Go p e below s _ _ _ T21 (mkF m 107 #[.val (.int xa), .val (.int xb), .val (.int xc), .val (.int fl), .val (.ref b1), .val (.ref b5), .val (.int (fl &&& (3 : Int32))), .val (.ref b1), .val (.ref b18), .val (.ref b1)] [(.int (xa.toInt8.toInt32))])
      refine Go.st (fun _ => XS.iloadN X21.here hx rfl (hb hby at_107) rfl) ?_
      show Go p e below s _ _ _ T21 (mkF m 108 #[.val (.int xa), .val (.int xb), .val (.int xc), .val (.int fl), .val (.ref b1), .val (.ref b5), .val (.int (fl &&& (3 : Int32))), .val (.ref b1), .val (.ref b18), .val (.ref b1)] [(.int xa), (.int (xa.toInt8.toInt32))])
      refine Go.st (fun _ => XS.i2b X21.here hx rfl (hb hby at_108) rfl) ?_
      show Go p e below s _ _ _ T21 (mkF m 109 #[.val (.int xa), .val (.int xb), .val (.int xc), .val (.int fl), .val (.ref b1), .val (.ref b5), .val (.int (fl &&& (3 : Int32))), .val (.ref b1), .val (.ref b18), .val (.ref b1)] [(.int (xa.toInt8.toInt32)), (.int (xa.toInt8.toInt32))])
      refine Go.st (fun _ => XS.icmpNo X21.here hx rfl (hb hby at_109) rfl (teq (rfl : (xa.toInt8.toInt32) = (xa.toInt8.toInt32))).2) ?_
      show Go p e below s _ _ _ T21 (mkF m 112 #[.val (.int xa), .val (.int xb), .val (.int xc), .val (.int fl), .val (.ref b1), .val (.ref b5), .val (.int (fl &&& (3 : Int32))), .val (.ref b1), .val (.ref b18), .val (.ref b1)] [])
      refine Go.st (fun _ => XS.aload X21.here hx rfl (hb hby at_112) rfl rfl) ?_
      show Go p e below s _ _ _ T21 (mkF m 114 #[.val (.int xa), .val (.int xb), .val (.int xc), .val (.int fl), .val (.ref b1), .val (.ref b5), .val (.int (fl &&& (3 : Int32))), .val (.ref b1), .val (.ref b18), .val (.ref b1)] [(.ref b1)])
      refine Go.st (fun _ => XS.iconst X21.here hx rfl (hb hby at_114)) ?_
      show Go p e below s _ _ _ T21 (mkF m 115 #[.val (.int xa), .val (.int xb), .val (.int xc), .val (.int fl), .val (.ref b1), .val (.ref b5), .val (.int (fl &&& (3 : Int32))), .val (.ref b1), .val (.ref b18), .val (.ref b1)] [(.int (1 : Int32)), (.ref b1)])
      obtain ⟨cl25, Ar25, q25, S25, M25, H25, G25⟩ := id f22
      have hin25 : ¬ ((1 : Int32) < 0 ∨ cl25.slots.size ≤ ((1 : Int32)).toNatClampNeg) := inb_of S25 ⟨by decide, by decide⟩
      have hat25 : cl25.slots[((1 : Int32)).toNatClampNeg]? = some (.int (xb.toInt8.toInt32)) := H25.at hin25 rfl
      refine Go.st (fun t => X21.baloadBytes hx (j := (1 : Int32)) (v := (.int (xb.toInt8.toInt32))) (by rw [e21]; exact Ar25.1) (State.isArrayOf_alike hZ.alike Ar25.2.1) Ar25.2.2 hin25 hat25 (g := (mkF m 115 #[.val (.int xa), .val (.int xb), .val (.int xc), .val (.int fl), .val (.ref b1), .val (.ref b5), .val (.int (fl &&& (3 : Int32))), .val (.ref b1), .val (.ref b18), .val (.ref b1)] [(.int (1 : Int32)), (.ref b1)])) rfl rfl (hb hby at_115) t) ?_
      show Go p e below s _ _ _ T21 (mkF m 116 #[.val (.int xa), .val (.int xb), .val (.int xc), .val (.int fl), .val (.ref b1), .val (.ref b5), .val (.int (fl &&& (3 : Int32))), .val (.ref b1), .val (.ref b18), .val (.ref b1)] [(.int (xb.toInt8.toInt32))])
      refine Go.st (fun _ => XS.iloadN X21.here hx rfl (hb hby at_116) rfl) ?_
      show Go p e below s _ _ _ T21 (mkF m 117 #[.val (.int xa), .val (.int xb), .val (.int xc), .val (.int fl), .val (.ref b1), .val (.ref b5), .val (.int (fl &&& (3 : Int32))), .val (.ref b1), .val (.ref b18), .val (.ref b1)] [(.int xb), (.int (xb.toInt8.toInt32))])
      refine Go.st (fun _ => XS.i2b X21.here hx rfl (hb hby at_117) rfl) ?_
      show Go p e below s _ _ _ T21 (mkF m 118 #[.val (.int xa), .val (.int xb), .val (.int xc), .val (.int fl), .val (.ref b1), .val (.ref b5), .val (.int (fl &&& (3 : Int32))), .val (.ref b1), .val (.ref b18), .val (.ref b1)] [(.int (xb.toInt8.toInt32)), (.int (xb.toInt8.toInt32))])
      refine Go.st (fun _ => XS.icmpNo X21.here hx rfl (hb hby at_118) rfl (teq (rfl : (xb.toInt8.toInt32) = (xb.toInt8.toInt32))).2) ?_
      show Go p e below s _ _ _ T21 (mkF m 121 #[.val (.int xa), .val (.int xb), .val (.int xc), .val (.int fl), .val (.ref b1), .val (.ref b5), .val (.int (fl &&& (3 : Int32))), .val (.ref b1), .val (.ref b18), .val (.ref b1)] [])
      refine Go.st (fun _ => XS.aload X21.here hx rfl (hb hby at_121) rfl rfl) ?_
      show Go p e below s _ _ _ T21 (mkF m 123 #[.val (.int xa), .val (.int xb), .val (.int xc), .val (.int fl), .val (.ref b1), .val (.ref b5), .val (.int (fl &&& (3 : Int32))), .val (.ref b1), .val (.ref b18), .val (.ref b1)] [(.ref b1)])
      refine Go.st (fun _ => XS.iconst X21.here hx rfl (hb hby at_123)) ?_
      show Go p e below s _ _ _ T21 (mkF m 124 #[.val (.int xa), .val (.int xb), .val (.int xc), .val (.int fl), .val (.ref b1), .val (.ref b5), .val (.int (fl &&& (3 : Int32))), .val (.ref b1), .val (.ref b18), .val (.ref b1)] [(.int (2 : Int32)), (.ref b1)])
      obtain ⟨cl26, Ar26, q26, S26, M26, H26, G26⟩ := id f22
      have hin26 : ¬ ((2 : Int32) < 0 ∨ cl26.slots.size ≤ ((2 : Int32)).toNatClampNeg) := inb_of S26 ⟨by decide, by decide⟩
      have hat26 : cl26.slots[((2 : Int32)).toNatClampNeg]? = some (.int (xc.toInt8.toInt32)) := H26.at hin26 rfl
      refine Go.st (fun t => X21.baloadBytes hx (j := (2 : Int32)) (v := (.int (xc.toInt8.toInt32))) (by rw [e21]; exact Ar26.1) (State.isArrayOf_alike hZ.alike Ar26.2.1) Ar26.2.2 hin26 hat26 (g := (mkF m 124 #[.val (.int xa), .val (.int xb), .val (.int xc), .val (.int fl), .val (.ref b1), .val (.ref b5), .val (.int (fl &&& (3 : Int32))), .val (.ref b1), .val (.ref b18), .val (.ref b1)] [(.int (2 : Int32)), (.ref b1)])) rfl rfl (hb hby at_124) t) ?_
      show Go p e below s _ _ _ T21 (mkF m 125 #[.val (.int xa), .val (.int xb), .val (.int xc), .val (.int fl), .val (.ref b1), .val (.ref b5), .val (.int (fl &&& (3 : Int32))), .val (.ref b1), .val (.ref b18), .val (.ref b1)] [(.int (xc.toInt8.toInt32))])
      refine Go.st (fun _ => XS.iloadN X21.here hx rfl (hb hby at_125) rfl) ?_
      show Go p e below s _ _ _ T21 (mkF m 126 #[.val (.int xa), .val (.int xb), .val (.int xc), .val (.int fl), .val (.ref b1), .val (.ref b5), .val (.int (fl &&& (3 : Int32))), .val (.ref b1), .val (.ref b18), .val (.ref b1)] [(.int xc), (.int (xc.toInt8.toInt32))])
      refine Go.st (fun _ => XS.i2b X21.here hx rfl (hb hby at_126) rfl) ?_
      show Go p e below s _ _ _ T21 (mkF m 127 #[.val (.int xa), .val (.int xb), .val (.int xc), .val (.int fl), .val (.ref b1), .val (.ref b5), .val (.int (fl &&& (3 : Int32))), .val (.ref b1), .val (.ref b18), .val (.ref b1)] [(.int (xc.toInt8.toInt32)), (.int (xc.toInt8.toInt32))])
      refine Go.st (fun _ => XS.icmpNo X21.here hx rfl (hb hby at_127) rfl (teq (rfl : (xc.toInt8.toInt32) = (xc.toInt8.toInt32))).2) ?_
      show Go p e below s _ _ _ T21 (mkF m 130 #[.val (.int xa), .val (.int xb), .val (.int xc), .val (.int fl), .val (.ref b1), .val (.ref b5), .val (.int (fl &&& (3 : Int32))), .val (.ref b1), .val (.ref b18), .val (.ref b1)] [])
      refine Go.st (fun _ => XS.iconst X21.here hx rfl (hb hby at_130)) ?_
      show Go p e below s _ _ _ T21 (mkF m 131 #[.val (.int xa), .val (.int xb), .val (.int xc), .val (.int fl), .val (.ref b1), .val (.ref b5), .val (.int (fl &&& (3 : Int32))), .val (.ref b1), .val (.ref b18), .val (.ref b1)] [(.int (1 : Int32))])
      refine Go.st (fun _ => XS.goto X21.here hx rfl (pc0 := 131) (pc' := 135) rfl (hb hby at_131) (by decide) (by decide)) ?_
      show Go p e below s _ _ _ T21 (mkF m 135 #[.val (.int xa), .val (.int xb), .val (.int xc), .val (.int fl), .val (.ref b1), .val (.ref b5), .val (.int (fl &&& (3 : Int32))), .val (.ref b1), .val (.ref b18), .val (.ref b1)] [(.int (1 : Int32))])
      exact Go.retZ X21 hx hlk Bd.returns (hb hby at_135) rfl (by rw [e21]; exact ⟨rfl, N21⟩) (by decide) (by decide)
set_option maxRecDepth 65536 in
set_option maxHeartbeats 40000000 in
theorem comes_1 {Post : Tables → Env → Array Value → State → Outcome → State → Prop} (hpost : ∀ tb e args s v u, (limb_1_1.after args s (.returned v) u = true ∧ limb_1_2.after args s (.returned v) u = true ∧ True) → FrameEnd s (.returned v) u (Jvm.fieldLocs frame_1_writes args s ++ Jvm.arrayLocs frame_1_arrays args s ++ Jvm.staticLocs frame_1_statics s) 16 128 → Post tb e args s (.returned v) u) :
    ArmFor flags0 classFile x code maxLocals ret World_1 tables_1 room_1 Calls_1 rest_1 Pre_1 Post := by
  intro l hfl _ _ p e ha hc hk s m args below hf hA hF happ hP
  obtain ⟨hcalls, hrest, hpre⟩ := hP
  obtain ⟨-, -, -, hnamed, -, -, -, hat⟩ := (Spec.applies_iff hf).mp happ
  obtain ⟨hg, hn⟩ := and_e (Cond.before_iff.mp (show (Jvm.Cond.and given_1 narrow_1).before args s = true from hpre))
  obtain ⟨g1, g2⟩ := and_e hg
  obtain ⟨g3, g4⟩ := and_e g2
  obtain ⟨g5, g6⟩ := and_e g4
  obtain ⟨g7, g8⟩ := and_e g6
  obtain ⟨w0, w1, w2, w3, rfl⟩ : ∃ w0 w1 w2 w3 : Value, args = #[w0, w1, w2, w3] := by
    have hs : args.size = 4 := by simpa [Cond.value, given_1] using g1
    obtain ⟨L⟩ := args
    match L, hs with
    | [w0, w1, w2, w3], _ => exact ⟨w0, w1, w2, w3, rfl⟩
  have hw := fun d (hd : d ∈ tables_1) => atoms_spec (ws := Jvm.Cond.code x code maxLocals ret :: tables_1) hat d (List.mem_cons_of_mem _ hd)
  have hfit : Fit s := fun {y c} hc i hi => by
    obtain ⟨ha, rfl⟩ := Array.getElem?_eq_some_iff.mp hc
    have q := List.all_eq_true.mp ((Array.all_eq_true_iff_forall_mem.mp hF) _ (Array.getElem_mem ha)) i (List.mem_range.mpr hi)
    simpa [Array.getElem?_eq_getElem hi] using q
  obtain ⟨i0, ei0⟩ := is_v g3
  obtain rfl : w0 = (.int i0) := Option.some.inj ei0
  obtain ⟨i1, ei1⟩ := is_v g5
  obtain rfl : w1 = (.int i1) := Option.some.inj ei1
  obtain ⟨i2, ei2⟩ := is_v g7
  obtain rfl : w2 = (.int i2) := Option.some.inj ei2
  obtain ⟨i3, ei3⟩ := is_v g8
  obtain rfl : w3 = (.int i3) := Option.some.inj ei3
  obtain ⟨n, o, h1, h2, h3, _, L, rfl, ⟨rfl, N⟩, hq⟩ := rm0 l s _ hw tables_1 i0 i1 i2 i3 s.heap s.heap.size (Nat.le_refl _)  p e ha hc hk s m _ below hf ((Spec.applies_iff_loose hf).mp happ).1 ⟨rfl, State.Warmed39.refl s, rfl⟩ trivial
  refine ⟨n, _, h1, h2, h3, hpost _ _ _ _ _ _ ⟨Cond.after_iff.mpr rfl, Cond.after_iff.mpr (eq_i res_at (Term.int_eval (1)) rfl), trivial⟩ ⟨hq.1, hq.2.1, (hq.2.2.sift fun y hy => Or.inr (N y hy)).mono (by decide) (by decide)⟩⟩
theorem main_1_1 : Claimed_1_1 := comes_1 fun _ _ _ _ _ _ h hF => ⟨h.1, hF⟩
theorem main_1_2 : Claimed_1_2 := comes_1 fun _ _ _ _ _ _ h hF => ⟨h.2.1, hF⟩
end Jvm.Pilot.@@N@@
namespace Jvm.Pilot.@@N@@
open Jvm Jvm.ClassFile Sem Op Lib Jvm.Free Jvm.Stand Jvm.Pilot.@@N@@.Jvm.D
/-! MADE BY PROGRAM (witnessworld.py) out of the Statement's table words and the real class files: 10 classes; the members and pool entries that the words name. The judged class is class 1, her method 1. -/
namespace start1
open Jvm.ClassFile
def u (s : String) : CpInfo := .utf8 (stringToUtf16 s)
/-- a pool by its gaps: so many unusable entries, then the entry; so many at the end -/
def gap : Nat → List CpInfo → List CpInfo
  | 0, r => r
  | n + 1, r => .unusable :: gap n r
def poolList (es : List (Nat × CpInfo)) (last : Nat) : List CpInfo := es.foldr (fun e r => gap e.1 (e.2 :: r)) (gap last [])
def pool (es : List (Nat × CpInfo)) (last : Nat) : Array CpInfo := ⟨poolList es last⟩
def fileOf (pool : Array CpInfo) (this : Nat) (attrs : Array Attribute := #[]) (ms : Array MethodInfo := #[]) (fl : Nat := 33) (sup : Nat := 0) (ifs : Array Nat := #[]) (fds : Array FieldInfo := #[]) : ClassFile where
  minorVersion := 0
  majorVersion := 65
  constantPool := pool
  accessFlags := fl
  thisClass := this
  superClass := sup
  interfaces := ifs
  fields := fds
  methods := ms
  attributes := attrs
def plain (name : String) (sup : Option ClassId) : Class where
  name := name
  kind := .ordinary
  loader := none
  accessFlags := 33
  super := sup
  interfaces := #[]
  cf := none
  fields := #[]
  methods := #[]
  instanceTypes := #[]
  staticTypes := #[]
  resolved := #[]
  callSites := []
  init := .initialized
  statics := none
  mirror := none

def pool0 : Array CpInfo := pool [(5, u "<init>"), (0, u "()V"), (1, .class_ 10), (1, u "java/lang/Object")] 113

def k0c0 : Code := { maxStack := 0, maxLocals := 1, code := object_method_1_code, exceptionTable := #[], attributes := #[] }
def k0m0 : Method := { name := "<init>", desc := "()V", sig := { parameters := [], returnType := none }, accessFlags := 1, code := some k0c0 }
/-- java/lang/Object -/
def k0 : Class := { plain "java/lang/Object" none with
  accessFlags := 33
  interfaces := #[]
  cf := some (fileOf pool0 8 #[] #[{ accessFlags := 1, nameIndex := 5, descriptorIndex := 6, attributes := #[] }] 33 0 #[] #[])
  fields := #[]
  methods := #[k0m0]
  instanceTypes := #[]
  staticTypes := #[]
  resolved := Array.replicate 124 none
  statics := none }

def pool1 : Array CpInfo := pool [(2, .class_ 4), (1, u "java/lang/Object"), (0, u "<init>"), (0, u "()V"), (0, .class_ 8), (0, u "com/example/plaingrant/plaingrant/server/http/Request$Body"), (0, .methodref 7 10), (0, .nameAndType 5 11), (0, u "([BLcom/example/plaingrant/plaingrant/server/http/ApiException;)V"), (0, .methodref 7 13), (0, .nameAndType 14 15), (0, u "take"), (0, u "()[B"), (0, .class_ 17), (0, u "com/example/plaingrant/plaingrant/server/http/BodyTakePinLaw"), (2, u "law"), (0, u "(IIII)Z")] 12

def k1m0 : Method := { name := "<init>", desc := "()V", sig := { parameters := [], returnType := none }, accessFlags := 1, code := none }
def k1c1 : Code := { maxStack := 4, maxLocals := 10, code := code, exceptionTable := #[], attributes := #[] }
def k1m1 : Method := { name := "law", desc := "(IIII)Z", sig := { parameters := [.int, .int, .int, .int], returnType := some .boolean }, accessFlags := 9, code := some k1c1 }
/-- com/example/plaingrant/plaingrant/server/http/BodyTakePinLaw -/
def k1 : Class := { plain "com/example/plaingrant/plaingrant/server/http/BodyTakePinLaw" (some 0) with
  accessFlags := 49
  interfaces := #[]
  cf := some (fileOf pool1 16 #[] #[{ accessFlags := 1, nameIndex := 5, descriptorIndex := 6, attributes := #[] }, { accessFlags := 9, nameIndex := 20, descriptorIndex := 21, attributes := #[] }] 49 2 #[] #[])
  fields := #[]
  methods := #[k1m0, k1m1]
  instanceTypes := #[]
  staticTypes := #[]
  resolved := Array.replicate 34 none
  statics := none }

def pool2 : Array CpInfo := pool [(1, .methodref 2 3), (0, .class_ 4), (0, .nameAndType 5 6), (0, u "java/lang/Object"), (0, u "<init>"), (0, u "()V"), (0, .class_ 8), (0, u "java/lang/Record")] 13

def k2c0 : Code := { maxStack := 1, maxLocals := 1, code := jdk_30_method_1_code, exceptionTable := #[], attributes := #[] }
def k2m0 : Method := { name := "<init>", desc := "()V", sig := { parameters := [], returnType := none }, accessFlags := 4, code := some k2c0 }
/-- java/lang/Record -/
def k2 : Class := { plain "java/lang/Record" (some 0) with
  accessFlags := 1057
  interfaces := #[]
  cf := some (fileOf pool2 7 #[] #[{ accessFlags := 4, nameIndex := 5, descriptorIndex := 6, attributes := #[] }] 1057 2 #[] #[])
  fields := #[]
  methods := #[k2m0]
  instanceTypes := #[]
  staticTypes := #[]
  resolved := Array.replicate 22 none
  statics := none }

def pool3 : Array CpInfo := pool [(1, .methodref 2 3), (0, .class_ 4), (0, .nameAndType 5 6), (0, u "java/lang/Record"), (0, u "<init>"), (0, u "()V"), (0, .fieldref 8 9), (0, .class_ 10), (0, .nameAndType 11 12), (0, u "com/example/plaingrant/plaingrant/server/http/Request$Body"), (0, u "bytes"), (0, u "[B"), (0, .fieldref 8 14), (0, .nameAndType 15 16), (0, u "refusal"), (0, u "Lcom/example/plaingrant/plaingrant/server/http/ApiException;"), (2, u "([BLcom/example/plaingrant/plaingrant/server/http/ApiException;)V"), (22, u "take"), (0, u "()[B"), (10, .class_ 55), (0, u "com/example/plaingrant/plaingrant/server/http/Request")] 20

def k3c0 : Code := { maxStack := 2, maxLocals := 3, code := prog_36_method_1_code, exceptionTable := #[], attributes := #[] }
def k3m0 : Method := { name := "<init>", desc := "([BLcom/example/plaingrant/plaingrant/server/http/ApiException;)V", sig := { parameters := [(.array .byte), (.object "com/example/plaingrant/plaingrant/server/http/ApiException")], returnType := none }, accessFlags := 1, code := some k3c0 }
def k3c1 : Code := { maxStack := 1, maxLocals := 1, code := prog_36_method_5_code, exceptionTable := #[], attributes := #[] }
def k3m1 : Method := { name := "take", desc := "()[B", sig := { parameters := [], returnType := some (.array .byte) }, accessFlags := 1, code := some k3c1 }
/-- com/example/plaingrant/plaingrant/server/http/Request$Body -/
def k3 : Class := { plain "com/example/plaingrant/plaingrant/server/http/Request$Body" (some 2) with
  accessFlags := 49
  interfaces := #[]
  cf := some (fileOf pool3 8 #[.nestHost 54] #[{ accessFlags := 1, nameIndex := 5, descriptorIndex := 19, attributes := #[] }, { accessFlags := 1, nameIndex := 42, descriptorIndex := 43, attributes := #[] }] 49 2 #[] #[{ accessFlags := 18, nameIndex := 11, descriptorIndex := 12, attributes := #[] }, { accessFlags := 18, nameIndex := 15, descriptorIndex := 16, attributes := #[] }])
  fields := #[{ name := "bytes", type := (.array .byte), accessFlags := 18, slot := 0, constantValue := 0 }, { name := "refusal", type := (.object "com/example/plaingrant/plaingrant/server/http/ApiException"), accessFlags := 18, slot := 1, constantValue := 0 }]
  methods := #[k3m0, k3m1]
  instanceTypes := #[(.array .byte), (.object "com/example/plaingrant/plaingrant/server/http/ApiException")]
  staticTypes := #[]
  resolved := Array.replicate 76 none
  statics := none }

def pool4 : Array CpInfo := pool [(1, u "java/lang/Cloneable"), (0, .class_ 1), (0, u "java/lang/Object"), (0, .class_ 3)] 3

/-- java/lang/Cloneable -/
def k4 : Class := { plain "java/lang/Cloneable" (some 0) with
  accessFlags := 1537
  interfaces := #[]
  cf := some (fileOf pool4 2 #[] #[] 1537 4 #[] #[])
  fields := #[]
  methods := #[]
  instanceTypes := #[]
  staticTypes := #[]
  resolved := Array.replicate 8 none
  statics := none }

def pool5 : Array CpInfo := pool [(1, u "java/io/Serializable"), (0, .class_ 1), (0, u "java/lang/Object"), (0, .class_ 3)] 3

/-- java/io/Serializable -/
def k5 : Class := { plain "java/io/Serializable" (some 0) with
  accessFlags := 1537
  interfaces := #[]
  cf := some (fileOf pool5 2 #[] #[] 1537 4 #[] #[])
  fields := #[]
  methods := #[]
  instanceTypes := #[]
  staticTypes := #[]
  resolved := Array.replicate 8 none
  statics := none }

/-- the primitive byte -/
def k6 : Class := { plain "byte" none with kind := .primitive 'B', accessFlags := 0x411 }
/-- [B -/
def k7 : Class := { plain "[B" (some 0) with kind := .array 6 .byte, interfaces := #[4, 5], accessFlags := 1041 }

/-- the primitive int -/
def k8 : Class := { plain "int" none with kind := .primitive 'I', accessFlags := 0x411 }
/-- [I -/
def k9 : Class := { plain "[I" (some 0) with kind := .array 8 .int, interfaces := #[4, 5], accessFlags := 1041 }

def heap : Heap := #[]
def classes : Array Class := #[k0, k1, k2, k3, k4, k5, k6, k7, k8, k9]
def interned : List (Array UInt16 × Addr) := []
def slotsUsed : Nat := 0
def theMethod : MethodId := ⟨1, 1⟩
def args0 : Array Value := #[.int 5, .int 6, .int 7, .int 8]
def aboutOver (below : List Frame) : State where
  vm := { classes := classes, interned := interned.toArray }
  heap := heap
  slotsUsed := slotsUsed
  threads := #[{ frames := .invoking theMethod args0 :: below }]
def below0 : List Frame := [.native { method := ⟨0, 0⟩, args := #[] }]
def about1 : State := aboutOver below0
def p0 : Program := .bare "" "" ""
def e0 : Env := launch0.env 0 0 0
theorem w_frames : about1.frames = Frame.invoking theMethod args0 :: below0 := rfl
set_option maxRecDepth 65536 in
theorem w_args : argsFit about1.vm theMethod args0 = true := by decide +kernel
set_option maxRecDepth 65536 in
theorem w_heap : heapFits about1 = true := by decide +kernel
set_option maxRecDepth 65536 in
theorem w_runnable : about1.curStatus? = some .runnable := by decide +kernel
set_option maxRecDepth 65536 in
theorem w_alone : about1.alone = true := by decide +kernel
set_option maxRecDepth 65536 in
theorem w_named : about1.methodNamed? x = some theMethod := by decide +kernel
set_option maxRecDepth 65536 in
theorem w_hears : about1.hears theMethod below0 = true := by decide +kernel
set_option maxRecDepth 65536 in
theorem w_ripe : about1.ripe theMethod args0 below0 = true := by decide +kernel
theorem w_running : about1.status = .running := rfl
set_option maxRecDepth 65536 in
theorem w_room : about1.hasRoom e0.platform room_1 = true :=
  launch0.hasRoom_least _ room_1 (by decide +kernel) (by decide +kernel) (by decide +kernel) (by decide +kernel) (by decide +kernel) (by decide +kernel)
theorem allAtoms_all (ts : List Jvm.Cond) (a : Array Jvm.Value) (st : Jvm.State) : (allAtoms ts).before a st = ts.all (fun c => c.before a st) := by
  induction ts with
  | nil => rfl
  | cons c t ih =>
    show (Jvm.Cond.and c (allAtoms t)).before a st = _
    rw [Jvm.Cond.before_and, ih, List.all_cons]
def words1 : List Jvm.Cond := Jvm.Cond.code x code maxLocals ret :: tables_1
/-- a 'code' word, met by the world's own term for the bytes: nothing is compared byte by byte -/
theorem code_word {y : MethodName} {bytes : ByteArray} {mx : Nat} {rt : Option FieldType} {a : Array Value} {s : State} {m : MethodId} {meth : Method} {c : Code} (h1 : s.methodNamed? y = some m) (h2 : s.vm.method? m = some meth) (h3 : meth.code = some c) (h4 : c.code = bytes)
    (h5 : (c.maxLocals == mx && c.exceptionTable.isEmpty && decide (c.maxStack ≤ mostOperands) && decide (meth.sig.returnType = rt) && !meth.locks && decide (parseMethodDescriptor y.desc = some meth.sig)) = true) : (Jvm.Cond.code y bytes mx rt).before a s = true := by
  simp only [Bool.and_eq_true, beq_iff_eq, Bool.not_eq_true', decide_eq_true_eq] at h5
  obtain ⟨⟨⟨⟨⟨g1, g2⟩, g3⟩, g4⟩, g5⟩, g6⟩ := h5
  simp [Cond.before, Cond.holds, Cond.value, h1, h2, h3, h4, g1, g2, g3, g4, g5, g6]
def isCode : Jvm.Cond → Bool
  | .code _ _ _ _ => true
  | _ => false
theorem all_split {L : List Jvm.Cond} {P : Jvm.Cond → Bool} (h1 : L.all (fun c => isCode c || P c) = true) (h2 : ∀ c ∈ L.filter isCode, P c = true) : L.all P = true := by
  refine List.all_eq_true.mpr fun c hc => ?_
  have h := List.all_eq_true.mp h1 c hc
  rcases Bool.eq_false_or_eq_true (isCode c) with hi | hi
  · exact h2 c (List.mem_filter.mpr ⟨hc, hi⟩)
  · simpa [hi] using h
set_option maxRecDepth 65536 in
theorem w_c0 : (Jvm.Cond.code x code maxLocals ret).before args0 about1 = true := code_word (m := ⟨1, 1⟩) (meth := k1m1) (c := k1c1) (by decide +kernel) rfl rfl rfl (by decide +kernel)
set_option maxRecDepth 65536 in
theorem w_c1 : (Jvm.Cond.code ({ cls := "com/example/plaingrant/plaingrant/server/http/Request$Body", name := "<init>", desc := "([BLcom/example/plaingrant/plaingrant/server/http/ApiException;)V" } : Jvm.MethodName) prog_36_method_1_code (3 : Nat) (Option.none : Option Jvm.ClassFile.FieldType)).before args0 about1 = true := code_word (m := ⟨3, 0⟩) (meth := k3m0) (c := k3c0) (by decide +kernel) rfl rfl rfl (by decide +kernel)
set_option maxRecDepth 65536 in
theorem w_c2 : (Jvm.Cond.code ({ cls := "java/lang/Record", name := "<init>", desc := "()V" } : Jvm.MethodName) jdk_30_method_1_code (1 : Nat) (Option.none : Option Jvm.ClassFile.FieldType)).before args0 about1 = true := code_word (m := ⟨2, 0⟩) (meth := k2m0) (c := k2c0) (by decide +kernel) rfl rfl rfl (by decide +kernel)
set_option maxRecDepth 65536 in
theorem w_c3 : (Jvm.Cond.code ({ cls := "java/lang/Object", name := "<init>", desc := "()V" } : Jvm.MethodName) object_method_1_code (1 : Nat) (Option.none : Option Jvm.ClassFile.FieldType)).before args0 about1 = true := code_word (m := ⟨0, 0⟩) (meth := k0m0) (c := k0c0) (by decide +kernel) rfl rfl rfl (by decide +kernel)
set_option maxRecDepth 65536 in
theorem w_c4 : (Jvm.Cond.code ({ cls := "com/example/plaingrant/plaingrant/server/http/Request$Body", name := "take", desc := "()[B" } : Jvm.MethodName) prog_36_method_5_code (1 : Nat) (Option.some (Jvm.ClassFile.FieldType.array Jvm.ClassFile.FieldType.byte))).before args0 about1 = true := code_word (m := ⟨3, 1⟩) (meth := k3m1) (c := k3c1) (by decide +kernel) rfl rfl rfl (by decide +kernel)
def codes1 : List Jvm.Cond := [Jvm.Cond.code x code maxLocals ret, Jvm.Cond.code ({ cls := "com/example/plaingrant/plaingrant/server/http/Request$Body", name := "<init>", desc := "([BLcom/example/plaingrant/plaingrant/server/http/ApiException;)V" } : Jvm.MethodName) prog_36_method_1_code (3 : Nat) (Option.none : Option Jvm.ClassFile.FieldType), Jvm.Cond.code ({ cls := "java/lang/Record", name := "<init>", desc := "()V" } : Jvm.MethodName) jdk_30_method_1_code (1 : Nat) (Option.none : Option Jvm.ClassFile.FieldType), Jvm.Cond.code ({ cls := "java/lang/Object", name := "<init>", desc := "()V" } : Jvm.MethodName) object_method_1_code (1 : Nat) (Option.none : Option Jvm.ClassFile.FieldType), Jvm.Cond.code ({ cls := "com/example/plaingrant/plaingrant/server/http/Request$Body", name := "take", desc := "()[B" } : Jvm.MethodName) prog_36_method_5_code (1 : Nat) (Option.some (Jvm.ClassFile.FieldType.array Jvm.ClassFile.FieldType.byte))]
set_option maxRecDepth 65536 in
theorem codes_eq : words1.filter isCode = codes1 := rfl
theorem w_codes : ∀ c ∈ words1.filter isCode, c.before args0 about1 = true := by
  rw [codes_eq]
  intro c hc
  simp only [codes1, List.mem_cons, List.not_mem_nil, or_false] at hc
  rcases hc with rfl | rfl | rfl | rfl | rfl
  · exact w_c0
  · exact w_c1
  · exact w_c2
  · exact w_c3
  · exact w_c4
set_option maxRecDepth 65536 in
theorem w_t1 : (words1.take 24).all (fun c => isCode c || c.before args0 about1) = true := by decide +kernel
set_option maxRecDepth 65536 in
theorem w_t2 : (words1.drop 24).all (fun c => isCode c || c.before args0 about1) = true := by decide +kernel
theorem w_tables : (allAtoms (Jvm.Cond.code x code maxLocals ret :: tables_1)).before args0 about1 = true := by
  rw [allAtoms_all]
  show words1.all (fun c => c.before args0 about1) = true
  refine all_split ?_ w_codes
  rw [← List.take_append_drop 24 words1, List.all_append, w_t1, w_t2]
  rfl
set_option maxRecDepth 65536 in
theorem w_case : (Jvm.Cond.and given_1 narrow_1).before args0 about1 = true := by decide +kernel
theorem w_applies : (headSpec (Jvm.Cond.code x code maxLocals ret :: tables_1) room_1).applies x e0.platform about1 = true :=
  (Spec.applies_iff w_frames).mpr ⟨w_running, w_runnable, w_alone, w_named, w_hears, w_ripe, w_room, w_tables⟩
theorem atStart : AtStart classFile x code maxLocals ret World_1 tables_1 room_1 Calls_1 rest_1 Pre_1 launch0 p0 e0 about1 theMethod args0 below0 :=
  ⟨lists_1, trivial, launch0.admits_env _ _ _, launch0.least_env, fairChoices_fair.cas, fairChoices_fair.clock, w_frames, w_args, w_heap, w_applies, trivial, trivial, w_case⟩
end start1
theorem witness_1 : WitnessClaimed_1 := ⟨start1.p0, start1.e0, start1.about1, start1.theMethod, start1.args0, start1.below0, start1.atStart⟩
end Jvm.Pilot.@@N@@
