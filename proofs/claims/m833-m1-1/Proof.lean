import JvmDerived
import JvmDerived.Pilot.@@N@@Statement
import JvmDerived.Pilot.@@N@@Code
set_option linter.unusedVariables false
set_option linter.unusedSimpArgs false
namespace Jvm.OwnKit
open Sem ClassFile Op Lib Jvm.Stand Jvm.Free Jvm.LawKit Jvm.RoadKit
/-- from the frame g over T the run ends, and what it leaves is Q's -/
def Go (p : Program) (e : Env) (below : List Frame) (s : State) (Q : Option Value → Heap → List Loc → Prop) (C S : Nat) (T : State) (g : JFrame) : Prop :=
  ∃ s₂ o, Steps p.tables e below (T.setTop g) s₂ ∧ s₂.status = .running ∧ Ended s₂ below o ∧ ∃ v L, o = .returned v ∧ Q v s₂.heap L ∧ FrameEnd s o s₂ L C S
section OwnGo
variable {p : Program} {l : Launch} {e : Env} {R : Room} {s : State} {m : MethodId} {args : Array Value} {below : List Frame} {meth : Method} {c : Code} {T T' : State} {locs : List Loc} {cells slots : Nat} {Q : Option Value → Heap → List Loc → Prop} {C S : Nat} {g g' : JFrame}
theorem Go.st (h : ∀ t, Steps p.tables e below (T'.setTop g') t → Steps p.tables e below (T.setTop g) t) (k : Go p e below s Q C S T' g') : Go p e below s Q C S T g := by
  obtain ⟨s₂, o, h1, h2⟩ := k
  exact ⟨s₂, o, h _ h1, h2⟩
theorem Go.eq (q : g = g') (k : Go p e below s Q C S T g') : Go p e below s Q C S T g := q ▸ k
theorem Go.retV (X : Stand p l e R s m args below meth c T locs cells slots) (hx : p.tables.exec = Jvm.exec) (hlk : meth.locks = false) {pc : Nat} {Ls : Array Slot} {w : Value} {t : FieldType} {i : Instr} {rest : List Value} (hret : meth.sig.returnType = some t) (hn : narrow t w = w)
    (hi : (i = .ireturn ∧ (t = .int ∨ t = .boolean ∨ t = .byte ∨ t = .char ∨ t = .short) ∧ ∃ z, w = .int z) ∨ (i = .lreturn ∧ t = .long ∧ ∃ z, w = .long z) ∨ (i = .dreturn ∧ t = .double ∧ ∃ z, w = .double z) ∨ (i = .freturn ∧ t = .float ∧ ∃ z, w = .float z) ∨ (i = .areturn ∧ t.isReference = true ∧ w.isRef = true))
    (hd : decode c.code pc = .ok (i, 1)) (hQ : Q (some w) T.heap locs) (hc : cells ≤ C) (hs : slots ≤ S) : Go p e below s Q C S T (mkF m pc Ls (w :: rest)) := by
  obtain ⟨fs, hr, hrun, hended, hW, hsame⟩ := X.leave (v := some w) (fun h => by rw [hret] at h; cases h) hlk
  exact ⟨_, _, retOut X hx hret hn hi hd hr, hrun, hended, _, _, rfl, hQ, ⟨_, rfl⟩, hW, hsame.mono hc hs⟩
theorem Go.retI (X : Stand p l e R s m args below meth c T locs cells slots) (hx : p.tables.exec = Jvm.exec) (hlk : meth.locks = false) {pc : Nat} {Ls : Array Slot} {z : Int32} {rest : List Value} (hret : meth.sig.returnType = some .int) (hd : decode c.code pc = .ok (.ireturn, 1)) (hQ : Q (some (.int z)) T.heap locs) (hc : cells ≤ C) (hs : slots ≤ S) : Go p e below s Q C S T (mkF m pc Ls (.int z :: rest)) :=
  Go.retV X hx hlk hret rfl (Or.inl ⟨rfl, Or.inl rfl, _, rfl⟩) hd hQ hc hs
theorem Go.retZ (X : Stand p l e R s m args below meth c T locs cells slots) (hx : p.tables.exec = Jvm.exec) (hlk : meth.locks = false) {pc : Nat} {Ls : Array Slot} {z : Int32} {rest : List Value} (hret : meth.sig.returnType = some .boolean) (hd : decode c.code pc = .ok (.ireturn, 1)) (hn : narrow .boolean (.int z) = .int z) (hQ : Q (some (.int z)) T.heap locs) (hc : cells ≤ C) (hs : slots ≤ S) : Go p e below s Q C S T (mkF m pc Ls (.int z :: rest)) :=
  Go.retV X hx hlk hret hn (Or.inl ⟨rfl, Or.inr (Or.inl rfl), _, rfl⟩) hd hQ hc hs
theorem Go.retB (X : Stand p l e R s m args below meth c T locs cells slots) (hx : p.tables.exec = Jvm.exec) (hlk : meth.locks = false) {pc : Nat} {Ls : Array Slot} {z : Int32} {rest : List Value} (hret : meth.sig.returnType = some .byte) (hd : decode c.code pc = .ok (.ireturn, 1)) (hn : narrow .byte (.int z) = .int z) (hQ : Q (some (.int z)) T.heap locs) (hc : cells ≤ C) (hs : slots ≤ S) : Go p e below s Q C S T (mkF m pc Ls (.int z :: rest)) :=
  Go.retV X hx hlk hret hn (Or.inl ⟨rfl, Or.inr (Or.inr (Or.inl rfl)), _, rfl⟩) hd hQ hc hs
theorem Go.retC (X : Stand p l e R s m args below meth c T locs cells slots) (hx : p.tables.exec = Jvm.exec) (hlk : meth.locks = false) {pc : Nat} {Ls : Array Slot} {z : Int32} {rest : List Value} (hret : meth.sig.returnType = some .char) (hd : decode c.code pc = .ok (.ireturn, 1)) (hn : narrow .char (.int z) = .int z) (hQ : Q (some (.int z)) T.heap locs) (hc : cells ≤ C) (hs : slots ≤ S) : Go p e below s Q C S T (mkF m pc Ls (.int z :: rest)) :=
  Go.retV X hx hlk hret hn (Or.inl ⟨rfl, Or.inr (Or.inr (Or.inr (Or.inl rfl))), _, rfl⟩) hd hQ hc hs
theorem Go.retJ (X : Stand p l e R s m args below meth c T locs cells slots) (hx : p.tables.exec = Jvm.exec) (hlk : meth.locks = false) {pc : Nat} {Ls : Array Slot} {z : Int64} {rest : List Value} (hret : meth.sig.returnType = some .long) (hd : decode c.code pc = .ok (.lreturn, 1)) (hQ : Q (some (.long z)) T.heap locs) (hc : cells ≤ C) (hs : slots ≤ S) : Go p e below s Q C S T (mkF m pc Ls (.long z :: rest)) :=
  Go.retV X hx hlk hret rfl (Or.inr (Or.inl ⟨rfl, rfl, _, rfl⟩)) hd hQ hc hs
theorem own_nar_ref {t : FieldType} {w : Value} (hw : w.isRef = true) : narrow t w = w := by
  rcases ref_cases hw with rfl | ⟨_, rfl⟩ <;> cases t <;> rfl
theorem Go.retA (X : Stand p l e R s m args below meth c T locs cells slots) (hx : p.tables.exec = Jvm.exec) (hlk : meth.locks = false) {pc : Nat} {Ls : Array Slot} {w : Value} {t : FieldType} {rest : List Value} (hret : meth.sig.returnType = some t) (ht : t.isReference = true) (hw : w.isRef = true) (hd : decode c.code pc = .ok (.areturn, 1)) (hQ : Q (some w) T.heap locs) (hc : cells ≤ C) (hs : slots ≤ S) : Go p e below s Q C S T (mkF m pc Ls (w :: rest)) :=
  Go.retV X hx hlk hret (own_nar_ref hw) (Or.inr (Or.inr (Or.inr (Or.inr ⟨rfl, ht, hw⟩)))) hd hQ hc hs
theorem Go.ret0 (X : Stand p l e R s m args below meth c T locs cells slots) (hx : p.tables.exec = Jvm.exec) (hlk : meth.locks = false) {pc : Nat} {Ls : Array Slot} (hret : meth.sig.returnType = none) (hd : decode c.code pc = .ok (.return_, 1)) (hQ : Q none T.heap locs) (hc : cells ≤ C) (hs : slots ≤ S) : Go p e below s Q C S T (mkF m pc Ls []) := by
  obtain ⟨fs, hr, hrun, hended, hW, hsame⟩ := X.leave (v := none) (fun _ => rfl) hlk
  exact ⟨_, _, X.returnOut hx hret hd hr, hrun, hended, _, _, rfl, hQ, ⟨_, rfl⟩, hW, hsame.mono hc hs⟩
end OwnGo
/-- a proposition as Java's boolean -/
def b2i (P : Prop) [Decidable P] : Int32 := if P then 1 else 0
theorem b2i_pos {P : Prop} [Decidable P] (h : P) : b2i P = 1 := if_pos h
theorem b2i_neg {P : Prop} [Decidable P] (h : ¬ P) : b2i P = 0 := if_neg h
theorem b2i_ne {P : Prop} [Decidable P] (h : P) : ¬ b2i P = 0 := by rw [b2i_pos h]; decide
theorem b2i_zero {P : Prop} [Decidable P] (h : ¬ P) : b2i P = 0 := b2i_neg h
theorem own_b2i_t {P : Prop} [Decidable P] (h : P) : some (Value.int 1) = some (Value.int (b2i P)) := by rw [b2i_pos h]
theorem own_b2i_f {P : Prop} [Decidable P] (h : ¬ P) : some (Value.int 0) = some (Value.int (b2i P)) := by rw [b2i_neg h]
theorem own_nb (y : Int32) : nar .byte (y.toInt8.toInt32) = y.toInt8.toInt32 := by
  show y.toInt8.toInt32.toInt8.toInt32 = y.toInt8.toInt32
  simp
theorem own_nc (y : Int32) : nar .char (y.toUInt32.toUInt16.toUInt32.toInt32) = y.toUInt32.toUInt16.toUInt32.toInt32 := by
  show (y.toUInt32.toUInt16.toUInt32.toInt32).toUInt32.toUInt16.toUInt32.toInt32 = y.toUInt32.toUInt16.toUInt32.toInt32
  rw [UInt32.toUInt32_toInt32, UInt16.toUInt16_toUInt32]
theorem own_nbv (y : Int32) : narrow .byte (.int (y.toInt8.toInt32)) = .int (y.toInt8.toInt32) := congrArg Value.int (own_nb y)
theorem own_and1 (a : Int32) : a &&& (1 : Int32) = (0 : Int32) ∨ a &&& (1 : Int32) = (1 : Int32) := and_one a
theorem own_and3 (a : Int32) : a &&& (3 : Int32) = (0 : Int32) ∨ a &&& (3 : Int32) = (1 : Int32) ∨ a &&& (3 : Int32) = (2 : Int32) ∨ a &&& (3 : Int32) = (3 : Int32) := by
  have e := c_mask a 3 2 (by decide) (by decide)
  have h : (a &&& (3 : Int32)).toInt = 0 ∨ (a &&& (3 : Int32)).toInt = 1 ∨ (a &&& (3 : Int32)).toInt = 2 ∨ (a &&& (3 : Int32)).toInt = 3 := by omega
  rcases h with h | h | h | h
  · exact Or.inl (Int32.toInt_inj.mp (h.trans (by decide)))
  · exact Or.inr (Or.inl (Int32.toInt_inj.mp (h.trans (by decide))))
  · exact Or.inr (Or.inr (Or.inl (Int32.toInt_inj.mp (h.trans (by decide)))))
  · exact Or.inr (Or.inr (Or.inr (Int32.toInt_inj.mp (h.trans (by decide)))))
theorem own_ord {s : State} {args : Array Value} {t : Term} {a : Addr} {C n d : String} {k : Int32} (ev : t.eval args s none [] s = some (.ref a)) (h : (Jvm.Cond.eq (Term.field t C n d) (Term.int k)).value args s none s [] = some true) : Fld s s.heap a C n d (.int k) := by
  obtain ⟨u, w, hu, hw, k1, k2⟩ := cmp_v (Or.inl h)
  have hw' : (Term.int k).eval args s none [] s = some (.int k) := Term.int_eval k
  cases hw.symm.trans hw'
  obtain ⟨z, rfl⟩ : ∃ z, u = .int z := k2
  have hz : z = k := gotT (Cond.eq_ints hu hw') h
  subst hz
  exact Fld.start ((fld_at ev).symm.trans hu)
section OwnBounds
variable {c a b : Int32} {n : Int}
theorem own_i1 (h : c < a) (q : a.toInt ≤ b.toInt) : c < b := by rw [Int32.lt_iff_toInt_lt] at *; omega
theorem own_i2 (h : ¬ a < c) (q : a.toInt < b.toInt) : c < b := by rw [Int32.lt_iff_toInt_lt] at *; omega
theorem own_i3 (h : ¬ c < a) (q : b.toInt ≤ a.toInt) : ¬ c < b := by rw [Int32.lt_iff_toInt_lt] at *; omega
theorem own_i4 (h : a < c) (q : b.toInt ≤ a.toInt + 1) : ¬ c < b := by rw [Int32.lt_iff_toInt_lt] at *; omega
theorem own_j1 (h : c < a) (q : a.toInt ≤ b.toInt + 1) : ¬ b < c := by rw [Int32.lt_iff_toInt_lt] at *; omega
theorem own_j2 (h : ¬ a < c) (q : a.toInt ≤ b.toInt) : ¬ b < c := by rw [Int32.lt_iff_toInt_lt] at *; omega
theorem own_j3 (h : ¬ c < a) (q : b.toInt < a.toInt) : b < c := by rw [Int32.lt_iff_toInt_lt] at *; omega
theorem own_j4 (h : a < c) (q : b.toInt ≤ a.toInt) : b < c := by rw [Int32.lt_iff_toInt_lt] at *; omega
theorem own_k1 (h : c < a) (q : a.toInt ≤ b.toInt) : ¬ c = b := fun e => by rw [e, Int32.lt_iff_toInt_lt] at h; omega
theorem own_k2 (h : ¬ a < c) (q : a.toInt < b.toInt) : ¬ c = b := fun e => by rw [e, Int32.lt_iff_toInt_lt] at h; omega
theorem own_k3 (h : ¬ c < a) (q : b.toInt < a.toInt) : ¬ c = b := fun e => by rw [e, Int32.lt_iff_toInt_lt] at h; omega
theorem own_k4 (h : a < c) (q : b.toInt ≤ a.toInt) : ¬ c = b := fun e => by rw [e, Int32.lt_iff_toInt_lt] at h; omega
theorem own_c1 (h : c < a) (q : a.toInt = n) : c.toInt < n := by rw [Int32.lt_iff_toInt_lt] at h; omega
theorem own_c2 (h : ¬ a < c) (q : a.toInt = n) : c.toInt ≤ n := by rw [Int32.lt_iff_toInt_lt] at h; omega
theorem own_c3 (h : ¬ c < a) (q : a.toInt = n) : n ≤ c.toInt := by rw [Int32.lt_iff_toInt_lt] at h; omega
theorem own_c4 (h : a < c) (q : a.toInt = n) : n < c.toInt := by rw [Int32.lt_iff_toInt_lt] at h; omega
theorem own_c5 (h : c = a) (q : a.toInt = n) : c.toInt = n := by rw [h]; exact q
theorem own_c6 (h : ¬ c = a) (q : a.toInt = n) : ¬ c.toInt = n := fun e => h (Int32.toInt_inj.mp (e.trans q.symm))
end OwnBounds
theorem own_addc {a b c d : Int32} (h : b + c = d) : (a + b) + c = a + d := by rw [Int32.add_assoc, h]
theorem own_byte_of {v : Value} (h : fits .byte v = true) : ∃ w, v = .int w ∧ narrow .byte (.int w) = .int w := by
  cases v with
  | int w =>
    refine ⟨w, rfl, ?_⟩
    obtain ⟨h1, h2⟩ := rng_byte h
    have e := c_i2b w
    have e1 : (-128 : Int32).toInt = -128 := by decide
    have e2 : (127 : Int32).toInt = 127 := by decide
    rw [Int32.lt_iff_toInt_lt, e1] at h1
    rw [Int32.lt_iff_toInt_lt, e2] at h2
    have e3 : w.toInt8.toInt32 = w := Int32.toInt_inj.mp (by omega)
    exact congrArg Value.int e3
  | _ => simp [fits] at h
theorem own_arv_nostat {Z : State} {h : Heap} {a : Addr} {k : ClassId} {ty : FieldType} {z : Int32} {vs : List Value} {dv : Value} (F : Arv Z h a k ty z vs dv) : ∀ cell : Cell, h[a]? = some cell → cell.vm.isStatics = false := by
  obtain ⟨c, A, -⟩ := F
  intro cell hc
  cases A.1.symm.trans hc
  exact A.plain
theorem own_selP {s : State} {args args' : Array Value} {y y' : MethodName} (hsel : (Jvm.Cond.selects y'.cls y' y').before args s = true) (he : y.cls = y'.cls) (hp : s.PrivateAt y) (hi : (Jvm.Cond.instanceMethod y).before args s = true) (hy : y.cls ≠ "java/lang/invoke/MethodHandle" ∧ y.cls ≠ "java/lang/invoke/VarHandle") : (Jvm.Cond.selects y.cls y y).before args s = true := by
  obtain ⟨c2, r2, m2, -, -, q3, -, kP, hkP, hkPi⟩ := Cond.selects_spec hsel
  exact Jvm.Stand.selects_self_of_private (by rw [he]; exact findClass_of_methodNamed q3) hkP hkPi hp hi hy
theorem own_irr {a : Int32} : ¬ (a < a) := Int32.lt_irrefl
theorem own_irrL {a : Int64} : ¬ (a < a) := Int64.lt_irrefl
theorem own_sta_keep {Z : State} {h h' : Heap} {C n d : String} {v : Value} {ws : List Addr} (F : Sta Z h C n d v) (K : Keep h h' ws) (q : ∀ x ∈ ws, ∀ cell : Cell, h[x]? = some cell → cell.vm.isStatics = false) : Sta Z h' C n d v := by
  obtain ⟨cf, i, k, f, st, cell, h1, h2, h3, h4, h5, h6, h7⟩ := F
  refine ⟨cf, i, k, f, st, cell, h1, h2, h3, h4, K.2.1 _ _ h5 (fun hm => ?_), h6, h7⟩
  have := q _ hm _ h5
  rw [h6] at this
  cases this
end Jvm.OwnKit
namespace Jvm.Pilot.@@N@@
open Jvm Jvm.ClassFile Sem Op Lib Jvm.Free Jvm.Stand Jvm.LawKit Jvm.RoadKit Jvm.OwnKit Bundle Jvm.Pilot.@@N@@.Jvm.D
theorem own_len0 {s : State} {args : Array Value} {t : Term} {a : Addr} {cl : Cell} {ty : FieldType} (hf : Fit s) (ev : t.eval args s none [] s = some (.ref a)) (A : Arr s s.heap a cl ty) (h : (Jvm.Cond.eq (Term.length t) (Term.int (0 : Int32))).value args s none s [] = some true) : Arv s s.heap a cl.cls ty (0 : Int32) [] .null := by
  obtain ⟨u, w, hu, hw, k1, k2⟩ := cmp_v (Or.inl h)
  have hw' : (Term.int (0 : Int32)).eval args s none [] s = some (.int (0 : Int32)) := Term.int_eval 0
  cases hw.symm.trans hw'
  obtain ⟨z, rfl⟩ : ∃ z, u = .int z := k2
  have hz : z = (0 : Int32) := gotT (Cond.eq_ints hu hw') h
  subst hz
  have hat := A.fin (U := s) (Vm.Alike.refl _)
  have hb : cl.slots.size < 2 ^ 31 := by
    by_cases q : cl.slots.size < 2 ^ 31
    · exact q
    · simp [Term.eval, ev, hat, q] at hu
  have he : cl.slots.size.toInt32 = (0 : Int32) := by
    have := (len_f ev hat hb).symm.trans hu
    simpa using this
  exact Arv.start hf A hb he (by decide) rfl trivial
theorem d3_0 : decode jdk_22_method_1_code 0 = .ok (.aload_n 0, 1) := by decide +kernel
theorem d3_1 : decode jdk_22_method_1_code 1 = .ok (.invokespecial 1, 3) := by decide +kernel
theorem d3_4 : decode jdk_22_method_1_code 4 = .ok (.return_, 1) := by decide +kernel
theorem pn_0 : plainName "java/util/AbstractCollection" = true := by first | (simp [plainName, overriddenIn]; done) | decide +kernel
theorem ef_rmAc (m : MethodId) (a : Addr) : entryFrame m #[(.ref a)] 1 = mkF m 0 #[.val (.ref a)] [] := by first | (simp [entryFrame, mkF, argsToLocals, Value.category]; done) | rfl
def QrmAc (Z : State) (a : Addr) (h0 : Heap) (n0 : Nat) (rV : Option Value) (hE : Heap) (LE : List Loc) : Prop := rV = none ∧ Fr n0 LE ∧ hE = h0
set_option maxRecDepth 65536 in
set_option maxHeartbeats 40000000 in
theorem rmAc (l : Launch) (Z : State) (a0 : Array Value) (hw : ∀ d ∈ tables_1, d.before a0 Z = true) (ws : List Jvm.Cond) (a : Addr) (h0 : Heap) (n0 : Nat) (Z0 : n0 ≤ h0.size) :
    MetFree l (⟨"java/util/AbstractCollection", "<init>", "()V"⟩ : MethodName) (head1 (Jvm.Cond.code (⟨"java/util/AbstractCollection", "<init>", "()V"⟩ : MethodName) jdk_22_method_1_code 1 none :: ws) ({ frames := 1, cells := 0, slots := 0, locals := 12 } : Room)) (fun aA UA => aA = #[(.ref a)] ∧ Z.Warmed39 UA.vm ∧ UA.heap = h0) (fun _ _ _ _ _ => True) (fun _ UA oA UB => ∃ rV LE, oA = .returned rV ∧ QrmAc Z a h0 n0 rV UB.heap LE ∧ FrameEnd UA oA UB LE ({ frames := 1, cells := 0, slots := 0, locals := 12 } : Room).cells ({ frames := 1, cells := 0, slots := 0, locals := 12 } : Room).slots) := by
  refine MetFree.of_bodySF (plainFor_of_name pn_0) hisR ?_
  intro p e s m args below meth c s₁ Bd hml0 hP hK
  obtain ⟨rfl, hZ, hh⟩ := hP
  have hx := Bd.exec
  have hby := Bd.bytes
  have hml : c.maxLocals = 1 := hml0
  have hown : s.vm.findClass "java/util/AbstractCollection" = some m.cls := findClass_of_methodNamed Bd.named
  have hnm := (name_of_methodNamed Bd.named Bd.method).1
  have hlk := Bd.notSynchronized
  have X0 : Stand p l e ({ frames := 1, cells := 0, slots := 0, locals := 12 } : Room) s m #[(.ref a)] below meth c s₁ [] 0 0 := Stand.of_body Bd
  have e0 : s₁.heap = h0 := by rw [← hh, Bd.state]; rfl
  have N0 := Fr.nil n0
  show Go p e below s (QrmAc Z a h0 n0) ({ frames := 1, cells := 0, slots := 0, locals := 12 } : Room).cells ({ frames := 1, cells := 0, slots := 0, locals := 12 } : Room).slots s₁ (entryFrame m #[(.ref a)] 1)
  refine Go.eq (ef_rmAc m a) ?_
  show Go p e below s _ _ _ s₁ (mkF m 0 #[.val (.ref a)] [])
  refine Go.st (fun _ => XS.aloadN X0.here hx rfl (hb hby d3_0) rfl rfl) ?_
  show Go p e below s _ _ _ s₁ (mkF m 1 #[.val (.ref a)] [(.ref a)])
  obtain ⟨T1, X1, e1, st1⟩ := initO X0 hx hZ hown (hw _ (List.mem_of_getElem? (i := 18) rfl)) (hw _ (List.mem_of_getElem? (i := 19) rfl)) (hw _ (List.mem_of_getElem? (i := 20) rfl)) e0 (g := (mkF m 1 #[.val (.ref a)] [(.ref a)])) rfl (by rw [hml]; rfl) rfl (hb hby d3_1) (by decide) (W := 0) (by show 2 * 0 + _ ≤ _; exact Nat.le_of_eq rfl) (by decide)
  refine Go.st st1 ?_
  show Go p e below s _ _ _ T1 (mkF m 4 #[.val (.ref a)] [])
  exact Go.ret0 X1 hx hlk Bd.returns (hb hby d3_4) (by rw [e1]; exact ⟨rfl, N0, rfl⟩) (by decide) (by decide)
theorem d2_0 : decode jdk_39_method_1_code 0 = .ok (.aload_n 0, 1) := by decide +kernel
theorem d2_1 : decode jdk_39_method_1_code 1 = .ok (.invokespecial 1, 3) := by decide +kernel
theorem pd_0 : parseMethodDescriptor "()V" = some ⟨[], none⟩ := by decide +kernel
theorem d2_4 : decode jdk_39_method_1_code 4 = .ok (.aload_n 0, 1) := by decide +kernel
theorem d2_5 : decode jdk_39_method_1_code 5 = .ok (.iconst 0, 1) := by decide +kernel
theorem d2_6 : decode jdk_39_method_1_code 6 = .ok (.putfield 7, 3) := by decide +kernel
theorem d2_9 : decode jdk_39_method_1_code 9 = .ok (.return_, 1) := by decide +kernel
theorem pn_1 : plainName "java/util/AbstractList" = true := by first | (simp [plainName, overriddenIn]; done) | decide +kernel
theorem ef_rmAb (m : MethodId) (a : Addr) : entryFrame m #[(.ref a)] 1 = mkF m 0 #[.val (.ref a)] [] := by first | (simp [entryFrame, mkF, argsToLocals, Value.category]; done) | rfl
def QrmAb (Z : State) (a : Addr) (h0 : Heap) (n0 : Nat) (rV : Option Value) (hE : Heap) (LE : List Loc) : Prop := rV = none ∧ Fr n0 LE ∧ Keep h0 hE [a] ∧ Exa Z hE a "java/util/ArrayList" ∧ Fld Z hE a "java/util/AbstractList" "modCount" "I" (.int (0 : Int32)) ∧ Fld Z hE a "java/util/ArrayList" "elementData" "[Ljava/lang/Object;" .null ∧ Fld Z hE a "java/util/ArrayList" "size" "I" (.int (0 : Int32))
set_option maxRecDepth 65536 in
set_option maxHeartbeats 40000000 in
theorem rmAb (l : Launch) (Z : State) (a0 : Array Value) (hw : ∀ d ∈ tables_1, d.before a0 Z = true) (ws : List Jvm.Cond) (a : Addr) (h0 : Heap) (n0 : Nat) (Z0 : n0 ≤ h0.size) (E_a : Exa Z h0 a "java/util/ArrayList") (F_modCount_a : Fld Z h0 a "java/util/AbstractList" "modCount" "I" (.int (0 : Int32))) (F_elementData_a : Fld Z h0 a "java/util/ArrayList" "elementData" "[Ljava/lang/Object;" .null) (F_size_a : Fld Z h0 a "java/util/ArrayList" "size" "I" (.int (0 : Int32))) (g_a : n0 ≤ a) :
    MetFree l (⟨"java/util/AbstractList", "<init>", "()V"⟩ : MethodName) (head1 (Jvm.Cond.code (⟨"java/util/AbstractList", "<init>", "()V"⟩ : MethodName) jdk_39_method_1_code 1 none :: ws) ({ frames := 2, cells := 0, slots := 0, locals := 24 } : Room)) (fun aA UA => aA = #[(.ref a)] ∧ Z.Warmed39 UA.vm ∧ UA.heap = h0) (fun _ _ _ _ _ => True) (fun _ UA oA UB => ∃ rV LE, oA = .returned rV ∧ QrmAb Z a h0 n0 rV UB.heap LE ∧ FrameEnd UA oA UB LE ({ frames := 2, cells := 0, slots := 0, locals := 24 } : Room).cells ({ frames := 2, cells := 0, slots := 0, locals := 24 } : Room).slots) := by
  refine MetFree.of_bodySF (plainFor_of_name pn_1) hisR ?_
  intro p e s m args below meth c s₁ Bd hml0 hP hK
  obtain ⟨rfl, hZ, hh⟩ := hP
  have hx := Bd.exec
  have hby := Bd.bytes
  have hml : c.maxLocals = 1 := hml0
  have hown : s.vm.findClass "java/util/AbstractList" = some m.cls := findClass_of_methodNamed Bd.named
  have hnm := (name_of_methodNamed Bd.named Bd.method).1
  have hlk := Bd.notSynchronized
  have X0 : Stand p l e ({ frames := 2, cells := 0, slots := 0, locals := 24 } : Room) s m #[(.ref a)] below meth c s₁ [] 0 0 := Stand.of_body Bd
  have e0 : s₁.heap = h0 := by rw [← hh, Bd.state]; rfl
  have N0 := Fr.nil n0
  show Go p e below s (QrmAb Z a h0 n0) ({ frames := 2, cells := 0, slots := 0, locals := 24 } : Room).cells ({ frames := 2, cells := 0, slots := 0, locals := 24 } : Room).slots s₁ (entryFrame m #[(.ref a)] 1)
  refine Go.eq (ef_rmAb m a) ?_
  show Go p e below s _ _ _ s₁ (mkF m 0 #[.val (.ref a)] [])
  refine Go.st (fun _ => XS.aloadN X0.here hx rfl (hb hby d2_0) rfl rfl) ?_
  show Go p e below s _ _ _ s₁ (mkF m 1 #[.val (.ref a)] [(.ref a)])
  obtain ⟨_, _, ⟨T1, L1, kc1, nc1⟩, -, X1, ⟨Lc1, hQ1, l1, y1, z1⟩, st1⟩ := X0.specialBack hx (y := (⟨"java/util/AbstractCollection", "<init>", "()V"⟩ : MethodName)) rfl hown (mvT hZ (hw _ (List.mem_of_getElem? (i := 12) rfl))) (mvT hZ (hw _ (List.mem_of_getElem? (i := 13) rfl))) (mvT hZ (hw _ (List.mem_of_getElem? (i := 17) rfl))) (by decide) (backOf (W := 0) (rmAc l Z a0 hw [] a h0 n0 Z0 ) hZ (hw _ (List.mem_of_getElem? (i := 17) rfl)) (hw _ (List.mem_of_getElem? (i := 16) rfl)) (by decide) (by decide)) (g := (mkF m 1 #[.val (.ref a)] [(.ref a)])) rfl (by rw [hml]; rfl) (Steps.refl _) (a := a) (argsL := []) (rest := []) (lenOf pd_0 rfl) rfl (by show 2 * 0 + _ ≤ _; exact Nat.le_of_eq rfl) (hb hby d2_1) (fun _ _ => ⟨rfl, e0, (by decide : 0 + 0 ≤ _), (by decide : 0 + 0 ≤ _)⟩)
  dsimp only [Pt.U, Pt.locs, Pt.cells, Pt.slots] at X1 l1 y1 z1 st1 hQ1
  subst l1 y1 z1
  obtain ⟨h1, e1⟩ : ∃ hh, T1.heap = hh := ⟨_, rfl⟩
  rw [e1] at hQ1
  obtain ⟨rfl, N1q, sm1⟩ := hQ1
  have N1 := Fr.app N0 N1q
  refine Go.st (fun _ kk => st1.trans kk) ?_
  rw [sm1] at e1
  show Go p e below s _ _ _ T1 (mkF m 4 #[.val (.ref a)] [])
  refine Go.st (fun _ => XS.aloadN X1.here hx rfl (hb hby d2_4) rfl rfl) ?_
  show Go p e below s _ _ _ T1 (mkF m 5 #[.val (.ref a)] [(.ref a)])
  refine Go.st (fun _ => XS.iconst X1.here hx rfl (hb hby d2_5)) ?_
  show Go p e below s _ _ _ T1 (mkF m 6 #[.val (.ref a)] [(.int (0 : Int32)), (.ref a)])
  obtain ⟨T2, h2, X2, e2, W2, st2⟩ := putF X1 hx hZ hown (host := "") (Or.inl (hw _ (List.mem_of_getElem? (i := 21) rfl))) Via.refl e1 F_modCount_a E_a (Or.inl (hw _ (List.mem_of_getElem? (i := 22) rfl))) (hw _ (List.mem_of_getElem? (i := 1) rfl)) (ty := .int) (by decide) rfl rfl (g := (mkF m 6 #[.val (.ref a)] [(.int (0 : Int32)), (.ref a)])) rfl rfl (hb hby d2_6)
  refine Go.st st2 ?_
  have N2 := Fr.snoc X2 N1 g_a
  have K2 : Keep h0 h2 [a] := (Keep.refl h0 [a]).wr W2 (Or.inl (List.mem_of_getElem? (i := 0) rfl))
  have z2 : n0 ≤ h2.size := Nat.le_trans Z0 (Nat.le_of_eq W2.size.symm)
  have Fw2 := F_modCount_a.same W2
  show Go p e below s _ _ _ T2 (mkF m 9 #[.val (.ref a)] [])
  have f3 := (E_a.wr W2)
  have f4 := (F_elementData_a.other W2 (Or.inr (slot_ne (Or.inl (hw _ (List.mem_of_getElem? (i := 25) rfl))) (Or.inl (hw _ (List.mem_of_getElem? (i := 22) rfl))) (by decide) (t := (.array (.object "java/lang/Object"))) (t' := .int) (by decide) (by decide))))
  have f5 := (F_size_a.other W2 (Or.inr (slot_ne (Or.inl (hw _ (List.mem_of_getElem? (i := 60) rfl))) (Or.inl (hw _ (List.mem_of_getElem? (i := 22) rfl))) (by decide) (t := .int) (t' := .int) (by decide) (by decide))))
  exact Go.ret0 X2 hx hlk Bd.returns (hb hby d2_9) (by rw [e2]; exact ⟨rfl, N2, K2, f3, Fw2, f4, f5⟩) (by decide) (by decide)
theorem d1_0 : decode jdk_38_method_2_code 0 = .ok (.aload_n 0, 1) := by decide +kernel
theorem d1_1 : decode jdk_38_method_2_code 1 = .ok (.invokespecial 1, 3) := by decide +kernel
theorem d1_4 : decode jdk_38_method_2_code 4 = .ok (.aload_n 0, 1) := by decide +kernel
theorem d1_5 : decode jdk_38_method_2_code 5 = .ok (.getstatic 39, 3) := by decide +kernel
theorem d1_8 : decode jdk_38_method_2_code 8 = .ok (.putfield 9, 3) := by decide +kernel
theorem d1_11 : decode jdk_38_method_2_code 11 = .ok (.return_, 1) := by decide +kernel
theorem pn_2 : plainName "java/util/ArrayList" = true := by first | (simp [plainName, overriddenIn]; done) | decide +kernel
theorem ef_rmAl (m : MethodId) (a : Addr) : entryFrame m #[(.ref a)] 1 = mkF m 0 #[.val (.ref a)] [] := by first | (simp [entryFrame, mkF, argsToLocals, Value.category]; done) | rfl
def QrmAl (Z : State) (a : Addr) (u : Addr) (h0 : Heap) (n0 : Nat) (rV : Option Value) (hE : Heap) (LE : List Loc) : Prop := rV = none ∧ Fr n0 LE ∧ Keep h0 hE [a] ∧ Exa Z hE a "java/util/ArrayList" ∧ Fld Z hE a "java/util/AbstractList" "modCount" "I" (.int (0 : Int32)) ∧ Fld Z hE a "java/util/ArrayList" "elementData" "[Ljava/lang/Object;" (.ref u) ∧ Fld Z hE a "java/util/ArrayList" "size" "I" (.int (0 : Int32))
set_option maxRecDepth 65536 in
set_option maxHeartbeats 40000000 in
theorem rmAl (l : Launch) (Z : State) (a0 : Array Value) (hw : ∀ d ∈ tables_1, d.before a0 Z = true) (ws : List Jvm.Cond) (a : Addr) (u : Addr) (h0 : Heap) (n0 : Nat) (Z0 : n0 ≤ h0.size) (E_a : Exa Z h0 a "java/util/ArrayList") (F_modCount_a : Fld Z h0 a "java/util/AbstractList" "modCount" "I" (.int (0 : Int32))) (F_elementData_a : Fld Z h0 a "java/util/ArrayList" "elementData" "[Ljava/lang/Object;" .null) (F_size_a : Fld Z h0 a "java/util/ArrayList" "size" "I" (.int (0 : Int32))) (S_DEFAULTCAPACITY_EMPTY_ELEMENTDATA : Sta Z h0 "java/util/ArrayList" "DEFAULTCAPACITY_EMPTY_ELEMENTDATA" "[Ljava/lang/Object;" (.ref u)) (g_a : n0 ≤ a) :
    MetFree l (⟨"java/util/ArrayList", "<init>", "()V"⟩ : MethodName) (head1 (Jvm.Cond.code (⟨"java/util/ArrayList", "<init>", "()V"⟩ : MethodName) jdk_38_method_2_code 1 none :: ws) ({ frames := 3, cells := 0, slots := 0, locals := 36 } : Room)) (fun aA UA => aA = #[(.ref a)] ∧ Z.Warmed39 UA.vm ∧ UA.heap = h0) (fun _ _ _ _ _ => True) (fun _ UA oA UB => ∃ rV LE, oA = .returned rV ∧ QrmAl Z a u h0 n0 rV UB.heap LE ∧ FrameEnd UA oA UB LE ({ frames := 3, cells := 0, slots := 0, locals := 36 } : Room).cells ({ frames := 3, cells := 0, slots := 0, locals := 36 } : Room).slots) := by
  refine MetFree.of_bodySF (plainFor_of_name pn_2) hisR ?_
  intro p e s m args below meth c s₁ Bd hml0 hP hK
  obtain ⟨rfl, hZ, hh⟩ := hP
  have hx := Bd.exec
  have hby := Bd.bytes
  have hml : c.maxLocals = 1 := hml0
  have hown : s.vm.findClass "java/util/ArrayList" = some m.cls := findClass_of_methodNamed Bd.named
  have hnm := (name_of_methodNamed Bd.named Bd.method).1
  have hlk := Bd.notSynchronized
  have X0 : Stand p l e ({ frames := 3, cells := 0, slots := 0, locals := 36 } : Room) s m #[(.ref a)] below meth c s₁ [] 0 0 := Stand.of_body Bd
  have e0 : s₁.heap = h0 := by rw [← hh, Bd.state]; rfl
  have N0 := Fr.nil n0
  show Go p e below s (QrmAl Z a u h0 n0) ({ frames := 3, cells := 0, slots := 0, locals := 36 } : Room).cells ({ frames := 3, cells := 0, slots := 0, locals := 36 } : Room).slots s₁ (entryFrame m #[(.ref a)] 1)
  refine Go.eq (ef_rmAl m a) ?_
  show Go p e below s _ _ _ s₁ (mkF m 0 #[.val (.ref a)] [])
  refine Go.st (fun _ => XS.aloadN X0.here hx rfl (hb hby d1_0) rfl rfl) ?_
  show Go p e below s _ _ _ s₁ (mkF m 1 #[.val (.ref a)] [(.ref a)])
  obtain ⟨_, _, ⟨T1, L1, kc1, nc1⟩, -, X1, ⟨Lc1, hQ1, l1, y1, z1⟩, st1⟩ := X0.specialBack hx (y := (⟨"java/util/AbstractList", "<init>", "()V"⟩ : MethodName)) rfl hown (mvT hZ (hw _ (List.mem_of_getElem? (i := 6) rfl))) (mvT hZ (hw _ (List.mem_of_getElem? (i := 7) rfl))) (mvT hZ (hw _ (List.mem_of_getElem? (i := 11) rfl))) (by decide) (backOf (W := 0) (rmAb l Z a0 hw [] a h0 n0 Z0 E_a F_modCount_a F_elementData_a F_size_a g_a) hZ (hw _ (List.mem_of_getElem? (i := 11) rfl)) (hw _ (List.mem_of_getElem? (i := 10) rfl)) (by decide) (by decide)) (g := (mkF m 1 #[.val (.ref a)] [(.ref a)])) rfl (by rw [hml]; rfl) (Steps.refl _) (a := a) (argsL := []) (rest := []) (lenOf pd_0 rfl) rfl (by show 2 * 0 + _ ≤ _; exact Nat.le_of_eq rfl) (hb hby d1_1) (fun _ _ => ⟨rfl, e0, (by decide : 0 + 0 ≤ _), (by decide : 0 + 0 ≤ _)⟩)
  dsimp only [Pt.U, Pt.locs, Pt.cells, Pt.slots] at X1 l1 y1 z1 st1 hQ1
  subst l1 y1 z1
  obtain ⟨h1, e1⟩ : ∃ hh, T1.heap = hh := ⟨_, rfl⟩
  rw [e1] at hQ1
  obtain ⟨rfl, N1q, K1, p1_0, p1_1, p1_2, p1_3⟩ := hQ1
  have N1 := Fr.app N0 N1q
  refine Go.st (fun _ kk => st1.trans kk) ?_
  have KK1 : Keep h0 h1 [a] := (Keep.refl h0 [a]).trans K1 (allS (Or.inl (List.mem_of_getElem? (i := 0) rfl)) all0)
  have z1q : n0 ≤ h1.size := Nat.le_trans Z0 K1.1
  have ns1 : ∀ x ∈ ([a] : List Addr), ∀ cell : Cell, h0[x]? = some cell → cell.vm.isStatics = false := (allS E_a.nostat all0)
  show Go p e below s _ _ _ T1 (mkF m 4 #[.val (.ref a)] [])
  refine Go.st (fun _ => XS.aloadN X1.here hx rfl (hb hby d1_4) rfl rfl) ?_
  show Go p e below s _ _ _ T1 (mkF m 5 #[.val (.ref a)] [(.ref a)])
  have f2 := (own_sta_keep S_DEFAULTCAPACITY_EMPTY_ELEMENTDATA K1 ns1)
  obtain ⟨T3, X3, e3, st3⟩ := getS2 X1 hx hZ hown (host := "") (Or.inl (hw _ (List.mem_of_getElem? (i := 23) rfl))) Via.refl e1 f2 (g := (mkF m 5 #[.val (.ref a)] [(.ref a)])) rfl (hb hby d1_5)
  refine Go.st st3 ?_
  show Go p e below s _ _ _ T3 (mkF m 8 #[.val (.ref a)] [(.ref u), (.ref a)])
  obtain ⟨T4, h4, X4, e4, W4, st4⟩ := putF X3 hx hZ hown (host := "") (Or.inl (hw _ (List.mem_of_getElem? (i := 24) rfl))) Via.refl e3 p1_2 p1_0 (Or.inl (hw _ (List.mem_of_getElem? (i := 25) rfl))) (hw _ (List.mem_of_getElem? (i := 1) rfl)) (ty := (.array (.object "java/lang/Object"))) (by decide) rfl rfl (g := (mkF m 8 #[.val (.ref a)] [(.ref u), (.ref a)])) rfl rfl (hb hby d1_8)
  refine Go.st st4 ?_
  have N4 := Fr.snoc X4 N1 g_a
  have K4 : Keep h0 h4 [a] := KK1.wr W4 (Or.inl (List.mem_of_getElem? (i := 0) rfl))
  have z4 : n0 ≤ h4.size := Nat.le_trans z1q (Nat.le_of_eq W4.size.symm)
  have Fw4 := p1_2.same W4
  show Go p e below s _ _ _ T4 (mkF m 11 #[.val (.ref a)] [])
  have f5 := (p1_0.wr W4)
  have f6 := (p1_1.other W4 (Or.inr (slot_ne (Or.inl (hw _ (List.mem_of_getElem? (i := 22) rfl))) (Or.inl (hw _ (List.mem_of_getElem? (i := 25) rfl))) (by decide) (t := .int) (t' := (.array (.object "java/lang/Object"))) (by decide) (by decide))))
  have f7 := (p1_3.other W4 (Or.inr (slot_ne (Or.inl (hw _ (List.mem_of_getElem? (i := 60) rfl))) (Or.inl (hw _ (List.mem_of_getElem? (i := 25) rfl))) (by decide) (t := .int) (t' := (.array (.object "java/lang/Object"))) (by decide) (by decide))))
  exact Go.ret0 X4 hx hlk Bd.returns (hb hby d1_11) (by rw [e4]; exact ⟨rfl, N4, K4, f5, f6, Fw4, f7⟩) (by decide) (by decide)
theorem d6_0 : decode jdk_30_method_1_code 0 = .ok (.aload_n 0, 1) := by decide +kernel
theorem d6_1 : decode jdk_30_method_1_code 1 = .ok (.invokespecial 1, 3) := by decide +kernel
theorem d6_4 : decode jdk_30_method_1_code 4 = .ok (.return_, 1) := by decide +kernel
theorem pn_3 : plainName "java/lang/Record" = true := by first | (simp [plainName, overriddenIn]; done) | decide +kernel
theorem ef_rmRe (m : MethodId) (a : Addr) : entryFrame m #[(.ref a)] 1 = mkF m 0 #[.val (.ref a)] [] := by first | (simp [entryFrame, mkF, argsToLocals, Value.category]; done) | rfl
def QrmRe (Z : State) (a : Addr) (h0 : Heap) (n0 : Nat) (rV : Option Value) (hE : Heap) (LE : List Loc) : Prop := rV = none ∧ Fr n0 LE ∧ hE = h0
set_option maxRecDepth 65536 in
set_option maxHeartbeats 40000000 in
theorem rmRe (l : Launch) (Z : State) (a0 : Array Value) (hw : ∀ d ∈ tables_1, d.before a0 Z = true) (ws : List Jvm.Cond) (a : Addr) (h0 : Heap) (n0 : Nat) (Z0 : n0 ≤ h0.size) :
    MetFree l (⟨"java/lang/Record", "<init>", "()V"⟩ : MethodName) (head1 (Jvm.Cond.code (⟨"java/lang/Record", "<init>", "()V"⟩ : MethodName) jdk_30_method_1_code 1 none :: ws) ({ frames := 1, cells := 0, slots := 0, locals := 12 } : Room)) (fun aA UA => aA = #[(.ref a)] ∧ Z.Warmed39 UA.vm ∧ UA.heap = h0) (fun _ _ _ _ _ => True) (fun _ UA oA UB => ∃ rV LE, oA = .returned rV ∧ QrmRe Z a h0 n0 rV UB.heap LE ∧ FrameEnd UA oA UB LE ({ frames := 1, cells := 0, slots := 0, locals := 12 } : Room).cells ({ frames := 1, cells := 0, slots := 0, locals := 12 } : Room).slots) := by
  refine MetFree.of_bodySF (plainFor_of_name pn_3) hisR ?_
  intro p e s m args below meth c s₁ Bd hml0 hP hK
  obtain ⟨rfl, hZ, hh⟩ := hP
  have hx := Bd.exec
  have hby := Bd.bytes
  have hml : c.maxLocals = 1 := hml0
  have hown : s.vm.findClass "java/lang/Record" = some m.cls := findClass_of_methodNamed Bd.named
  have hnm := (name_of_methodNamed Bd.named Bd.method).1
  have hlk := Bd.notSynchronized
  have X0 : Stand p l e ({ frames := 1, cells := 0, slots := 0, locals := 12 } : Room) s m #[(.ref a)] below meth c s₁ [] 0 0 := Stand.of_body Bd
  have e0 : s₁.heap = h0 := by rw [← hh, Bd.state]; rfl
  have N0 := Fr.nil n0
  show Go p e below s (QrmRe Z a h0 n0) ({ frames := 1, cells := 0, slots := 0, locals := 12 } : Room).cells ({ frames := 1, cells := 0, slots := 0, locals := 12 } : Room).slots s₁ (entryFrame m #[(.ref a)] 1)
  refine Go.eq (ef_rmRe m a) ?_
  show Go p e below s _ _ _ s₁ (mkF m 0 #[.val (.ref a)] [])
  refine Go.st (fun _ => XS.aloadN X0.here hx rfl (hb hby d6_0) rfl rfl) ?_
  show Go p e below s _ _ _ s₁ (mkF m 1 #[.val (.ref a)] [(.ref a)])
  obtain ⟨T1, X1, e1, st1⟩ := initO X0 hx hZ hown (hw _ (List.mem_of_getElem? (i := 37) rfl)) (hw _ (List.mem_of_getElem? (i := 19) rfl)) (hw _ (List.mem_of_getElem? (i := 20) rfl)) e0 (g := (mkF m 1 #[.val (.ref a)] [(.ref a)])) rfl (by rw [hml]; rfl) rfl (hb hby d6_1) (by decide) (W := 0) (by show 2 * 0 + _ ≤ _; exact Nat.le_of_eq rfl) (by decide)
  refine Go.st st1 ?_
  show Go p e below s _ _ _ T1 (mkF m 4 #[.val (.ref a)] [])
  exact Go.ret0 X1 hx hlk Bd.returns (hb hby d6_4) (by rw [e1]; exact ⟨rfl, N0, rfl⟩) (by decide) (by decide)
theorem d5_0 : decode prog_40_method_1_code 0 = .ok (.aload_n 0, 1) := by decide +kernel
theorem d5_1 : decode prog_40_method_1_code 1 = .ok (.invokespecial 1, 3) := by decide +kernel
theorem d5_4 : decode prog_40_method_1_code 4 = .ok (.aload_n 0, 1) := by decide +kernel
theorem d5_5 : decode prog_40_method_1_code 5 = .ok (.lload_n 1, 1) := by decide +kernel
theorem d5_6 : decode prog_40_method_1_code 6 = .ok (.putfield 7, 3) := by decide +kernel
theorem d5_9 : decode prog_40_method_1_code 9 = .ok (.aload_n 0, 1) := by decide +kernel
theorem d5_10 : decode prog_40_method_1_code 10 = .ok (.aload_n 3, 1) := by decide +kernel
theorem d5_11 : decode prog_40_method_1_code 11 = .ok (.putfield 13, 3) := by decide +kernel
theorem d5_14 : decode prog_40_method_1_code 14 = .ok (.aload_n 0, 1) := by decide +kernel
theorem d5_15 : decode prog_40_method_1_code 15 = .ok (.aload 4, 2) := by decide +kernel
theorem d5_17 : decode prog_40_method_1_code 17 = .ok (.putfield 17, 3) := by decide +kernel
theorem d5_20 : decode prog_40_method_1_code 20 = .ok (.aload_n 0, 1) := by decide +kernel
theorem d5_21 : decode prog_40_method_1_code 21 = .ok (.aload 5, 2) := by decide +kernel
theorem d5_23 : decode prog_40_method_1_code 23 = .ok (.putfield 20, 3) := by decide +kernel
theorem d5_26 : decode prog_40_method_1_code 26 = .ok (.aload_n 0, 1) := by decide +kernel
theorem d5_27 : decode prog_40_method_1_code 27 = .ok (.aload 6, 2) := by decide +kernel
theorem d5_29 : decode prog_40_method_1_code 29 = .ok (.putfield 23, 3) := by decide +kernel
theorem d5_32 : decode prog_40_method_1_code 32 = .ok (.aload_n 0, 1) := by decide +kernel
theorem d5_33 : decode prog_40_method_1_code 33 = .ok (.aload 7, 2) := by decide +kernel
theorem d5_35 : decode prog_40_method_1_code 35 = .ok (.putfield 26, 3) := by decide +kernel
theorem d5_38 : decode prog_40_method_1_code 38 = .ok (.aload_n 0, 1) := by decide +kernel
theorem d5_39 : decode prog_40_method_1_code 39 = .ok (.aload 8, 2) := by decide +kernel
theorem d5_41 : decode prog_40_method_1_code 41 = .ok (.putfield 30, 3) := by decide +kernel
theorem d5_44 : decode prog_40_method_1_code 44 = .ok (.return_, 1) := by decide +kernel
theorem pn_4 : plainName "com/example/plaingrant/plaingrant/store/AuditEntry" = true := by first | (simp [plainName, overriddenIn]; done) | decide +kernel
theorem ef_rmEn (m : MethodId) (a : Addr) (q : Int64) : entryFrame m #[(.ref a), (.long q), .null, .null, .null, .null, .null, .null] 9 = mkF m 0 #[.val (.ref a), .val (.long q), .second, .val .null, .val .null, .val .null, .val .null, .val .null, .val .null] [] := by first | (simp [entryFrame, mkF, argsToLocals, Value.category]; done) | rfl
def QrmEn (Z : State) (a : Addr) (q : Int64) (h0 : Heap) (n0 : Nat) (rV : Option Value) (hE : Heap) (LE : List Loc) : Prop := rV = none ∧ Fr n0 LE ∧ Keep h0 hE [a] ∧ Exa Z hE a "com/example/plaingrant/plaingrant/store/AuditEntry" ∧ Fld Z hE a "com/example/plaingrant/plaingrant/store/AuditEntry" "sequence" "J" (.long q)
set_option maxRecDepth 65536 in
set_option maxHeartbeats 40000000 in
theorem rmEn (l : Launch) (Z : State) (a0 : Array Value) (hw : ∀ d ∈ tables_1, d.before a0 Z = true) (ws : List Jvm.Cond) (a : Addr) (q : Int64) (h0 : Heap) (n0 : Nat) (Z0 : n0 ≤ h0.size) (E_a : Exa Z h0 a "com/example/plaingrant/plaingrant/store/AuditEntry") (F_sequence_a : Fld Z h0 a "com/example/plaingrant/plaingrant/store/AuditEntry" "sequence" "J" (.long (0 : Int64))) (F_time_a : Fld Z h0 a "com/example/plaingrant/plaingrant/store/AuditEntry" "time" "Ljava/lang/String;" .null) (F_actor_a : Fld Z h0 a "com/example/plaingrant/plaingrant/store/AuditEntry" "actor" "Ljava/lang/String;" .null) (F_required_a : Fld Z h0 a "com/example/plaingrant/plaingrant/store/AuditEntry" "required" "Ljava/lang/String;" .null) (F_change_a : Fld Z h0 a "com/example/plaingrant/plaingrant/store/AuditEntry" "change" "Ljava/lang/String;" .null) (F_outcome_a : Fld Z h0 a "com/example/plaingrant/plaingrant/store/AuditEntry" "outcome" "Lcom/example/plaingrant/plaingrant/store/AuditEntry$Outcome;" .null) (F_hash_a : Fld Z h0 a "com/example/plaingrant/plaingrant/store/AuditEntry" "hash" "Ljava/lang/String;" .null) (g_a : n0 ≤ a) :
    MetFree l (⟨"com/example/plaingrant/plaingrant/store/AuditEntry", "<init>", "(JLjava/lang/String;Ljava/lang/String;Ljava/lang/String;Ljava/lang/String;Lcom/example/plaingrant/plaingrant/store/AuditEntry$Outcome;Ljava/lang/String;)V"⟩ : MethodName) (head1 (Jvm.Cond.code (⟨"com/example/plaingrant/plaingrant/store/AuditEntry", "<init>", "(JLjava/lang/String;Ljava/lang/String;Ljava/lang/String;Ljava/lang/String;Lcom/example/plaingrant/plaingrant/store/AuditEntry$Outcome;Ljava/lang/String;)V"⟩ : MethodName) prog_40_method_1_code 9 none :: ws) ({ frames := 2, cells := 0, slots := 0, locals := 24 } : Room)) (fun aA UA => aA = #[(.ref a), (.long q), .null, .null, .null, .null, .null, .null] ∧ Z.Warmed39 UA.vm ∧ UA.heap = h0) (fun _ _ _ _ _ => True) (fun _ UA oA UB => ∃ rV LE, oA = .returned rV ∧ QrmEn Z a q h0 n0 rV UB.heap LE ∧ FrameEnd UA oA UB LE ({ frames := 2, cells := 0, slots := 0, locals := 24 } : Room).cells ({ frames := 2, cells := 0, slots := 0, locals := 24 } : Room).slots) := by
  refine MetFree.of_bodySF (plainFor_of_name pn_4) hisR ?_
  intro p e s m args below meth c s₁ Bd hml0 hP hK
  obtain ⟨rfl, hZ, hh⟩ := hP
  have hx := Bd.exec
  have hby := Bd.bytes
  have hml : c.maxLocals = 9 := hml0
  have hown : s.vm.findClass "com/example/plaingrant/plaingrant/store/AuditEntry" = some m.cls := findClass_of_methodNamed Bd.named
  have hnm := (name_of_methodNamed Bd.named Bd.method).1
  have hlk := Bd.notSynchronized
  have X0 : Stand p l e ({ frames := 2, cells := 0, slots := 0, locals := 24 } : Room) s m #[(.ref a), (.long q), .null, .null, .null, .null, .null, .null] below meth c s₁ [] 0 0 := Stand.of_body Bd
  have e0 : s₁.heap = h0 := by rw [← hh, Bd.state]; rfl
  have N0 := Fr.nil n0
  show Go p e below s (QrmEn Z a q h0 n0) ({ frames := 2, cells := 0, slots := 0, locals := 24 } : Room).cells ({ frames := 2, cells := 0, slots := 0, locals := 24 } : Room).slots s₁ (entryFrame m #[(.ref a), (.long q), .null, .null, .null, .null, .null, .null] 9)
  refine Go.eq (ef_rmEn m a q) ?_
  show Go p e below s _ _ _ s₁ (mkF m 0 #[.val (.ref a), .val (.long q), .second, .val .null, .val .null, .val .null, .val .null, .val .null, .val .null] [])
  refine Go.st (fun _ => XS.aloadN X0.here hx rfl (hb hby d5_0) rfl rfl) ?_
  show Go p e below s _ _ _ s₁ (mkF m 1 #[.val (.ref a), .val (.long q), .second, .val .null, .val .null, .val .null, .val .null, .val .null, .val .null] [(.ref a)])
  obtain ⟨_, _, ⟨T1, L1, kc1, nc1⟩, -, X1, ⟨Lc1, hQ1, l1, y1, z1⟩, st1⟩ := X0.specialBack hx (y := (⟨"java/lang/Record", "<init>", "()V"⟩ : MethodName)) rfl hown (mvT hZ (hw _ (List.mem_of_getElem? (i := 32) rfl))) (mvT hZ (hw _ (List.mem_of_getElem? (i := 33) rfl))) (mvT hZ (hw _ (List.mem_of_getElem? (i := 36) rfl))) (by decide) (backOf (W := 0) (rmRe l Z a0 hw [] a h0 n0 Z0 ) hZ (hw _ (List.mem_of_getElem? (i := 36) rfl)) (hw _ (List.mem_of_getElem? (i := 35) rfl)) (by decide) (by decide)) (g := (mkF m 1 #[.val (.ref a), .val (.long q), .second, .val .null, .val .null, .val .null, .val .null, .val .null, .val .null] [(.ref a)])) rfl (by rw [hml]; rfl) (Steps.refl _) (a := a) (argsL := []) (rest := []) (lenOf pd_0 rfl) rfl (by show 2 * 0 + _ ≤ _; exact Nat.le_of_eq rfl) (hb hby d5_1) (fun _ _ => ⟨rfl, e0, (by decide : 0 + 0 ≤ _), (by decide : 0 + 0 ≤ _)⟩)
  dsimp only [Pt.U, Pt.locs, Pt.cells, Pt.slots] at X1 l1 y1 z1 st1 hQ1
  subst l1 y1 z1
  obtain ⟨h1, e1⟩ : ∃ hh, T1.heap = hh := ⟨_, rfl⟩
  rw [e1] at hQ1
  obtain ⟨rfl, N1q, sm1⟩ := hQ1
  have N1 := Fr.app N0 N1q
  refine Go.st (fun _ kk => st1.trans kk) ?_
  rw [sm1] at e1
  show Go p e below s _ _ _ T1 (mkF m 4 #[.val (.ref a), .val (.long q), .second, .val .null, .val .null, .val .null, .val .null, .val .null, .val .null] [])
  refine Go.st (fun _ => XS.aloadN X1.here hx rfl (hb hby d5_4) rfl rfl) ?_
  show Go p e below s _ _ _ T1 (mkF m 5 #[.val (.ref a), .val (.long q), .second, .val .null, .val .null, .val .null, .val .null, .val .null, .val .null] [(.ref a)])
  refine Go.st (fun _ => XS.lloadN X1.here hx rfl (hb hby d5_5) rfl) ?_
  show Go p e below s _ _ _ T1 (mkF m 6 #[.val (.ref a), .val (.long q), .second, .val .null, .val .null, .val .null, .val .null, .val .null, .val .null] [(.long q), (.ref a)])
  obtain ⟨T2, h2, X2, e2, W2, st2⟩ := putF X1 hx hZ hown (host := "") (Or.inl (hw _ (List.mem_of_getElem? (i := 38) rfl))) Via.refl e1 F_sequence_a E_a (Or.inr ⟨(hw _ (List.mem_of_getElem? (i := 39) rfl)), rfl, hnm⟩) (hw _ (List.mem_of_getElem? (i := 27) rfl)) (ty := .long) (by decide) rfl rfl (g := (mkF m 6 #[.val (.ref a), .val (.long q), .second, .val .null, .val .null, .val .null, .val .null, .val .null, .val .null] [(.long q), (.ref a)])) rfl rfl (hb hby d5_6)
  refine Go.st st2 ?_
  have N2 := Fr.snoc X2 N1 g_a
  have K2 : Keep h0 h2 [a] := (Keep.refl h0 [a]).wr W2 (Or.inl (List.mem_of_getElem? (i := 0) rfl))
  have z2 : n0 ≤ h2.size := Nat.le_trans Z0 (Nat.le_of_eq W2.size.symm)
  have Fw2 := F_sequence_a.same W2
  show Go p e below s _ _ _ T2 (mkF m 9 #[.val (.ref a), .val (.long q), .second, .val .null, .val .null, .val .null, .val .null, .val .null, .val .null] [])
  refine Go.st (fun _ => XS.aloadN X2.here hx rfl (hb hby d5_9) rfl rfl) ?_
  show Go p e below s _ _ _ T2 (mkF m 10 #[.val (.ref a), .val (.long q), .second, .val .null, .val .null, .val .null, .val .null, .val .null, .val .null] [(.ref a)])
  refine Go.st (fun _ => XS.aloadN X2.here hx rfl (hb hby d5_10) rfl rfl) ?_
  show Go p e below s _ _ _ T2 (mkF m 11 #[.val (.ref a), .val (.long q), .second, .val .null, .val .null, .val .null, .val .null, .val .null, .val .null] [.null, (.ref a)])
  have f3 := (E_a.wr W2)
  have f4 := (F_time_a.other W2 (Or.inr (slot_ne (Or.inr (hw _ (List.mem_of_getElem? (i := 41) rfl))) (Or.inr (hw _ (List.mem_of_getElem? (i := 39) rfl))) (by decide) (t := (.object "java/lang/String")) (t' := .long) (by decide) (by decide))))
  obtain ⟨T5, h5, X5, e5, W5, st5⟩ := putF X2 hx hZ hown (host := "") (Or.inl (hw _ (List.mem_of_getElem? (i := 40) rfl))) Via.refl e2 f4 f3 (Or.inr ⟨(hw _ (List.mem_of_getElem? (i := 41) rfl)), rfl, hnm⟩) (hw _ (List.mem_of_getElem? (i := 27) rfl)) (ty := (.object "java/lang/String")) (by decide) rfl rfl (g := (mkF m 11 #[.val (.ref a), .val (.long q), .second, .val .null, .val .null, .val .null, .val .null, .val .null, .val .null] [.null, (.ref a)])) rfl rfl (hb hby d5_11)
  refine Go.st st5 ?_
  have N5 := Fr.snoc X5 N2 g_a
  have K5 : Keep h0 h5 [a] := K2.wr W5 (Or.inl (List.mem_of_getElem? (i := 0) rfl))
  have z5 : n0 ≤ h5.size := Nat.le_trans z2 (Nat.le_of_eq W5.size.symm)
  have Fw5 := f4.same W5
  show Go p e below s _ _ _ T5 (mkF m 14 #[.val (.ref a), .val (.long q), .second, .val .null, .val .null, .val .null, .val .null, .val .null, .val .null] [])
  refine Go.st (fun _ => XS.aloadN X5.here hx rfl (hb hby d5_14) rfl rfl) ?_
  show Go p e below s _ _ _ T5 (mkF m 15 #[.val (.ref a), .val (.long q), .second, .val .null, .val .null, .val .null, .val .null, .val .null, .val .null] [(.ref a)])
  refine Go.st (fun _ => XS.aload X5.here hx rfl (hb hby d5_15) rfl rfl) ?_
  show Go p e below s _ _ _ T5 (mkF m 17 #[.val (.ref a), .val (.long q), .second, .val .null, .val .null, .val .null, .val .null, .val .null, .val .null] [.null, (.ref a)])
  have f6 := (f3.wr W5)
  have f7 := ((F_actor_a.other W2 (Or.inr (slot_ne (Or.inr (hw _ (List.mem_of_getElem? (i := 43) rfl))) (Or.inr (hw _ (List.mem_of_getElem? (i := 39) rfl))) (by decide) (t := (.object "java/lang/String")) (t' := .long) (by decide) (by decide)))).other W5 (Or.inr (slot_ne (Or.inr (hw _ (List.mem_of_getElem? (i := 43) rfl))) (Or.inr (hw _ (List.mem_of_getElem? (i := 41) rfl))) (by decide) (t := (.object "java/lang/String")) (t' := (.object "java/lang/String")) (by decide) (by decide))))
  obtain ⟨T8, h8, X8, e8, W8, st8⟩ := putF X5 hx hZ hown (host := "") (Or.inl (hw _ (List.mem_of_getElem? (i := 42) rfl))) Via.refl e5 f7 f6 (Or.inr ⟨(hw _ (List.mem_of_getElem? (i := 43) rfl)), rfl, hnm⟩) (hw _ (List.mem_of_getElem? (i := 27) rfl)) (ty := (.object "java/lang/String")) (by decide) rfl rfl (g := (mkF m 17 #[.val (.ref a), .val (.long q), .second, .val .null, .val .null, .val .null, .val .null, .val .null, .val .null] [.null, (.ref a)])) rfl rfl (hb hby d5_17)
  refine Go.st st8 ?_
  have N8 := Fr.snoc X8 N5 g_a
  have K8 : Keep h0 h8 [a] := K5.wr W8 (Or.inl (List.mem_of_getElem? (i := 0) rfl))
  have z8 : n0 ≤ h8.size := Nat.le_trans z5 (Nat.le_of_eq W8.size.symm)
  have Fw8 := f7.same W8
  show Go p e below s _ _ _ T8 (mkF m 20 #[.val (.ref a), .val (.long q), .second, .val .null, .val .null, .val .null, .val .null, .val .null, .val .null] [])
  refine Go.st (fun _ => XS.aloadN X8.here hx rfl (hb hby d5_20) rfl rfl) ?_
  show Go p e below s _ _ _ T8 (mkF m 21 #[.val (.ref a), .val (.long q), .second, .val .null, .val .null, .val .null, .val .null, .val .null, .val .null] [(.ref a)])
  refine Go.st (fun _ => XS.aload X8.here hx rfl (hb hby d5_21) rfl rfl) ?_
  show Go p e below s _ _ _ T8 (mkF m 23 #[.val (.ref a), .val (.long q), .second, .val .null, .val .null, .val .null, .val .null, .val .null, .val .null] [.null, (.ref a)])
  have f9 := (f6.wr W8)
  have f10 := (((F_required_a.other W2 (Or.inr (slot_ne (Or.inr (hw _ (List.mem_of_getElem? (i := 45) rfl))) (Or.inr (hw _ (List.mem_of_getElem? (i := 39) rfl))) (by decide) (t := (.object "java/lang/String")) (t' := .long) (by decide) (by decide)))).other W5 (Or.inr (slot_ne (Or.inr (hw _ (List.mem_of_getElem? (i := 45) rfl))) (Or.inr (hw _ (List.mem_of_getElem? (i := 41) rfl))) (by decide) (t := (.object "java/lang/String")) (t' := (.object "java/lang/String")) (by decide) (by decide)))).other W8 (Or.inr (slot_ne (Or.inr (hw _ (List.mem_of_getElem? (i := 45) rfl))) (Or.inr (hw _ (List.mem_of_getElem? (i := 43) rfl))) (by decide) (t := (.object "java/lang/String")) (t' := (.object "java/lang/String")) (by decide) (by decide))))
  obtain ⟨T11, h11, X11, e11, W11, st11⟩ := putF X8 hx hZ hown (host := "") (Or.inl (hw _ (List.mem_of_getElem? (i := 44) rfl))) Via.refl e8 f10 f9 (Or.inr ⟨(hw _ (List.mem_of_getElem? (i := 45) rfl)), rfl, hnm⟩) (hw _ (List.mem_of_getElem? (i := 27) rfl)) (ty := (.object "java/lang/String")) (by decide) rfl rfl (g := (mkF m 23 #[.val (.ref a), .val (.long q), .second, .val .null, .val .null, .val .null, .val .null, .val .null, .val .null] [.null, (.ref a)])) rfl rfl (hb hby d5_23)
  refine Go.st st11 ?_
  have N11 := Fr.snoc X11 N8 g_a
  have K11 : Keep h0 h11 [a] := K8.wr W11 (Or.inl (List.mem_of_getElem? (i := 0) rfl))
  have z11 : n0 ≤ h11.size := Nat.le_trans z8 (Nat.le_of_eq W11.size.symm)
  have Fw11 := f10.same W11
  show Go p e below s _ _ _ T11 (mkF m 26 #[.val (.ref a), .val (.long q), .second, .val .null, .val .null, .val .null, .val .null, .val .null, .val .null] [])
  refine Go.st (fun _ => XS.aloadN X11.here hx rfl (hb hby d5_26) rfl rfl) ?_
  show Go p e below s _ _ _ T11 (mkF m 27 #[.val (.ref a), .val (.long q), .second, .val .null, .val .null, .val .null, .val .null, .val .null, .val .null] [(.ref a)])
  refine Go.st (fun _ => XS.aload X11.here hx rfl (hb hby d5_27) rfl rfl) ?_
  show Go p e below s _ _ _ T11 (mkF m 29 #[.val (.ref a), .val (.long q), .second, .val .null, .val .null, .val .null, .val .null, .val .null, .val .null] [.null, (.ref a)])
  have f12 := (f9.wr W11)
  have f13 := ((((F_change_a.other W2 (Or.inr (slot_ne (Or.inr (hw _ (List.mem_of_getElem? (i := 47) rfl))) (Or.inr (hw _ (List.mem_of_getElem? (i := 39) rfl))) (by decide) (t := (.object "java/lang/String")) (t' := .long) (by decide) (by decide)))).other W5 (Or.inr (slot_ne (Or.inr (hw _ (List.mem_of_getElem? (i := 47) rfl))) (Or.inr (hw _ (List.mem_of_getElem? (i := 41) rfl))) (by decide) (t := (.object "java/lang/String")) (t' := (.object "java/lang/String")) (by decide) (by decide)))).other W8 (Or.inr (slot_ne (Or.inr (hw _ (List.mem_of_getElem? (i := 47) rfl))) (Or.inr (hw _ (List.mem_of_getElem? (i := 43) rfl))) (by decide) (t := (.object "java/lang/String")) (t' := (.object "java/lang/String")) (by decide) (by decide)))).other W11 (Or.inr (slot_ne (Or.inr (hw _ (List.mem_of_getElem? (i := 47) rfl))) (Or.inr (hw _ (List.mem_of_getElem? (i := 45) rfl))) (by decide) (t := (.object "java/lang/String")) (t' := (.object "java/lang/String")) (by decide) (by decide))))
  obtain ⟨T14, h14, X14, e14, W14, st14⟩ := putF X11 hx hZ hown (host := "") (Or.inl (hw _ (List.mem_of_getElem? (i := 46) rfl))) Via.refl e11 f13 f12 (Or.inr ⟨(hw _ (List.mem_of_getElem? (i := 47) rfl)), rfl, hnm⟩) (hw _ (List.mem_of_getElem? (i := 27) rfl)) (ty := (.object "java/lang/String")) (by decide) rfl rfl (g := (mkF m 29 #[.val (.ref a), .val (.long q), .second, .val .null, .val .null, .val .null, .val .null, .val .null, .val .null] [.null, (.ref a)])) rfl rfl (hb hby d5_29)
  refine Go.st st14 ?_
  have N14 := Fr.snoc X14 N11 g_a
  have K14 : Keep h0 h14 [a] := K11.wr W14 (Or.inl (List.mem_of_getElem? (i := 0) rfl))
  have z14 : n0 ≤ h14.size := Nat.le_trans z11 (Nat.le_of_eq W14.size.symm)
  have Fw14 := f13.same W14
  show Go p e below s _ _ _ T14 (mkF m 32 #[.val (.ref a), .val (.long q), .second, .val .null, .val .null, .val .null, .val .null, .val .null, .val .null] [])
  refine Go.st (fun _ => XS.aloadN X14.here hx rfl (hb hby d5_32) rfl rfl) ?_
  show Go p e below s _ _ _ T14 (mkF m 33 #[.val (.ref a), .val (.long q), .second, .val .null, .val .null, .val .null, .val .null, .val .null, .val .null] [(.ref a)])
  refine Go.st (fun _ => XS.aload X14.here hx rfl (hb hby d5_33) rfl rfl) ?_
  show Go p e below s _ _ _ T14 (mkF m 35 #[.val (.ref a), .val (.long q), .second, .val .null, .val .null, .val .null, .val .null, .val .null, .val .null] [.null, (.ref a)])
  have f15 := (f12.wr W14)
  have f16 := (((((F_outcome_a.other W2 (Or.inr (slot_ne (Or.inr (hw _ (List.mem_of_getElem? (i := 49) rfl))) (Or.inr (hw _ (List.mem_of_getElem? (i := 39) rfl))) (by decide) (t := (.object "com/example/plaingrant/plaingrant/store/AuditEntry$Outcome")) (t' := .long) (by decide) (by decide)))).other W5 (Or.inr (slot_ne (Or.inr (hw _ (List.mem_of_getElem? (i := 49) rfl))) (Or.inr (hw _ (List.mem_of_getElem? (i := 41) rfl))) (by decide) (t := (.object "com/example/plaingrant/plaingrant/store/AuditEntry$Outcome")) (t' := (.object "java/lang/String")) (by decide) (by decide)))).other W8 (Or.inr (slot_ne (Or.inr (hw _ (List.mem_of_getElem? (i := 49) rfl))) (Or.inr (hw _ (List.mem_of_getElem? (i := 43) rfl))) (by decide) (t := (.object "com/example/plaingrant/plaingrant/store/AuditEntry$Outcome")) (t' := (.object "java/lang/String")) (by decide) (by decide)))).other W11 (Or.inr (slot_ne (Or.inr (hw _ (List.mem_of_getElem? (i := 49) rfl))) (Or.inr (hw _ (List.mem_of_getElem? (i := 45) rfl))) (by decide) (t := (.object "com/example/plaingrant/plaingrant/store/AuditEntry$Outcome")) (t' := (.object "java/lang/String")) (by decide) (by decide)))).other W14 (Or.inr (slot_ne (Or.inr (hw _ (List.mem_of_getElem? (i := 49) rfl))) (Or.inr (hw _ (List.mem_of_getElem? (i := 47) rfl))) (by decide) (t := (.object "com/example/plaingrant/plaingrant/store/AuditEntry$Outcome")) (t' := (.object "java/lang/String")) (by decide) (by decide))))
  obtain ⟨T17, h17, X17, e17, W17, st17⟩ := putF X14 hx hZ hown (host := "") (Or.inl (hw _ (List.mem_of_getElem? (i := 48) rfl))) Via.refl e14 f16 f15 (Or.inr ⟨(hw _ (List.mem_of_getElem? (i := 49) rfl)), rfl, hnm⟩) (hw _ (List.mem_of_getElem? (i := 27) rfl)) (ty := (.object "com/example/plaingrant/plaingrant/store/AuditEntry$Outcome")) (by decide) rfl rfl (g := (mkF m 35 #[.val (.ref a), .val (.long q), .second, .val .null, .val .null, .val .null, .val .null, .val .null, .val .null] [.null, (.ref a)])) rfl rfl (hb hby d5_35)
  refine Go.st st17 ?_
  have N17 := Fr.snoc X17 N14 g_a
  have K17 : Keep h0 h17 [a] := K14.wr W17 (Or.inl (List.mem_of_getElem? (i := 0) rfl))
  have z17 : n0 ≤ h17.size := Nat.le_trans z14 (Nat.le_of_eq W17.size.symm)
  have Fw17 := f16.same W17
  show Go p e below s _ _ _ T17 (mkF m 38 #[.val (.ref a), .val (.long q), .second, .val .null, .val .null, .val .null, .val .null, .val .null, .val .null] [])
  refine Go.st (fun _ => XS.aloadN X17.here hx rfl (hb hby d5_38) rfl rfl) ?_
  show Go p e below s _ _ _ T17 (mkF m 39 #[.val (.ref a), .val (.long q), .second, .val .null, .val .null, .val .null, .val .null, .val .null, .val .null] [(.ref a)])
  refine Go.st (fun _ => XS.aload X17.here hx rfl (hb hby d5_39) rfl rfl) ?_
  show Go p e below s _ _ _ T17 (mkF m 41 #[.val (.ref a), .val (.long q), .second, .val .null, .val .null, .val .null, .val .null, .val .null, .val .null] [.null, (.ref a)])
  have f18 := (f15.wr W17)
  have f19 := ((((((F_hash_a.other W2 (Or.inr (slot_ne (Or.inr (hw _ (List.mem_of_getElem? (i := 51) rfl))) (Or.inr (hw _ (List.mem_of_getElem? (i := 39) rfl))) (by decide) (t := (.object "java/lang/String")) (t' := .long) (by decide) (by decide)))).other W5 (Or.inr (slot_ne (Or.inr (hw _ (List.mem_of_getElem? (i := 51) rfl))) (Or.inr (hw _ (List.mem_of_getElem? (i := 41) rfl))) (by decide) (t := (.object "java/lang/String")) (t' := (.object "java/lang/String")) (by decide) (by decide)))).other W8 (Or.inr (slot_ne (Or.inr (hw _ (List.mem_of_getElem? (i := 51) rfl))) (Or.inr (hw _ (List.mem_of_getElem? (i := 43) rfl))) (by decide) (t := (.object "java/lang/String")) (t' := (.object "java/lang/String")) (by decide) (by decide)))).other W11 (Or.inr (slot_ne (Or.inr (hw _ (List.mem_of_getElem? (i := 51) rfl))) (Or.inr (hw _ (List.mem_of_getElem? (i := 45) rfl))) (by decide) (t := (.object "java/lang/String")) (t' := (.object "java/lang/String")) (by decide) (by decide)))).other W14 (Or.inr (slot_ne (Or.inr (hw _ (List.mem_of_getElem? (i := 51) rfl))) (Or.inr (hw _ (List.mem_of_getElem? (i := 47) rfl))) (by decide) (t := (.object "java/lang/String")) (t' := (.object "java/lang/String")) (by decide) (by decide)))).other W17 (Or.inr (slot_ne (Or.inr (hw _ (List.mem_of_getElem? (i := 51) rfl))) (Or.inr (hw _ (List.mem_of_getElem? (i := 49) rfl))) (by decide) (t := (.object "java/lang/String")) (t' := (.object "com/example/plaingrant/plaingrant/store/AuditEntry$Outcome")) (by decide) (by decide))))
  obtain ⟨T20, h20, X20, e20, W20, st20⟩ := putF X17 hx hZ hown (host := "") (Or.inl (hw _ (List.mem_of_getElem? (i := 50) rfl))) Via.refl e17 f19 f18 (Or.inr ⟨(hw _ (List.mem_of_getElem? (i := 51) rfl)), rfl, hnm⟩) (hw _ (List.mem_of_getElem? (i := 27) rfl)) (ty := (.object "java/lang/String")) (by decide) rfl rfl (g := (mkF m 41 #[.val (.ref a), .val (.long q), .second, .val .null, .val .null, .val .null, .val .null, .val .null, .val .null] [.null, (.ref a)])) rfl rfl (hb hby d5_41)
  refine Go.st st20 ?_
  have N20 := Fr.snoc X20 N17 g_a
  have K20 : Keep h0 h20 [a] := K17.wr W20 (Or.inl (List.mem_of_getElem? (i := 0) rfl))
  have z20 : n0 ≤ h20.size := Nat.le_trans z17 (Nat.le_of_eq W20.size.symm)
  have Fw20 := f19.same W20
  show Go p e below s _ _ _ T20 (mkF m 44 #[.val (.ref a), .val (.long q), .second, .val .null, .val .null, .val .null, .val .null, .val .null, .val .null] [])
  have f21 := (f18.wr W20)
  have f22 := ((((((Fw2.other W5 (Or.inr (slot_ne (Or.inr (hw _ (List.mem_of_getElem? (i := 39) rfl))) (Or.inr (hw _ (List.mem_of_getElem? (i := 41) rfl))) (by decide) (t := .long) (t' := (.object "java/lang/String")) (by decide) (by decide)))).other W8 (Or.inr (slot_ne (Or.inr (hw _ (List.mem_of_getElem? (i := 39) rfl))) (Or.inr (hw _ (List.mem_of_getElem? (i := 43) rfl))) (by decide) (t := .long) (t' := (.object "java/lang/String")) (by decide) (by decide)))).other W11 (Or.inr (slot_ne (Or.inr (hw _ (List.mem_of_getElem? (i := 39) rfl))) (Or.inr (hw _ (List.mem_of_getElem? (i := 45) rfl))) (by decide) (t := .long) (t' := (.object "java/lang/String")) (by decide) (by decide)))).other W14 (Or.inr (slot_ne (Or.inr (hw _ (List.mem_of_getElem? (i := 39) rfl))) (Or.inr (hw _ (List.mem_of_getElem? (i := 47) rfl))) (by decide) (t := .long) (t' := (.object "java/lang/String")) (by decide) (by decide)))).other W17 (Or.inr (slot_ne (Or.inr (hw _ (List.mem_of_getElem? (i := 39) rfl))) (Or.inr (hw _ (List.mem_of_getElem? (i := 49) rfl))) (by decide) (t := .long) (t' := (.object "com/example/plaingrant/plaingrant/store/AuditEntry$Outcome")) (by decide) (by decide)))).other W20 (Or.inr (slot_ne (Or.inr (hw _ (List.mem_of_getElem? (i := 39) rfl))) (Or.inr (hw _ (List.mem_of_getElem? (i := 51) rfl))) (by decide) (t := .long) (t' := (.object "java/lang/String")) (by decide) (by decide))))
  exact Go.ret0 X20 hx hlk Bd.returns (hb hby d5_44) (by rw [e20]; exact ⟨rfl, N20, K20, f21, f22⟩) (by decide) (by decide)
theorem d11_0 : decode jdk_29_method_65_code 0 = .ok (.iload_n 0, 1) := by decide +kernel
theorem d11_1 : decode jdk_29_method_65_code 1 = .ok (.iload_n 1, 1) := by decide +kernel
theorem d11_2 : decode jdk_29_method_65_code 2 = .ok (.if_icmp .lt 7, 3) := by decide +kernel
theorem d11_9 : decode jdk_29_method_65_code 9 = .ok (.iload_n 1, 1) := by decide +kernel
theorem d11_10 : decode jdk_29_method_65_code 10 = .ok (.ireturn, 1) := by decide +kernel
theorem d11_5 : decode jdk_29_method_65_code 5 = .ok (.iload_n 0, 1) := by decide +kernel
theorem d11_6 : decode jdk_29_method_65_code 6 = .ok (.goto 4, 3) := by decide +kernel
theorem ef_rmMx (m : MethodId) (p1 : Int32) (p2 : Int32) : entryFrame m #[(.int p1), (.int p2)] 2 = mkF m 0 #[.val (.int p1), .val (.int p2)] [] := by first | (simp [entryFrame, mkF, argsToLocals, Value.category]; done) | rfl
def QrmMx (Z : State) (p1 : Int32) (p2 : Int32) (h0 : Heap) (n0 : Nat) (rV : Option Value) (hE : Heap) (LE : List Loc) : Prop := rV = some (.int (if p1 < p2 then p2 else p1)) ∧ Fr n0 LE ∧ hE = h0
set_option maxRecDepth 65536 in
set_option maxHeartbeats 40000000 in
theorem rmMx (l : Launch) (Z : State) (a0 : Array Value) (hw : ∀ d ∈ tables_1, d.before a0 Z = true) (ws : List Jvm.Cond) (p1 : Int32) (p2 : Int32) (h0 : Heap) (n0 : Nat) (Z0 : n0 ≤ h0.size) :
    MetFree l (⟨"java/lang/Math", "max", "(II)I"⟩ : MethodName) (head1 (Jvm.Cond.code (⟨"java/lang/Math", "max", "(II)I"⟩ : MethodName) jdk_29_method_65_code 2 (some .int) :: ws) ({ frames := 0, cells := 0, slots := 0, locals := 0 } : Room)) (fun aA UA => aA = #[(.int p1), (.int p2)] ∧ Z.Warmed39 UA.vm ∧ UA.heap = h0) (fun _ _ _ _ _ => True) (fun _ UA oA UB => ∃ rV LE, oA = .returned rV ∧ QrmMx Z p1 p2 h0 n0 rV UB.heap LE ∧ FrameEnd UA oA UB LE ({ frames := 0, cells := 0, slots := 0, locals := 0 } : Room).cells ({ frames := 0, cells := 0, slots := 0, locals := 0 } : Room).slots) := by
  refine MetFree.of_bodySF (Jvm.Free.JP.mathPlain rfl (by decide +kernel)) hisR ?_
  intro p e s m args below meth c s₁ Bd hml0 hP hK
  obtain ⟨rfl, hZ, hh⟩ := hP
  have hx := Bd.exec
  have hby := Bd.bytes
  have hml : c.maxLocals = 2 := hml0
  have hown : s.vm.findClass "java/lang/Math" = some m.cls := findClass_of_methodNamed Bd.named
  have hnm := (name_of_methodNamed Bd.named Bd.method).1
  have hlk := Bd.notSynchronized
  have X0 : Stand p l e ({ frames := 0, cells := 0, slots := 0, locals := 0 } : Room) s m #[(.int p1), (.int p2)] below meth c s₁ [] 0 0 := Stand.of_body Bd
  have e0 : s₁.heap = h0 := by rw [← hh, Bd.state]; rfl
  have N0 := Fr.nil n0
  show Go p e below s (QrmMx Z p1 p2 h0 n0) ({ frames := 0, cells := 0, slots := 0, locals := 0 } : Room).cells ({ frames := 0, cells := 0, slots := 0, locals := 0 } : Room).slots s₁ (entryFrame m #[(.int p1), (.int p2)] 2)
  refine Go.eq (ef_rmMx m p1 p2) ?_
  show Go p e below s _ _ _ s₁ (mkF m 0 #[.val (.int p1), .val (.int p2)] [])
  refine Go.st (fun _ => XS.iloadN X0.here hx rfl (hb hby d11_0) rfl) ?_
  show Go p e below s _ _ _ s₁ (mkF m 1 #[.val (.int p1), .val (.int p2)] [(.int p1)])
  refine Go.st (fun _ => XS.iloadN X0.here hx rfl (hb hby d11_1) rfl) ?_
  show Go p e below s _ _ _ s₁ (mkF m 2 #[.val (.int p1), .val (.int p2)] [(.int p2), (.int p1)])
  by_cases hc1 : p1 < p2
  · refine Go.st (fun _ => XS.icmpYes X0.here hx rfl (pc0 := 2) (pc' := 9) rfl (hb hby d11_2) rfl (tlt hc1).1 (by decide) (by decide)) ?_
    show Go p e below s _ _ _ s₁ (mkF m 9 #[.val (.int p1), .val (.int p2)] [])
    refine Go.st (fun _ => XS.iloadN X0.here hx rfl (hb hby d11_9) rfl) ?_
    show Go p e below s _ _ _ s₁ (mkF m 10 #[.val (.int p1), .val (.int p2)] [(.int p2)])
    exact Go.retI X0 hx hlk Bd.returns (hb hby d11_10) (by rw [e0]; exact ⟨(by rw [if_pos hc1]), N0, rfl⟩) (by decide) (by decide)
  · refine Go.st (fun _ => XS.icmpNo X0.here hx rfl (hb hby d11_2) rfl (flt hc1).1) ?_
    show Go p e below s _ _ _ s₁ (mkF m 5 #[.val (.int p1), .val (.int p2)] [])
    refine Go.st (fun _ => XS.iloadN X0.here hx rfl (hb hby d11_5) rfl) ?_
    show Go p e below s _ _ _ s₁ (mkF m 6 #[.val (.int p1), .val (.int p2)] [(.int p1)])
    refine Go.st (fun _ => XS.goto X0.here hx rfl (pc0 := 6) (pc' := 10) rfl (hb hby d11_6) (by decide) (by decide)) ?_
    show Go p e below s _ _ _ s₁ (mkF m 10 #[.val (.int p1), .val (.int p2)] [(.int p1)])
    exact Go.retI X0 hx hlk Bd.returns (hb hby d11_10) (by rw [e0]; exact ⟨(by rw [if_neg hc1]), N0, rfl⟩) (by decide) (by decide)
theorem d10_0 : decode jdk_38_method_6_code 0 = .ok (.aload_n 0, 1) := by decide +kernel
theorem d10_1 : decode jdk_38_method_6_code 1 = .ok (.getfield 9, 3) := by decide +kernel
theorem d10_4 : decode jdk_38_method_6_code 4 = .ok (.arraylength, 1) := by decide +kernel
theorem d10_5 : decode jdk_38_method_6_code 5 = .ok (.istore_n 2, 1) := by decide +kernel
theorem d10_6 : decode jdk_38_method_6_code 6 = .ok (.iload_n 2, 1) := by decide +kernel
theorem d10_7 : decode jdk_38_method_6_code 7 = .ok (.ifCond .gt 13, 3) := by decide +kernel
theorem d10_10 : decode jdk_38_method_6_code 10 = .ok (.aload_n 0, 1) := by decide +kernel
theorem d10_11 : decode jdk_38_method_6_code 11 = .ok (.getfield 9, 3) := by decide +kernel
theorem d10_14 : decode jdk_38_method_6_code 14 = .ok (.getstatic 39, 3) := by decide +kernel
theorem d10_17 : decode jdk_38_method_6_code 17 = .ok (.if_acmp .eq 28, 3) := by decide +kernel
theorem d10_45 : decode jdk_38_method_6_code 45 = .ok (.aload_n 0, 1) := by decide +kernel
theorem d10_46 : decode jdk_38_method_6_code 46 = .ok (.bipush 10, 2) := by decide +kernel
theorem d10_48 : decode jdk_38_method_6_code 48 = .ok (.iload_n 1, 1) := by decide +kernel
theorem d10_49 : decode jdk_38_method_6_code 49 = .ok (.invokestatic 79, 3) := by decide +kernel
theorem pd_1 : parseMethodDescriptor "(II)I" = some ⟨[.int, .int], some .int⟩ := by decide +kernel
theorem d10_52 : decode jdk_38_method_6_code 52 = .ok (.anewarray 7, 3) := by decide +kernel
theorem d10_55 : decode jdk_38_method_6_code 55 = .ok (.dup_x1, 1) := by decide +kernel
theorem d10_56 : decode jdk_38_method_6_code 56 = .ok (.putfield 9, 3) := by decide +kernel
theorem d10_59 : decode jdk_38_method_6_code 59 = .ok (.areturn, 1) := by decide +kernel
theorem ef_rmG1 (m : MethodId) (a : Addr) : entryFrame m #[(.ref a), (.int (1 : Int32))] 4 = mkF m 0 #[.val (.ref a), .val (.int (1 : Int32)), .unset, .unset] [] := by first | (simp [entryFrame, mkF, argsToLocals, Value.category]; done) | rfl
def QrmG1 (Z : State) (a : Addr) (u : Addr) (ku : ClassId) (mc : Int32) (h0 : Heap) (n0 : Nat) (rV : Option Value) (hE : Heap) (LE : List Loc) : Prop := ∃ t : Addr, ∃ kt : ClassId, rV = some (.ref t) ∧ Fr n0 LE ∧ Keep h0 hE [a] ∧ h0.size ≤ t ∧ n0 ≤ t ∧ Exa Z hE a "java/util/ArrayList" ∧ Fld Z hE a "java/util/AbstractList" "modCount" "I" (.int mc) ∧ Fld Z hE a "java/util/ArrayList" "size" "I" (.int (0 : Int32)) ∧ Fld Z hE a "java/util/ArrayList" "elementData" "[Ljava/lang/Object;" (.ref t) ∧ Arv Z hE t kt (.object "java/lang/Object") (10 : Int32) [.null, .null, .null, .null, .null, .null, .null, .null, .null, .null] .null ∧ Ovr Z kt "java/lang/Object"
set_option maxRecDepth 65536 in
set_option maxHeartbeats 40000000 in
theorem rmG1 (l : Launch) (Z : State) (a0 : Array Value) (hw : ∀ d ∈ tables_1, d.before a0 Z = true) (ws : List Jvm.Cond) (a : Addr) (u : Addr) (ku : ClassId) (mc : Int32) (h0 : Heap) (n0 : Nat) (Z0 : n0 ≤ h0.size) (E_a : Exa Z h0 a "java/util/ArrayList") (F_modCount_a : Fld Z h0 a "java/util/AbstractList" "modCount" "I" (.int mc)) (F_size_a : Fld Z h0 a "java/util/ArrayList" "size" "I" (.int (0 : Int32))) (F_elementData_a : Fld Z h0 a "java/util/ArrayList" "elementData" "[Ljava/lang/Object;" (.ref u)) (S_DEFAULTCAPACITY_EMPTY_ELEMENTDATA : Sta Z h0 "java/util/ArrayList" "DEFAULTCAPACITY_EMPTY_ELEMENTDATA" "[Ljava/lang/Object;" (.ref u)) (V_u : Arv Z h0 u ku (.object "java/lang/Object") (0 : Int32) [] .null) (g_a : n0 ≤ a) (ne_u_a : u ≠ a) :
    MetFree l (⟨"java/util/ArrayList", "grow", "(I)[Ljava/lang/Object;"⟩ : MethodName) (head1 (Jvm.Cond.code (⟨"java/util/ArrayList", "grow", "(I)[Ljava/lang/Object;"⟩ : MethodName) jdk_38_method_6_code 4 (some (.array (.object "java/lang/Object"))) :: ws) ({ frames := 1, cells := 1, slots := 10, locals := 14 } : Room)) (fun aA UA => aA = #[(.ref a), (.int (1 : Int32))] ∧ Z.Warmed39 UA.vm ∧ UA.heap = h0) (fun _ _ _ _ _ => True) (fun _ UA oA UB => ∃ rV LE, oA = .returned rV ∧ QrmG1 Z a u ku mc h0 n0 rV UB.heap LE ∧ FrameEnd UA oA UB LE ({ frames := 1, cells := 1, slots := 10, locals := 14 } : Room).cells ({ frames := 1, cells := 1, slots := 10, locals := 14 } : Room).slots) := by
  refine MetFree.of_bodySF (plainFor_of_name pn_2) hisR ?_
  intro p e s m args below meth c s₁ Bd hml0 hP hK
  obtain ⟨rfl, hZ, hh⟩ := hP
  have hx := Bd.exec
  have hby := Bd.bytes
  have hml : c.maxLocals = 4 := hml0
  have hown : s.vm.findClass "java/util/ArrayList" = some m.cls := findClass_of_methodNamed Bd.named
  have hnm := (name_of_methodNamed Bd.named Bd.method).1
  have hlk := Bd.notSynchronized
  have X0 : Stand p l e ({ frames := 1, cells := 1, slots := 10, locals := 14 } : Room) s m #[(.ref a), (.int (1 : Int32))] below meth c s₁ [] 0 0 := Stand.of_body Bd
  have e0 : s₁.heap = h0 := by rw [← hh, Bd.state]; rfl
  have N0 := Fr.nil n0
  show Go p e below s (QrmG1 Z a u ku mc h0 n0) ({ frames := 1, cells := 1, slots := 10, locals := 14 } : Room).cells ({ frames := 1, cells := 1, slots := 10, locals := 14 } : Room).slots s₁ (entryFrame m #[(.ref a), (.int (1 : Int32))] 4)
  refine Go.eq (ef_rmG1 m a) ?_
  show Go p e below s _ _ _ s₁ (mkF m 0 #[.val (.ref a), .val (.int (1 : Int32)), .unset, .unset] [])
  refine Go.st (fun _ => XS.aloadN X0.here hx rfl (hb hby d10_0) rfl rfl) ?_
  show Go p e below s _ _ _ s₁ (mkF m 1 #[.val (.ref a), .val (.int (1 : Int32)), .unset, .unset] [(.ref a)])
  obtain ⟨T1, X1, e1, st1⟩ := getF X0 hx hZ hown (host := "") (Or.inl (hw _ (List.mem_of_getElem? (i := 24) rfl))) Via.refl e0 F_elementData_a (g := (mkF m 1 #[.val (.ref a), .val (.int (1 : Int32)), .unset, .unset] [(.ref a)])) rfl rfl (hb hby d10_1)
  refine Go.st st1 ?_
  show Go p e below s _ _ _ T1 (mkF m 4 #[.val (.ref a), .val (.int (1 : Int32)), .unset, .unset] [(.ref u)])
  obtain ⟨cl2, Ar2, q2, S2, M2, H2, G2⟩ := id V_u
  refine Go.st (fun tG => X1.arraylength hx (by rw [e1]; exact Ar2.1) (State.isArrayOf_alike hZ.alike Ar2.2.1) (g := (mkF m 4 #[.val (.ref a), .val (.int (1 : Int32)), .unset, .unset] [(.ref u)])) rfl rfl (hb hby d10_4) tG) ?_
  rw [len_of S2 M2]
  show Go p e below s _ _ _ T1 (mkF m 5 #[.val (.ref a), .val (.int (1 : Int32)), .unset, .unset] [(.int (0 : Int32))])
  refine Go.st (fun _ => XS.istoreN X1.here hx rfl (hb hby d10_5) rfl (l' := #[.val (.ref a), .val (.int (1 : Int32)), .val (.int (0 : Int32)), .unset]) rfl) ?_
  show Go p e below s _ _ _ T1 (mkF m 6 #[.val (.ref a), .val (.int (1 : Int32)), .val (.int (0 : Int32)), .unset] [])
  refine Go.st (fun _ => XS.iloadN X1.here hx rfl (hb hby d10_6) rfl) ?_
  show Go p e below s _ _ _ T1 (mkF m 7 #[.val (.ref a), .val (.int (1 : Int32)), .val (.int (0 : Int32)), .unset] [(.int (0 : Int32))])
  refine Go.st (fun _ => XS.ifNo X1.here hx rfl (hb hby d10_7) rfl ((if0 _ _).trans (flt (by decide : ¬ ((0 : Int32) < (0 : Int32)))).2.2.1)) ?_
  show Go p e below s _ _ _ T1 (mkF m 10 #[.val (.ref a), .val (.int (1 : Int32)), .val (.int (0 : Int32)), .unset] [])
  refine Go.st (fun _ => XS.aloadN X1.here hx rfl (hb hby d10_10) rfl rfl) ?_
  show Go p e below s _ _ _ T1 (mkF m 11 #[.val (.ref a), .val (.int (1 : Int32)), .val (.int (0 : Int32)), .unset] [(.ref a)])
  obtain ⟨T3, X3, e3, st3⟩ := getF X1 hx hZ hown (host := "") (Or.inl (hw _ (List.mem_of_getElem? (i := 24) rfl))) Via.refl e1 F_elementData_a (g := (mkF m 11 #[.val (.ref a), .val (.int (1 : Int32)), .val (.int (0 : Int32)), .unset] [(.ref a)])) rfl rfl (hb hby d10_11)
  refine Go.st st3 ?_
  show Go p e below s _ _ _ T3 (mkF m 14 #[.val (.ref a), .val (.int (1 : Int32)), .val (.int (0 : Int32)), .unset] [(.ref u)])
  obtain ⟨T4, X4, e4, st4⟩ := getS2 X3 hx hZ hown (host := "") (Or.inl (hw _ (List.mem_of_getElem? (i := 23) rfl))) Via.refl e3 S_DEFAULTCAPACITY_EMPTY_ELEMENTDATA (g := (mkF m 14 #[.val (.ref a), .val (.int (1 : Int32)), .val (.int (0 : Int32)), .unset] [(.ref u)])) rfl (hb hby d10_14)
  refine Go.st st4 ?_
  show Go p e below s _ _ _ T4 (mkF m 17 #[.val (.ref a), .val (.int (1 : Int32)), .val (.int (0 : Int32)), .unset] [(.ref u), (.ref u)])
  refine Go.st (fun _ => Jvm.RoadKit.acmp (g := (mkF m 17 #[.val (.ref a), .val (.int (1 : Int32)), .val (.int (0 : Int32)), .unset] [(.ref u), (.ref u)])) X4 hx rfl rfl rfl (pc0 := 17) (pc' := 45) (same := true) rfl (hb hby d10_17) rfl (decide_eq_true rfl) (by decide) (by decide)) ?_
  show Go p e below s _ _ _ T4 (mkF m 45 #[.val (.ref a), .val (.int (1 : Int32)), .val (.int (0 : Int32)), .unset] [])
  refine Go.st (fun _ => XS.aloadN X4.here hx rfl (hb hby d10_45) rfl rfl) ?_
  show Go p e below s _ _ _ T4 (mkF m 46 #[.val (.ref a), .val (.int (1 : Int32)), .val (.int (0 : Int32)), .unset] [(.ref a)])
  refine Go.st (fun _ => XS.bipush X4.here hx rfl (hb hby d10_46)) ?_
  show Go p e below s _ _ _ T4 (mkF m 48 #[.val (.ref a), .val (.int (1 : Int32)), .val (.int (0 : Int32)), .unset] [(.int (10 : Int32)), (.ref a)])
  refine Go.st (fun _ => XS.iloadN X4.here hx rfl (hb hby d10_48) rfl) ?_
  show Go p e below s _ _ _ T4 (mkF m 49 #[.val (.ref a), .val (.int (1 : Int32)), .val (.int (0 : Int32)), .unset] [(.int (1 : Int32)), (.int (10 : Int32)), (.ref a)])
  obtain ⟨_, _, ⟨T5, L5, kc5, nc5⟩, -, X5, ⟨Lc5, hQ5, l5, y5, z5⟩, st5⟩ := Jvm.LawKit.callS X4 hx (y := (⟨"java/lang/Math", "max", "(II)I"⟩ : MethodName)) hown (mvT hZ (hw _ (List.mem_of_getElem? (i := 76) rfl))) (mvT hZ (hw _ (List.mem_of_getElem? (i := 77) rfl))) (mvT hZ (hw _ (List.mem_of_getElem? (i := 78) rfl))) (mvT hZ (hw _ (List.mem_of_getElem? (i := 79) rfl))) (by decide) (backOf (W := 1) (rmMx l Z a0 hw [] (10 : Int32) (1 : Int32) h0 n0 Z0 ) hZ (hw _ (List.mem_of_getElem? (i := 79) rfl)) (hw _ (List.mem_of_getElem? (i := 78) rfl)) (by decide) (by decide)) (g := (mkF m 49 #[.val (.ref a), .val (.int (1 : Int32)), .val (.int (0 : Int32)), .unset] [(.int (1 : Int32)), (.int (10 : Int32)), (.ref a)])) rfl (by rw [hml]; rfl) (argsL := [(.int (10 : Int32)), (.int (1 : Int32))]) (rest := [(.ref a)]) (lenOf pd_1 rfl) rfl (by show 2 * 0 + _ ≤ _; exact Nat.le_of_eq rfl) (hb hby d10_49) (fun _ _ => ⟨rfl, e4, (by decide : 0 + 0 ≤ _), (by decide : 0 + 0 ≤ _)⟩)
  dsimp only [Pt.U, Pt.locs, Pt.cells, Pt.slots] at X5 l5 y5 z5 st5 hQ5
  subst l5 y5 z5
  obtain ⟨h5, e5⟩ : ∃ hh, T5.heap = hh := ⟨_, rfl⟩
  rw [e5] at hQ5
  obtain ⟨rfl, N5q, sm5⟩ := hQ5
  have N5 := Fr.app N0 N5q
  refine Go.st st5 ?_
  rw [sm5] at e5
  show Go p e below s _ _ _ T5 (mkF m 52 #[.val (.ref a), .val (.int (1 : Int32)), .val (.int (0 : Int32)), .unset] [(.int (if (10 : Int32) < (1 : Int32) then (1 : Int32) else (10 : Int32))), (.ref a)])
  rw [show (if (10 : Int32) < (1 : Int32) then (1 : Int32) else (10 : Int32)) = (10 : Int32) from if_neg (by decide)]
  show Go p e below s _ _ _ T5 (mkF m 52 #[.val (.ref a), .val (.int (1 : Int32)), .val (.int (0 : Int32)), .unset] [(.int (10 : Int32)), (.ref a)])
  obtain ⟨T6, h6, kA6, X6, e6, E6, A6, O6, st6⟩ := newR X5 hx hZ hown (hw _ (List.mem_of_getElem? (i := 80) rfl)) (hw _ (List.mem_of_getElem? (i := 81) rfl)) e5 (g := (mkF m 52 #[.val (.ref a), .val (.int (1 : Int32)), .val (.int (0 : Int32)), .unset] [(.int (10 : Int32)), (.ref a)])) rfl (hb hby d10_52) rfl (by decide) (cap := 10) (by decide) (by decide) (by decide) (by decide)
  obtain ⟨b6, g6⟩ : ∃ z, z = h0.size := ⟨_, rfl⟩
  rw [← g6] at A6 st6
  refine Go.st st6 ?_
  have ne_a_b6 : a ≠ b6 := Nat.ne_of_lt (Nat.lt_of_lt_of_eq E_a.lt g6.symm)
  have ne_u_b6 : u ≠ b6 := Nat.ne_of_lt (Nat.lt_of_lt_of_eq V_u.lt g6.symm)
  have gg6 : n0 ≤ b6 := Nat.le_trans Z0 (Nat.le_of_eq g6.symm)
  have sz6 : h0.size ≤ b6 := Nat.le_trans (Keep.refl h0 [a]).1 (Nat.le_of_eq g6.symm)
  have K6 : Keep h0 h6 [a] := (Keep.refl h0 [a]).ext E6
  have z6 : n0 ≤ h6.size := Nat.le_trans Z0 E6.1
  have V_b6 : Arv Z h6 b6 kA6 (.object "java/lang/Object") (10 : Int32) [.null, .null, .null, .null, .null, .null, .null, .null, .null, .null] .null := (Arv.new A6 (by decide)).pad (pad_rep [] .null 10)
  show Go p e below s _ _ _ T6 (mkF m 55 #[.val (.ref a), .val (.int (1 : Int32)), .val (.int (0 : Int32)), .unset] [(.ref b6), (.ref a)])
  refine Go.st (fun _ => XS.dupX1 X6.here hx rfl (hb hby d10_55) rfl rfl rfl) ?_
  show Go p e below s _ _ _ T6 (mkF m 56 #[.val (.ref a), .val (.int (1 : Int32)), .val (.int (0 : Int32)), .unset] [(.ref b6), (.ref a), (.ref b6)])
  have f7 := (E_a.ext E6)
  have f8 := (F_elementData_a.ext E6)
  obtain ⟨T9, h9, X9, e9, W9, st9⟩ := putF X6 hx hZ hown (host := "") (Or.inl (hw _ (List.mem_of_getElem? (i := 24) rfl))) Via.refl e6 f8 f7 (Or.inl (hw _ (List.mem_of_getElem? (i := 25) rfl))) (hw _ (List.mem_of_getElem? (i := 1) rfl)) (ty := (.array (.object "java/lang/Object"))) (by decide) rfl rfl (g := (mkF m 56 #[.val (.ref a), .val (.int (1 : Int32)), .val (.int (0 : Int32)), .unset] [(.ref b6), (.ref a), (.ref b6)])) rfl rfl (hb hby d10_56)
  refine Go.st st9 ?_
  have N9 := Fr.snoc X9 N5 g_a
  have K9 : Keep h0 h9 [a] := K6.wr W9 (Or.inl (List.mem_of_getElem? (i := 0) rfl))
  have z9 : n0 ≤ h9.size := Nat.le_trans z6 (Nat.le_of_eq W9.size.symm)
  have Fw9 := f8.same W9
  show Go p e below s _ _ _ T9 (mkF m 59 #[.val (.ref a), .val (.int (1 : Int32)), .val (.int (0 : Int32)), .unset] [(.ref b6)])
  have f10 := (f7.wr W9)
  have f11 := ((F_modCount_a.ext E6).other W9 (Or.inr (slot_ne (Or.inl (hw _ (List.mem_of_getElem? (i := 22) rfl))) (Or.inl (hw _ (List.mem_of_getElem? (i := 25) rfl))) (by decide) (t := .int) (t' := (.array (.object "java/lang/Object"))) (by decide) (by decide))))
  have f12 := ((F_size_a.ext E6).other W9 (Or.inr (slot_ne (Or.inl (hw _ (List.mem_of_getElem? (i := 60) rfl))) (Or.inl (hw _ (List.mem_of_getElem? (i := 25) rfl))) (by decide) (t := .int) (t' := (.array (.object "java/lang/Object"))) (by decide) (by decide))))
  have f13 := (V_b6.other W9 (Ne.symm ne_a_b6))
  exact Go.retA X9 hx hlk Bd.returns rfl rfl (hb hby d10_59) (by rw [e9]; exact ⟨b6, kA6, rfl, N9, K9, sz6, gg6, f10, f11, f12, Fw9, f13, O6⟩) (by decide) (by decide)
theorem d9_0 : decode jdk_38_method_7_code 0 = .ok (.aload_n 0, 1) := by decide +kernel
theorem d9_1 : decode jdk_38_method_7_code 1 = .ok (.aload_n 0, 1) := by decide +kernel
theorem d9_2 : decode jdk_38_method_7_code 2 = .ok (.getfield 48, 3) := by decide +kernel
theorem d9_5 : decode jdk_38_method_7_code 5 = .ok (.iconst 1, 1) := by decide +kernel
theorem d9_6 : decode jdk_38_method_7_code 6 = .ok (.iadd, 1) := by decide +kernel
theorem d9_7 : decode jdk_38_method_7_code 7 = .ok (.invokevirtual 69, 3) := by decide +kernel
theorem pd_2 : parseMethodDescriptor "(I)[Ljava/lang/Object;" = some ⟨[.int], some (.array (.object "java/lang/Object"))⟩ := by decide +kernel
theorem d9_10 : decode jdk_38_method_7_code 10 = .ok (.areturn, 1) := by decide +kernel
theorem ef_rmG0 (m : MethodId) (a : Addr) : entryFrame m #[(.ref a)] 1 = mkF m 0 #[.val (.ref a)] [] := by first | (simp [entryFrame, mkF, argsToLocals, Value.category]; done) | rfl
def QrmG0 (Z : State) (a : Addr) (u : Addr) (ku : ClassId) (mc : Int32) (h0 : Heap) (n0 : Nat) (rV : Option Value) (hE : Heap) (LE : List Loc) : Prop := ∃ t : Addr, ∃ kt : ClassId, rV = some (.ref t) ∧ Fr n0 LE ∧ Keep h0 hE [a] ∧ h0.size ≤ t ∧ n0 ≤ t ∧ Exa Z hE a "java/util/ArrayList" ∧ Fld Z hE a "java/util/AbstractList" "modCount" "I" (.int mc) ∧ Fld Z hE a "java/util/ArrayList" "size" "I" (.int (0 : Int32)) ∧ Fld Z hE a "java/util/ArrayList" "elementData" "[Ljava/lang/Object;" (.ref t) ∧ Arv Z hE t kt (.object "java/lang/Object") (10 : Int32) [.null, .null, .null, .null, .null, .null, .null, .null, .null, .null] .null ∧ Ovr Z kt "java/lang/Object"
set_option maxRecDepth 65536 in
set_option maxHeartbeats 40000000 in
theorem rmG0 (l : Launch) (Z : State) (a0 : Array Value) (hw : ∀ d ∈ tables_1, d.before a0 Z = true) (ws : List Jvm.Cond) (a : Addr) (u : Addr) (ku : ClassId) (mc : Int32) (h0 : Heap) (n0 : Nat) (Z0 : n0 ≤ h0.size) (E_a : Exa Z h0 a "java/util/ArrayList") (F_modCount_a : Fld Z h0 a "java/util/AbstractList" "modCount" "I" (.int mc)) (F_size_a : Fld Z h0 a "java/util/ArrayList" "size" "I" (.int (0 : Int32))) (F_elementData_a : Fld Z h0 a "java/util/ArrayList" "elementData" "[Ljava/lang/Object;" (.ref u)) (S_DEFAULTCAPACITY_EMPTY_ELEMENTDATA : Sta Z h0 "java/util/ArrayList" "DEFAULTCAPACITY_EMPTY_ELEMENTDATA" "[Ljava/lang/Object;" (.ref u)) (V_u : Arv Z h0 u ku (.object "java/lang/Object") (0 : Int32) [] .null) (g_a : n0 ≤ a) (ne_u_a : u ≠ a) :
    MetFree l (⟨"java/util/ArrayList", "grow", "()[Ljava/lang/Object;"⟩ : MethodName) (head1 (Jvm.Cond.code (⟨"java/util/ArrayList", "grow", "()[Ljava/lang/Object;"⟩ : MethodName) jdk_38_method_7_code 1 (some (.array (.object "java/lang/Object"))) :: ws) ({ frames := 2, cells := 1, slots := 10, locals := 29 } : Room)) (fun aA UA => aA = #[(.ref a)] ∧ Z.Warmed39 UA.vm ∧ UA.heap = h0) (fun _ _ _ _ _ => True) (fun _ UA oA UB => ∃ rV LE, oA = .returned rV ∧ QrmG0 Z a u ku mc h0 n0 rV UB.heap LE ∧ FrameEnd UA oA UB LE ({ frames := 2, cells := 1, slots := 10, locals := 29 } : Room).cells ({ frames := 2, cells := 1, slots := 10, locals := 29 } : Room).slots) := by
  refine MetFree.of_bodySF (plainFor_of_name pn_2) hisR ?_
  intro p e s m args below meth c s₁ Bd hml0 hP hK
  obtain ⟨rfl, hZ, hh⟩ := hP
  have hx := Bd.exec
  have hby := Bd.bytes
  have hml : c.maxLocals = 1 := hml0
  have hown : s.vm.findClass "java/util/ArrayList" = some m.cls := findClass_of_methodNamed Bd.named
  have hnm := (name_of_methodNamed Bd.named Bd.method).1
  have hlk := Bd.notSynchronized
  have X0 : Stand p l e ({ frames := 2, cells := 1, slots := 10, locals := 29 } : Room) s m #[(.ref a)] below meth c s₁ [] 0 0 := Stand.of_body Bd
  have e0 : s₁.heap = h0 := by rw [← hh, Bd.state]; rfl
  have N0 := Fr.nil n0
  show Go p e below s (QrmG0 Z a u ku mc h0 n0) ({ frames := 2, cells := 1, slots := 10, locals := 29 } : Room).cells ({ frames := 2, cells := 1, slots := 10, locals := 29 } : Room).slots s₁ (entryFrame m #[(.ref a)] 1)
  refine Go.eq (ef_rmG0 m a) ?_
  show Go p e below s _ _ _ s₁ (mkF m 0 #[.val (.ref a)] [])
  refine Go.st (fun _ => XS.aloadN X0.here hx rfl (hb hby d9_0) rfl rfl) ?_
  show Go p e below s _ _ _ s₁ (mkF m 1 #[.val (.ref a)] [(.ref a)])
  refine Go.st (fun _ => XS.aloadN X0.here hx rfl (hb hby d9_1) rfl rfl) ?_
  show Go p e below s _ _ _ s₁ (mkF m 2 #[.val (.ref a)] [(.ref a), (.ref a)])
  obtain ⟨T1, X1, e1, st1⟩ := getF X0 hx hZ hown (host := "") (Or.inl (hw _ (List.mem_of_getElem? (i := 59) rfl))) Via.refl e0 F_size_a (g := (mkF m 2 #[.val (.ref a)] [(.ref a), (.ref a)])) rfl rfl (hb hby d9_2)
  refine Go.st st1 ?_
  show Go p e below s _ _ _ T1 (mkF m 5 #[.val (.ref a)] [(.int (0 : Int32)), (.ref a)])
  refine Go.st (fun _ => XS.iconst X1.here hx rfl (hb hby d9_5)) ?_
  show Go p e below s _ _ _ T1 (mkF m 6 #[.val (.ref a)] [(.int (1 : Int32)), (.int (0 : Int32)), (.ref a)])
  refine Go.st (fun _ => XS.iadd X1.here hx rfl (hb hby d9_6) rfl) ?_
  show Go p e below s _ _ _ T1 (mkF m 7 #[.val (.ref a)] [(.int ((0 : Int32) + (1 : Int32))), (.ref a)])
  rw [show ((0 : Int32) + (1 : Int32)) = (1 : Int32) from by decide]
  show Go p e below s _ _ _ T1 (mkF m 7 #[.val (.ref a)] [(.int (1 : Int32)), (.ref a)])
  obtain ⟨cq2, q2, q2'⟩ := E_a.cell
  obtain ⟨_, _, ⟨T2, L2, kc2, nc2⟩, -, X2, ⟨Lc2, hQ2, l2, y2, z2⟩, st2⟩ := X1.privateBack hx (y := (⟨"java/util/ArrayList", "grow", "(I)[Ljava/lang/Object;"⟩ : MethodName)) hown (mvT hZ (hw _ (List.mem_of_getElem? (i := 71) rfl))) (mvT hZ (hw _ (List.mem_of_getElem? (i := 72) rfl))) (mvT hZ (hw _ (List.mem_of_getElem? (i := 74) rfl))) (Cond.privateMethod_at (mvP hZ (hw _ (List.mem_of_getElem? (i := 73) rfl)) (args := #[]))) (mvT hZ (hw _ (List.mem_of_getElem? (i := 75) rfl))) (by decide) (backOf (W := 0) (rmG1 l Z a0 hw [] a u ku mc h0 n0 Z0 E_a F_modCount_a F_size_a F_elementData_a S_DEFAULTCAPACITY_EMPTY_ELEMENTDATA V_u g_a ne_u_a) hZ (hw _ (List.mem_of_getElem? (i := 75) rfl)) (hw _ (List.mem_of_getElem? (i := 2) rfl)) (by decide) (by decide)) (g := (mkF m 7 #[.val (.ref a)] [(.int (1 : Int32)), (.ref a)])) rfl (by rw [hml]; rfl) (Steps.refl _) (a := a) (by rw [e1]; exact q2) q2' (argsL := [(.int (1 : Int32))]) (rest := []) (lenOf pd_2 rfl) rfl (by show 2 * 0 + _ ≤ _; exact Nat.le_of_eq rfl) (hb hby d9_7) (fun _ _ => ⟨rfl, e1, (by decide : 0 + 1 ≤ _), (by decide : 0 + 10 ≤ _)⟩)
  dsimp only [Pt.U, Pt.locs, Pt.cells, Pt.slots] at X2 l2 y2 z2 st2 hQ2
  subst l2 y2 z2
  obtain ⟨h2, e2⟩ : ∃ hh, T2.heap = hh := ⟨_, rfl⟩
  rw [e2] at hQ2
  obtain ⟨t_2, kt_2, rfl, N2q, K2, p2_0, p2_1, p2_2, p2_3, p2_4, p2_5, p2_6, p2_7⟩ := hQ2
  have N2 := Fr.app N0 N2q
  refine Go.st (fun _ kk => st2.trans kk) ?_
  have ne_a_t_2 : a ≠ t_2 := Nat.ne_of_lt (Nat.lt_of_lt_of_le E_a.lt p2_0)
  have ne_u_t_2 : u ≠ t_2 := Nat.ne_of_lt (Nat.lt_of_lt_of_le V_u.lt p2_0)
  have KK2 : Keep h0 h2 [a] := (Keep.refl h0 [a]).trans K2 (allS (Or.inl (List.mem_of_getElem? (i := 0) rfl)) all0)
  have z2q : n0 ≤ h2.size := Nat.le_trans Z0 K2.1
  have ns2 : ∀ x ∈ ([a] : List Addr), ∀ cell : Cell, h0[x]? = some cell → cell.vm.isStatics = false := (allS E_a.nostat all0)
  have sz2_0 : h0.size ≤ t_2 := Nat.le_trans (Keep.refl h0 [a]).1 p2_0
  show Go p e below s _ _ _ T2 (mkF m 10 #[.val (.ref a)] [(.ref t_2)])
  exact Go.retA X2 hx hlk Bd.returns rfl rfl (hb hby d9_10) (by rw [e2]; exact ⟨t_2, kt_2, rfl, N2, KK2, sz2_0, p2_1, p2_2, p2_3, p2_4, p2_5, p2_6, p2_7⟩) (by decide) (by decide)
theorem d8_0 : decode jdk_38_method_24_code 0 = .ok (.iload_n 3, 1) := by decide +kernel
theorem d8_1 : decode jdk_38_method_24_code 1 = .ok (.aload_n 2, 1) := by decide +kernel
theorem d8_2 : decode jdk_38_method_24_code 2 = .ok (.arraylength, 1) := by decide +kernel
theorem d8_3 : decode jdk_38_method_24_code 3 = .ok (.if_icmp .ne 8, 3) := by decide +kernel
theorem d8_6 : decode jdk_38_method_24_code 6 = .ok (.aload_n 0, 1) := by decide +kernel
theorem d8_7 : decode jdk_38_method_24_code 7 = .ok (.invokevirtual 129, 3) := by decide +kernel
theorem pd_3 : parseMethodDescriptor "()[Ljava/lang/Object;" = some ⟨[], some (.array (.object "java/lang/Object"))⟩ := by decide +kernel
theorem d8_10 : decode jdk_38_method_24_code 10 = .ok (.astore_n 2, 1) := by decide +kernel
theorem d8_11 : decode jdk_38_method_24_code 11 = .ok (.aload_n 2, 1) := by decide +kernel
theorem d8_12 : decode jdk_38_method_24_code 12 = .ok (.iload_n 3, 1) := by decide +kernel
theorem d8_13 : decode jdk_38_method_24_code 13 = .ok (.aload_n 1, 1) := by decide +kernel
theorem d8_14 : decode jdk_38_method_24_code 14 = .ok (.aastore, 1) := by decide +kernel
theorem d8_15 : decode jdk_38_method_24_code 15 = .ok (.aload_n 0, 1) := by decide +kernel
theorem d8_16 : decode jdk_38_method_24_code 16 = .ok (.iload_n 3, 1) := by decide +kernel
theorem d8_17 : decode jdk_38_method_24_code 17 = .ok (.iconst 1, 1) := by decide +kernel
theorem d8_18 : decode jdk_38_method_24_code 18 = .ok (.iadd, 1) := by decide +kernel
theorem d8_19 : decode jdk_38_method_24_code 19 = .ok (.putfield 48, 3) := by decide +kernel
theorem d8_22 : decode jdk_38_method_24_code 22 = .ok (.return_, 1) := by decide +kernel
theorem ef_rmPa (m : MethodId) (a : Addr) (en : Addr) (u : Addr) : entryFrame m #[(.ref a), (.ref en), (.ref u), (.int (0 : Int32))] 4 = mkF m 0 #[.val (.ref a), .val (.ref en), .val (.ref u), .val (.int (0 : Int32))] [] := by first | (simp [entryFrame, mkF, argsToLocals, Value.category]; done) | rfl
def QrmPa (Z : State) (a : Addr) (en : Addr) (u : Addr) (ku : ClassId) (mc : Int32) (h0 : Heap) (n0 : Nat) (rV : Option Value) (hE : Heap) (LE : List Loc) : Prop := ∃ t : Addr, ∃ kt : ClassId, rV = none ∧ Fr n0 LE ∧ Keep h0 hE [a] ∧ h0.size ≤ t ∧ n0 ≤ t ∧ Exa Z hE a "java/util/ArrayList" ∧ Fld Z hE a "java/util/AbstractList" "modCount" "I" (.int mc) ∧ Fld Z hE a "java/util/ArrayList" "size" "I" (.int (1 : Int32)) ∧ Fld Z hE a "java/util/ArrayList" "elementData" "[Ljava/lang/Object;" (.ref t) ∧ Arv Z hE t kt (.object "java/lang/Object") (10 : Int32) [(.ref en), .null, .null, .null, .null, .null, .null, .null, .null, .null] .null ∧ Ovr Z kt "java/lang/Object"
set_option maxRecDepth 65536 in
set_option maxHeartbeats 40000000 in
theorem rmPa (l : Launch) (Z : State) (a0 : Array Value) (hw : ∀ d ∈ tables_1, d.before a0 Z = true) (ws : List Jvm.Cond) (a : Addr) (en : Addr) (u : Addr) (ku : ClassId) (mc : Int32) (h0 : Heap) (n0 : Nat) (Z0 : n0 ≤ h0.size) (E_a : Exa Z h0 a "java/util/ArrayList") (F_modCount_a : Fld Z h0 a "java/util/AbstractList" "modCount" "I" (.int mc)) (F_size_a : Fld Z h0 a "java/util/ArrayList" "size" "I" (.int (0 : Int32))) (F_elementData_a : Fld Z h0 a "java/util/ArrayList" "elementData" "[Ljava/lang/Object;" (.ref u)) (S_DEFAULTCAPACITY_EMPTY_ELEMENTDATA : Sta Z h0 "java/util/ArrayList" "DEFAULTCAPACITY_EMPTY_ELEMENTDATA" "[Ljava/lang/Object;" (.ref u)) (V_u : Arv Z h0 u ku (.object "java/lang/Object") (0 : Int32) [] .null) (g_a : n0 ≤ a) (ne_u_a : u ≠ a) (E_en : Exa Z h0 en "com/example/plaingrant/plaingrant/store/AuditEntry") :
    MetFree l (⟨"java/util/ArrayList", "add", "(Ljava/lang/Object;[Ljava/lang/Object;I)V"⟩ : MethodName) (head1 (Jvm.Cond.code (⟨"java/util/ArrayList", "add", "(Ljava/lang/Object;[Ljava/lang/Object;I)V"⟩ : MethodName) jdk_38_method_24_code 4 none :: ws) ({ frames := 3, cells := 1, slots := 10, locals := 41 } : Room)) (fun aA UA => aA = #[(.ref a), (.ref en), (.ref u), (.int (0 : Int32))] ∧ Z.Warmed39 UA.vm ∧ UA.heap = h0) (fun _ _ _ _ _ => True) (fun _ UA oA UB => ∃ rV LE, oA = .returned rV ∧ QrmPa Z a en u ku mc h0 n0 rV UB.heap LE ∧ FrameEnd UA oA UB LE ({ frames := 3, cells := 1, slots := 10, locals := 41 } : Room).cells ({ frames := 3, cells := 1, slots := 10, locals := 41 } : Room).slots) := by
  refine MetFree.of_bodySF (plainFor_of_name pn_2) hisR ?_
  intro p e s m args below meth c s₁ Bd hml0 hP hK
  obtain ⟨rfl, hZ, hh⟩ := hP
  have hx := Bd.exec
  have hby := Bd.bytes
  have hml : c.maxLocals = 4 := hml0
  have hown : s.vm.findClass "java/util/ArrayList" = some m.cls := findClass_of_methodNamed Bd.named
  have hnm := (name_of_methodNamed Bd.named Bd.method).1
  have hlk := Bd.notSynchronized
  have X0 : Stand p l e ({ frames := 3, cells := 1, slots := 10, locals := 41 } : Room) s m #[(.ref a), (.ref en), (.ref u), (.int (0 : Int32))] below meth c s₁ [] 0 0 := Stand.of_body Bd
  have e0 : s₁.heap = h0 := by rw [← hh, Bd.state]; rfl
  have N0 := Fr.nil n0
  show Go p e below s (QrmPa Z a en u ku mc h0 n0) ({ frames := 3, cells := 1, slots := 10, locals := 41 } : Room).cells ({ frames := 3, cells := 1, slots := 10, locals := 41 } : Room).slots s₁ (entryFrame m #[(.ref a), (.ref en), (.ref u), (.int (0 : Int32))] 4)
  refine Go.eq (ef_rmPa m a en u) ?_
  show Go p e below s _ _ _ s₁ (mkF m 0 #[.val (.ref a), .val (.ref en), .val (.ref u), .val (.int (0 : Int32))] [])
  refine Go.st (fun _ => XS.iloadN X0.here hx rfl (hb hby d8_0) rfl) ?_
  show Go p e below s _ _ _ s₁ (mkF m 1 #[.val (.ref a), .val (.ref en), .val (.ref u), .val (.int (0 : Int32))] [(.int (0 : Int32))])
  refine Go.st (fun _ => XS.aloadN X0.here hx rfl (hb hby d8_1) rfl rfl) ?_
  show Go p e below s _ _ _ s₁ (mkF m 2 #[.val (.ref a), .val (.ref en), .val (.ref u), .val (.int (0 : Int32))] [(.ref u), (.int (0 : Int32))])
  obtain ⟨cl1, Ar1, q1, S1, M1, H1, G1⟩ := id V_u
  refine Go.st (fun tG => X0.arraylength hx (by rw [e0]; exact Ar1.1) (State.isArrayOf_alike hZ.alike Ar1.2.1) (g := (mkF m 2 #[.val (.ref a), .val (.ref en), .val (.ref u), .val (.int (0 : Int32))] [(.ref u), (.int (0 : Int32))])) rfl rfl (hb hby d8_2) tG) ?_
  rw [len_of S1 M1]
  show Go p e below s _ _ _ s₁ (mkF m 3 #[.val (.ref a), .val (.ref en), .val (.ref u), .val (.int (0 : Int32))] [(.int (0 : Int32)), (.int (0 : Int32))])
  refine Go.st (fun _ => XS.icmpNo X0.here hx rfl (hb hby d8_3) rfl (teq (by decide : (0 : Int32) = (0 : Int32))).2) ?_
  show Go p e below s _ _ _ s₁ (mkF m 6 #[.val (.ref a), .val (.ref en), .val (.ref u), .val (.int (0 : Int32))] [])
  refine Go.st (fun _ => XS.aloadN X0.here hx rfl (hb hby d8_6) rfl rfl) ?_
  show Go p e below s _ _ _ s₁ (mkF m 7 #[.val (.ref a), .val (.ref en), .val (.ref u), .val (.int (0 : Int32))] [(.ref a)])
  obtain ⟨cq2, q2, q2'⟩ := E_a.cell
  obtain ⟨_, _, ⟨T2, L2, kc2, nc2⟩, -, X2, ⟨Lc2, hQ2, l2, y2, z2⟩, st2⟩ := X0.privateBack hx (y := (⟨"java/util/ArrayList", "grow", "()[Ljava/lang/Object;"⟩ : MethodName)) hown (mvT hZ (hw _ (List.mem_of_getElem? (i := 66) rfl))) (mvT hZ (hw _ (List.mem_of_getElem? (i := 67) rfl))) (mvT hZ (hw _ (List.mem_of_getElem? (i := 69) rfl))) (Cond.privateMethod_at (mvP hZ (hw _ (List.mem_of_getElem? (i := 68) rfl)) (args := #[]))) (mvT hZ (hw _ (List.mem_of_getElem? (i := 70) rfl))) (by decide) (backOf (W := 0) (rmG0 l Z a0 hw [] a u ku mc h0 n0 Z0 E_a F_modCount_a F_size_a F_elementData_a S_DEFAULTCAPACITY_EMPTY_ELEMENTDATA V_u g_a ne_u_a) hZ (hw _ (List.mem_of_getElem? (i := 70) rfl)) (hw _ (List.mem_of_getElem? (i := 2) rfl)) (by decide) (by decide)) (g := (mkF m 7 #[.val (.ref a), .val (.ref en), .val (.ref u), .val (.int (0 : Int32))] [(.ref a)])) rfl (by rw [hml]; rfl) (Steps.refl _) (a := a) (by rw [e0]; exact q2) q2' (argsL := []) (rest := []) (lenOf pd_3 rfl) rfl (by show 2 * 0 + _ ≤ _; exact Nat.le_of_eq rfl) (hb hby d8_7) (fun _ _ => ⟨rfl, e0, (by decide : 0 + 1 ≤ _), (by decide : 0 + 10 ≤ _)⟩)
  dsimp only [Pt.U, Pt.locs, Pt.cells, Pt.slots] at X2 l2 y2 z2 st2 hQ2
  subst l2 y2 z2
  obtain ⟨h2, e2⟩ : ∃ hh, T2.heap = hh := ⟨_, rfl⟩
  rw [e2] at hQ2
  obtain ⟨t_2, kt_2, rfl, N2q, K2, p2_0, p2_1, p2_2, p2_3, p2_4, p2_5, p2_6, p2_7⟩ := hQ2
  have N2 := Fr.app N0 N2q
  refine Go.st (fun _ kk => st2.trans kk) ?_
  have ne_a_t_2 : a ≠ t_2 := Nat.ne_of_lt (Nat.lt_of_lt_of_le E_a.lt p2_0)
  have ne_u_t_2 : u ≠ t_2 := Nat.ne_of_lt (Nat.lt_of_lt_of_le V_u.lt p2_0)
  have ne_en_t_2 : en ≠ t_2 := Nat.ne_of_lt (Nat.lt_of_lt_of_le E_en.lt p2_0)
  have KK2 : Keep h0 h2 [a] := (Keep.refl h0 [a]).trans K2 (allS (Or.inl (List.mem_of_getElem? (i := 0) rfl)) all0)
  have z2q : n0 ≤ h2.size := Nat.le_trans Z0 K2.1
  have ns2 : ∀ x ∈ ([a] : List Addr), ∀ cell : Cell, h0[x]? = some cell → cell.vm.isStatics = false := (allS E_a.nostat all0)
  have sz2_0 : h0.size ≤ t_2 := Nat.le_trans (Keep.refl h0 [a]).1 p2_0
  show Go p e below s _ _ _ T2 (mkF m 10 #[.val (.ref a), .val (.ref en), .val (.ref u), .val (.int (0 : Int32))] [(.ref t_2)])
  refine Go.st (fun _ => XS.astoreN X2.here hx rfl (hb hby d8_10) rfl rfl (l' := #[.val (.ref a), .val (.ref en), .val (.ref t_2), .val (.int (0 : Int32))]) rfl) ?_
  show Go p e below s _ _ _ T2 (mkF m 11 #[.val (.ref a), .val (.ref en), .val (.ref t_2), .val (.int (0 : Int32))] [])
  refine Go.st (fun _ => XS.aloadN X2.here hx rfl (hb hby d8_11) rfl rfl) ?_
  show Go p e below s _ _ _ T2 (mkF m 12 #[.val (.ref a), .val (.ref en), .val (.ref t_2), .val (.int (0 : Int32))] [(.ref t_2)])
  refine Go.st (fun _ => XS.iloadN X2.here hx rfl (hb hby d8_12) rfl) ?_
  show Go p e below s _ _ _ T2 (mkF m 13 #[.val (.ref a), .val (.ref en), .val (.ref t_2), .val (.int (0 : Int32))] [(.int (0 : Int32)), (.ref t_2)])
  refine Go.st (fun _ => XS.aloadN X2.here hx rfl (hb hby d8_13) rfl rfl) ?_
  show Go p e below s _ _ _ T2 (mkF m 14 #[.val (.ref a), .val (.ref en), .val (.ref t_2), .val (.int (0 : Int32))] [(.ref en), (.int (0 : Int32)), (.ref t_2)])
  obtain ⟨cl3, Ar3, q3, S3, M3, H3, G3⟩ := id p2_6
  have hin3 : ¬ ((0 : Int32) < 0 ∨ cl3.slots.size ≤ ((0 : Int32)).toNatClampNeg) := inb_of S3 ⟨by decide, by decide⟩
  have f4 := (E_en.keep K2)
  obtain ⟨T3, h3, X3, e3, W3, st3⟩ := stR X2 hx hZ e2 Ar3 (j := (0 : Int32)) hin3 rfl (Sto.ofV Ar3 q3 p2_7 (Ins.of_exa f4 (hw _ (List.mem_of_getElem? (i := 82) rfl)))) (g := (mkF m 14 #[.val (.ref a), .val (.ref en), .val (.ref t_2), .val (.int (0 : Int32))] [(.ref en), (.int (0 : Int32)), (.ref t_2)])) rfl rfl (hb hby d8_14)
  refine Go.st st3 ?_
  have V3 : Arv Z h3 t_2 kt_2 (.object "java/lang/Object") (10 : Int32) [(.ref en), .null, .null, .null, .null, .null, .null, .null, .null, .null] .null := Arv.set Ar3 q3 S3 M3 H3 G3 rfl W3 0 rfl (Nat.le_of_ble_eq_true rfl)
  have N3 := Fr.snoc X3 N2 p2_1
  have K3 : Keep h0 h3 [a] := KK2.wr W3 (Or.inr sz2_0)
  have z3 : n0 ≤ h3.size := Nat.le_trans z2q (Nat.le_of_eq W3.size.symm)
  show Go p e below s _ _ _ T3 (mkF m 15 #[.val (.ref a), .val (.ref en), .val (.ref t_2), .val (.int (0 : Int32))] [])
  refine Go.st (fun _ => XS.aloadN X3.here hx rfl (hb hby d8_15) rfl rfl) ?_
  show Go p e below s _ _ _ T3 (mkF m 16 #[.val (.ref a), .val (.ref en), .val (.ref t_2), .val (.int (0 : Int32))] [(.ref a)])
  refine Go.st (fun _ => XS.iloadN X3.here hx rfl (hb hby d8_16) rfl) ?_
  show Go p e below s _ _ _ T3 (mkF m 17 #[.val (.ref a), .val (.ref en), .val (.ref t_2), .val (.int (0 : Int32))] [(.int (0 : Int32)), (.ref a)])
  refine Go.st (fun _ => XS.iconst X3.here hx rfl (hb hby d8_17)) ?_
  show Go p e below s _ _ _ T3 (mkF m 18 #[.val (.ref a), .val (.ref en), .val (.ref t_2), .val (.int (0 : Int32))] [(.int (1 : Int32)), (.int (0 : Int32)), (.ref a)])
  refine Go.st (fun _ => XS.iadd X3.here hx rfl (hb hby d8_18) rfl) ?_
  show Go p e below s _ _ _ T3 (mkF m 19 #[.val (.ref a), .val (.ref en), .val (.ref t_2), .val (.int (0 : Int32))] [(.int ((0 : Int32) + (1 : Int32))), (.ref a)])
  rw [show ((0 : Int32) + (1 : Int32)) = (1 : Int32) from by decide]
  show Go p e below s _ _ _ T3 (mkF m 19 #[.val (.ref a), .val (.ref en), .val (.ref t_2), .val (.int (0 : Int32))] [(.int (1 : Int32)), (.ref a)])
  have f5 := (p2_2.wr W3)
  have f6 := (p2_4.other W3 (Or.inl ne_a_t_2))
  obtain ⟨T7, h7, X7, e7, W7, st7⟩ := putF X3 hx hZ hown (host := "") (Or.inl (hw _ (List.mem_of_getElem? (i := 59) rfl))) Via.refl e3 f6 f5 (Or.inl (hw _ (List.mem_of_getElem? (i := 60) rfl))) (hw _ (List.mem_of_getElem? (i := 1) rfl)) (ty := .int) (by decide) rfl rfl (g := (mkF m 19 #[.val (.ref a), .val (.ref en), .val (.ref t_2), .val (.int (0 : Int32))] [(.int (1 : Int32)), (.ref a)])) rfl rfl (hb hby d8_19)
  refine Go.st st7 ?_
  have N7 := Fr.snoc X7 N3 g_a
  have K7 : Keep h0 h7 [a] := K3.wr W7 (Or.inl (List.mem_of_getElem? (i := 0) rfl))
  have z7 : n0 ≤ h7.size := Nat.le_trans z3 (Nat.le_of_eq W7.size.symm)
  have Fw7 := f6.same W7
  show Go p e below s _ _ _ T7 (mkF m 22 #[.val (.ref a), .val (.ref en), .val (.ref t_2), .val (.int (0 : Int32))] [])
  have f8 := (f5.wr W7)
  have f9 := ((p2_3.other W3 (Or.inl ne_a_t_2)).other W7 (Or.inr (slot_ne (Or.inl (hw _ (List.mem_of_getElem? (i := 22) rfl))) (Or.inl (hw _ (List.mem_of_getElem? (i := 60) rfl))) (by decide) (t := .int) (t' := .int) (by decide) (by decide))))
  have f10 := ((p2_5.other W3 (Or.inl ne_a_t_2)).other W7 (Or.inr (slot_ne (Or.inl (hw _ (List.mem_of_getElem? (i := 25) rfl))) (Or.inl (hw _ (List.mem_of_getElem? (i := 60) rfl))) (by decide) (t := (.array (.object "java/lang/Object"))) (t' := .int) (by decide) (by decide))))
  have f11 := (V3.other W7 (Ne.symm ne_a_t_2))
  exact Go.ret0 X7 hx hlk Bd.returns (hb hby d8_22) (by rw [e7]; exact ⟨t_2, kt_2, rfl, N7, K7, sz2_0, p2_1, f8, f9, Fw7, f10, f11, p2_7⟩) (by decide) (by decide)
theorem d7_0 : decode jdk_38_method_25_code 0 = .ok (.aload_n 0, 1) := by decide +kernel
theorem d7_1 : decode jdk_38_method_25_code 1 = .ok (.dup, 1) := by decide +kernel
theorem d7_2 : decode jdk_38_method_25_code 2 = .ok (.getfield 63, 3) := by decide +kernel
theorem d7_5 : decode jdk_38_method_25_code 5 = .ok (.iconst 1, 1) := by decide +kernel
theorem d7_6 : decode jdk_38_method_25_code 6 = .ok (.iadd, 1) := by decide +kernel
theorem d7_7 : decode jdk_38_method_25_code 7 = .ok (.putfield 63, 3) := by decide +kernel
theorem d7_10 : decode jdk_38_method_25_code 10 = .ok (.aload_n 0, 1) := by decide +kernel
theorem d7_11 : decode jdk_38_method_25_code 11 = .ok (.aload_n 1, 1) := by decide +kernel
theorem d7_12 : decode jdk_38_method_25_code 12 = .ok (.aload_n 0, 1) := by decide +kernel
theorem d7_13 : decode jdk_38_method_25_code 13 = .ok (.getfield 9, 3) := by decide +kernel
theorem d7_16 : decode jdk_38_method_25_code 16 = .ok (.aload_n 0, 1) := by decide +kernel
theorem d7_17 : decode jdk_38_method_25_code 17 = .ok (.getfield 48, 3) := by decide +kernel
theorem d7_20 : decode jdk_38_method_25_code 20 = .ok (.invokevirtual 131, 3) := by decide +kernel
theorem pd_4 : parseMethodDescriptor "(Ljava/lang/Object;[Ljava/lang/Object;I)V" = some ⟨[(.object "java/lang/Object"), (.array (.object "java/lang/Object")), .int], none⟩ := by decide +kernel
theorem d7_23 : decode jdk_38_method_25_code 23 = .ok (.iconst 1, 1) := by decide +kernel
theorem d7_24 : decode jdk_38_method_25_code 24 = .ok (.ireturn, 1) := by decide +kernel
theorem ef_rmAa (m : MethodId) (a : Addr) (en : Addr) : entryFrame m #[(.ref a), (.ref en)] 2 = mkF m 0 #[.val (.ref a), .val (.ref en)] [] := by first | (simp [entryFrame, mkF, argsToLocals, Value.category]; done) | rfl
def QrmAa (Z : State) (a : Addr) (en : Addr) (u : Addr) (ku : ClassId) (mc : Int32) (h0 : Heap) (n0 : Nat) (rV : Option Value) (hE : Heap) (LE : List Loc) : Prop := ∃ t : Addr, ∃ kt : ClassId, rV = some (.int (1 : Int32)) ∧ Fr n0 LE ∧ Keep h0 hE [a] ∧ h0.size ≤ t ∧ n0 ≤ t ∧ Exa Z hE a "java/util/ArrayList" ∧ Fld Z hE a "java/util/AbstractList" "modCount" "I" (.int (mc + (1 : Int32))) ∧ Fld Z hE a "java/util/ArrayList" "size" "I" (.int (1 : Int32)) ∧ Fld Z hE a "java/util/ArrayList" "elementData" "[Ljava/lang/Object;" (.ref t) ∧ Arv Z hE t kt (.object "java/lang/Object") (10 : Int32) [(.ref en), .null, .null, .null, .null, .null, .null, .null, .null, .null] .null ∧ Ovr Z kt "java/lang/Object"
set_option maxRecDepth 65536 in
set_option maxHeartbeats 40000000 in
theorem rmAa (l : Launch) (Z : State) (a0 : Array Value) (hw : ∀ d ∈ tables_1, d.before a0 Z = true) (ws : List Jvm.Cond) (a : Addr) (en : Addr) (u : Addr) (ku : ClassId) (mc : Int32) (h0 : Heap) (n0 : Nat) (Z0 : n0 ≤ h0.size) (E_a : Exa Z h0 a "java/util/ArrayList") (F_modCount_a : Fld Z h0 a "java/util/AbstractList" "modCount" "I" (.int mc)) (F_size_a : Fld Z h0 a "java/util/ArrayList" "size" "I" (.int (0 : Int32))) (F_elementData_a : Fld Z h0 a "java/util/ArrayList" "elementData" "[Ljava/lang/Object;" (.ref u)) (S_DEFAULTCAPACITY_EMPTY_ELEMENTDATA : Sta Z h0 "java/util/ArrayList" "DEFAULTCAPACITY_EMPTY_ELEMENTDATA" "[Ljava/lang/Object;" (.ref u)) (V_u : Arv Z h0 u ku (.object "java/lang/Object") (0 : Int32) [] .null) (g_a : n0 ≤ a) (ne_u_a : u ≠ a) (E_en : Exa Z h0 en "com/example/plaingrant/plaingrant/store/AuditEntry") :
    MetFree l (⟨"java/util/ArrayList", "add", "(Ljava/lang/Object;)Z"⟩ : MethodName) (head1 (Jvm.Cond.code (⟨"java/util/ArrayList", "add", "(Ljava/lang/Object;)Z"⟩ : MethodName) jdk_38_method_25_code 2 (some .boolean) :: ws) ({ frames := 4, cells := 1, slots := 10, locals := 56 } : Room)) (fun aA UA => aA = #[(.ref a), (.ref en)] ∧ Z.Warmed39 UA.vm ∧ UA.heap = h0) (fun _ _ _ _ _ => True) (fun _ UA oA UB => ∃ rV LE, oA = .returned rV ∧ QrmAa Z a en u ku mc h0 n0 rV UB.heap LE ∧ FrameEnd UA oA UB LE ({ frames := 4, cells := 1, slots := 10, locals := 56 } : Room).cells ({ frames := 4, cells := 1, slots := 10, locals := 56 } : Room).slots) := by
  refine MetFree.of_bodySF (plainFor_of_name pn_2) hisR ?_
  intro p e s m args below meth c s₁ Bd hml0 hP hK
  obtain ⟨rfl, hZ, hh⟩ := hP
  have hx := Bd.exec
  have hby := Bd.bytes
  have hml : c.maxLocals = 2 := hml0
  have hown : s.vm.findClass "java/util/ArrayList" = some m.cls := findClass_of_methodNamed Bd.named
  have hnm := (name_of_methodNamed Bd.named Bd.method).1
  have hlk := Bd.notSynchronized
  have X0 : Stand p l e ({ frames := 4, cells := 1, slots := 10, locals := 56 } : Room) s m #[(.ref a), (.ref en)] below meth c s₁ [] 0 0 := Stand.of_body Bd
  have e0 : s₁.heap = h0 := by rw [← hh, Bd.state]; rfl
  have N0 := Fr.nil n0
  show Go p e below s (QrmAa Z a en u ku mc h0 n0) ({ frames := 4, cells := 1, slots := 10, locals := 56 } : Room).cells ({ frames := 4, cells := 1, slots := 10, locals := 56 } : Room).slots s₁ (entryFrame m #[(.ref a), (.ref en)] 2)
  refine Go.eq (ef_rmAa m a en) ?_
  show Go p e below s _ _ _ s₁ (mkF m 0 #[.val (.ref a), .val (.ref en)] [])
  refine Go.st (fun _ => XS.aloadN X0.here hx rfl (hb hby d7_0) rfl rfl) ?_
  show Go p e below s _ _ _ s₁ (mkF m 1 #[.val (.ref a), .val (.ref en)] [(.ref a)])
  refine Go.st (fun _ => XS.dup X0.here hx rfl (hb hby d7_1) rfl rfl) ?_
  show Go p e below s _ _ _ s₁ (mkF m 2 #[.val (.ref a), .val (.ref en)] [(.ref a), (.ref a)])
  obtain ⟨T1, X1, e1, st1⟩ := getF X0 hx hZ hown (host := "") (Or.inl (hw _ (List.mem_of_getElem? (i := 57) rfl))) (Via.of (hw _ (List.mem_of_getElem? (i := 58) rfl))) e0 F_modCount_a (g := (mkF m 2 #[.val (.ref a), .val (.ref en)] [(.ref a), (.ref a)])) rfl rfl (hb hby d7_2)
  refine Go.st st1 ?_
  show Go p e below s _ _ _ T1 (mkF m 5 #[.val (.ref a), .val (.ref en)] [(.int mc), (.ref a)])
  refine Go.st (fun _ => XS.iconst X1.here hx rfl (hb hby d7_5)) ?_
  show Go p e below s _ _ _ T1 (mkF m 6 #[.val (.ref a), .val (.ref en)] [(.int (1 : Int32)), (.int mc), (.ref a)])
  refine Go.st (fun _ => XS.iadd X1.here hx rfl (hb hby d7_6) rfl) ?_
  show Go p e below s _ _ _ T1 (mkF m 7 #[.val (.ref a), .val (.ref en)] [(.int (mc + (1 : Int32))), (.ref a)])
  obtain ⟨T2, h2, X2, e2, W2, st2⟩ := putF X1 hx hZ hown (host := "") (Or.inl (hw _ (List.mem_of_getElem? (i := 57) rfl))) (Via.of (hw _ (List.mem_of_getElem? (i := 58) rfl))) e1 F_modCount_a E_a (Or.inl (hw _ (List.mem_of_getElem? (i := 22) rfl))) (hw _ (List.mem_of_getElem? (i := 1) rfl)) (ty := .int) (by decide) rfl rfl (g := (mkF m 7 #[.val (.ref a), .val (.ref en)] [(.int (mc + (1 : Int32))), (.ref a)])) rfl rfl (hb hby d7_7)
  refine Go.st st2 ?_
  have N2 := Fr.snoc X2 N0 g_a
  have K2 : Keep h0 h2 [a] := (Keep.refl h0 [a]).wr W2 (Or.inl (List.mem_of_getElem? (i := 0) rfl))
  have z2 : n0 ≤ h2.size := Nat.le_trans Z0 (Nat.le_of_eq W2.size.symm)
  have Fw2 := F_modCount_a.same W2
  show Go p e below s _ _ _ T2 (mkF m 10 #[.val (.ref a), .val (.ref en)] [])
  refine Go.st (fun _ => XS.aloadN X2.here hx rfl (hb hby d7_10) rfl rfl) ?_
  show Go p e below s _ _ _ T2 (mkF m 11 #[.val (.ref a), .val (.ref en)] [(.ref a)])
  refine Go.st (fun _ => XS.aloadN X2.here hx rfl (hb hby d7_11) rfl rfl) ?_
  show Go p e below s _ _ _ T2 (mkF m 12 #[.val (.ref a), .val (.ref en)] [(.ref en), (.ref a)])
  refine Go.st (fun _ => XS.aloadN X2.here hx rfl (hb hby d7_12) rfl rfl) ?_
  show Go p e below s _ _ _ T2 (mkF m 13 #[.val (.ref a), .val (.ref en)] [(.ref a), (.ref en), (.ref a)])
  have f3 := (F_elementData_a.other W2 (Or.inr (slot_ne (Or.inl (hw _ (List.mem_of_getElem? (i := 25) rfl))) (Or.inl (hw _ (List.mem_of_getElem? (i := 22) rfl))) (by decide) (t := (.array (.object "java/lang/Object"))) (t' := .int) (by decide) (by decide))))
  obtain ⟨T4, X4, e4, st4⟩ := getF X2 hx hZ hown (host := "") (Or.inl (hw _ (List.mem_of_getElem? (i := 24) rfl))) Via.refl e2 f3 (g := (mkF m 13 #[.val (.ref a), .val (.ref en)] [(.ref a), (.ref en), (.ref a)])) rfl rfl (hb hby d7_13)
  refine Go.st st4 ?_
  show Go p e below s _ _ _ T4 (mkF m 16 #[.val (.ref a), .val (.ref en)] [(.ref u), (.ref en), (.ref a)])
  refine Go.st (fun _ => XS.aloadN X4.here hx rfl (hb hby d7_16) rfl rfl) ?_
  show Go p e below s _ _ _ T4 (mkF m 17 #[.val (.ref a), .val (.ref en)] [(.ref a), (.ref u), (.ref en), (.ref a)])
  have f5 := (F_size_a.other W2 (Or.inr (slot_ne (Or.inl (hw _ (List.mem_of_getElem? (i := 60) rfl))) (Or.inl (hw _ (List.mem_of_getElem? (i := 22) rfl))) (by decide) (t := .int) (t' := .int) (by decide) (by decide))))
  obtain ⟨T6, X6, e6, st6⟩ := getF X4 hx hZ hown (host := "") (Or.inl (hw _ (List.mem_of_getElem? (i := 59) rfl))) Via.refl e4 f5 (g := (mkF m 17 #[.val (.ref a), .val (.ref en)] [(.ref a), (.ref u), (.ref en), (.ref a)])) rfl rfl (hb hby d7_17)
  refine Go.st st6 ?_
  show Go p e below s _ _ _ T6 (mkF m 20 #[.val (.ref a), .val (.ref en)] [(.int (0 : Int32)), (.ref u), (.ref en), (.ref a)])
  have f8 := (E_a.wr W2)
  have f9 := (S_DEFAULTCAPACITY_EMPTY_ELEMENTDATA.wr W2)
  have f10 := (V_u.other W2 ne_u_a)
  have f11 := (E_en.wr W2)
  obtain ⟨cq7, q7, q7'⟩ := f8.cell
  obtain ⟨_, _, ⟨T7, L7, kc7, nc7⟩, -, X7, ⟨Lc7, hQ7, l7, y7, z7⟩, st7⟩ := X6.privateBack hx (y := (⟨"java/util/ArrayList", "add", "(Ljava/lang/Object;[Ljava/lang/Object;I)V"⟩ : MethodName)) hown (mvT hZ (hw _ (List.mem_of_getElem? (i := 61) rfl))) (mvT hZ (hw _ (List.mem_of_getElem? (i := 62) rfl))) (mvT hZ (hw _ (List.mem_of_getElem? (i := 64) rfl))) (Cond.privateMethod_at (mvP hZ (hw _ (List.mem_of_getElem? (i := 63) rfl)) (args := #[]))) (mvT hZ (hw _ (List.mem_of_getElem? (i := 65) rfl))) (by decide) (backOf (W := 0) (rmPa l Z a0 hw [] a en u ku (mc + (1 : Int32)) h2 n0 z2 f8 Fw2 f5 f3 f9 f10 g_a ne_u_a f11) hZ (hw _ (List.mem_of_getElem? (i := 65) rfl)) (hw _ (List.mem_of_getElem? (i := 2) rfl)) (by decide) (by decide)) (g := (mkF m 20 #[.val (.ref a), .val (.ref en)] [(.int (0 : Int32)), (.ref u), (.ref en), (.ref a)])) rfl (by rw [hml]; rfl) (Steps.refl _) (a := a) (by rw [e6]; exact q7) q7' (argsL := [(.ref en), (.ref u), (.int (0 : Int32))]) (rest := []) (lenOf pd_4 rfl) rfl (by show 2 * 0 + _ ≤ _; exact Nat.le_of_eq rfl) (hb hby d7_20) (fun _ _ => ⟨rfl, e6, (by decide : 0 + 1 ≤ _), (by decide : 0 + 10 ≤ _)⟩)
  dsimp only [Pt.U, Pt.locs, Pt.cells, Pt.slots] at X7 l7 y7 z7 st7 hQ7
  subst l7 y7 z7
  obtain ⟨h7, e7⟩ : ∃ hh, T7.heap = hh := ⟨_, rfl⟩
  rw [e7] at hQ7
  obtain ⟨t_7, kt_7, rfl, N7q, K7, p7_0, p7_1, p7_2, p7_3, p7_4, p7_5, p7_6, p7_7⟩ := hQ7
  have N7 := Fr.app N2 N7q
  refine Go.st (fun _ kk => st7.trans kk) ?_
  have ne_a_t_7 : a ≠ t_7 := Nat.ne_of_lt (Nat.lt_of_lt_of_le f8.lt p7_0)
  have ne_u_t_7 : u ≠ t_7 := Nat.ne_of_lt (Nat.lt_of_lt_of_le f10.lt p7_0)
  have ne_en_t_7 : en ≠ t_7 := Nat.ne_of_lt (Nat.lt_of_lt_of_le f11.lt p7_0)
  have KK7 : Keep h0 h7 [a] := K2.trans K7 (allS (Or.inl (List.mem_of_getElem? (i := 0) rfl)) all0)
  have z7q : n0 ≤ h7.size := Nat.le_trans z2 K7.1
  have ns7 : ∀ x ∈ ([a] : List Addr), ∀ cell : Cell, h2[x]? = some cell → cell.vm.isStatics = false := (allS f8.nostat all0)
  have sz7_0 : h0.size ≤ t_7 := Nat.le_trans K2.1 p7_0
  show Go p e below s _ _ _ T7 (mkF m 23 #[.val (.ref a), .val (.ref en)] [])
  refine Go.st (fun _ => XS.iconst X7.here hx rfl (hb hby d7_23)) ?_
  show Go p e below s _ _ _ T7 (mkF m 24 #[.val (.ref a), .val (.ref en)] [(.int (1 : Int32))])
  exact Go.retZ X7 hx hlk Bd.returns (hb hby d7_24) rfl (by rw [e7]; exact ⟨t_7, kt_7, rfl, N7, KK7, sz7_0, p7_1, p7_2, p7_3, p7_4, p7_5, p7_6, p7_7⟩) (by decide) (by decide)
theorem ef_rmPb (m : MethodId) (a : Addr) (en : Addr) (t : Addr) : entryFrame m #[(.ref a), (.ref en), (.ref t), (.int (1 : Int32))] 4 = mkF m 0 #[.val (.ref a), .val (.ref en), .val (.ref t), .val (.int (1 : Int32))] [] := by first | (simp [entryFrame, mkF, argsToLocals, Value.category]; done) | rfl
def QrmPb (Z : State) (a : Addr) (en : Addr) (t : Addr) (kt : ClassId) (mc : Int32) (ez : Addr) (h0 : Heap) (n0 : Nat) (rV : Option Value) (hE : Heap) (LE : List Loc) : Prop := rV = none ∧ Fr n0 LE ∧ Keep h0 hE [a, t] ∧ Exa Z hE a "java/util/ArrayList" ∧ Fld Z hE a "java/util/ArrayList" "size" "I" (.int (2 : Int32)) ∧ Fld Z hE a "java/util/ArrayList" "elementData" "[Ljava/lang/Object;" (.ref t) ∧ Arv Z hE t kt (.object "java/lang/Object") (10 : Int32) [(.ref ez), (.ref en), .null, .null, .null, .null, .null, .null, .null, .null] .null
set_option maxRecDepth 65536 in
set_option maxHeartbeats 40000000 in
theorem rmPb (l : Launch) (Z : State) (a0 : Array Value) (hw : ∀ d ∈ tables_1, d.before a0 Z = true) (ws : List Jvm.Cond) (a : Addr) (en : Addr) (t : Addr) (kt : ClassId) (mc : Int32) (ez : Addr) (h0 : Heap) (n0 : Nat) (Z0 : n0 ≤ h0.size) (E_a : Exa Z h0 a "java/util/ArrayList") (F_modCount_a : Fld Z h0 a "java/util/AbstractList" "modCount" "I" (.int mc)) (F_size_a : Fld Z h0 a "java/util/ArrayList" "size" "I" (.int (1 : Int32))) (F_elementData_a : Fld Z h0 a "java/util/ArrayList" "elementData" "[Ljava/lang/Object;" (.ref t)) (V_t : Arv Z h0 t kt (.object "java/lang/Object") (10 : Int32) [(.ref ez), .null, .null, .null, .null, .null, .null, .null, .null, .null] .null) (O_kt : Ovr Z kt "java/lang/Object") (g_a : n0 ≤ a) (g_t : n0 ≤ t) (ne_t_a : t ≠ a) (E_en : Exa Z h0 en "com/example/plaingrant/plaingrant/store/AuditEntry") :
    MetFree l (⟨"java/util/ArrayList", "add", "(Ljava/lang/Object;[Ljava/lang/Object;I)V"⟩ : MethodName) (head1 (Jvm.Cond.code (⟨"java/util/ArrayList", "add", "(Ljava/lang/Object;[Ljava/lang/Object;I)V"⟩ : MethodName) jdk_38_method_24_code 4 none :: ws) ({ frames := 0, cells := 0, slots := 0, locals := 0 } : Room)) (fun aA UA => aA = #[(.ref a), (.ref en), (.ref t), (.int (1 : Int32))] ∧ Z.Warmed39 UA.vm ∧ UA.heap = h0) (fun _ _ _ _ _ => True) (fun _ UA oA UB => ∃ rV LE, oA = .returned rV ∧ QrmPb Z a en t kt mc ez h0 n0 rV UB.heap LE ∧ FrameEnd UA oA UB LE ({ frames := 0, cells := 0, slots := 0, locals := 0 } : Room).cells ({ frames := 0, cells := 0, slots := 0, locals := 0 } : Room).slots) := by
  refine MetFree.of_bodySF (plainFor_of_name pn_2) hisR ?_
  intro p e s m args below meth c s₁ Bd hml0 hP hK
  obtain ⟨rfl, hZ, hh⟩ := hP
  have hx := Bd.exec
  have hby := Bd.bytes
  have hml : c.maxLocals = 4 := hml0
  have hown : s.vm.findClass "java/util/ArrayList" = some m.cls := findClass_of_methodNamed Bd.named
  have hnm := (name_of_methodNamed Bd.named Bd.method).1
  have hlk := Bd.notSynchronized
  have X0 : Stand p l e ({ frames := 0, cells := 0, slots := 0, locals := 0 } : Room) s m #[(.ref a), (.ref en), (.ref t), (.int (1 : Int32))] below meth c s₁ [] 0 0 := Stand.of_body Bd
  have e0 : s₁.heap = h0 := by rw [← hh, Bd.state]; rfl
  have N0 := Fr.nil n0
  show Go p e below s (QrmPb Z a en t kt mc ez h0 n0) ({ frames := 0, cells := 0, slots := 0, locals := 0 } : Room).cells ({ frames := 0, cells := 0, slots := 0, locals := 0 } : Room).slots s₁ (entryFrame m #[(.ref a), (.ref en), (.ref t), (.int (1 : Int32))] 4)
  refine Go.eq (ef_rmPb m a en t) ?_
  show Go p e below s _ _ _ s₁ (mkF m 0 #[.val (.ref a), .val (.ref en), .val (.ref t), .val (.int (1 : Int32))] [])
  refine Go.st (fun _ => XS.iloadN X0.here hx rfl (hb hby d8_0) rfl) ?_
  show Go p e below s _ _ _ s₁ (mkF m 1 #[.val (.ref a), .val (.ref en), .val (.ref t), .val (.int (1 : Int32))] [(.int (1 : Int32))])
  refine Go.st (fun _ => XS.aloadN X0.here hx rfl (hb hby d8_1) rfl rfl) ?_
  show Go p e below s _ _ _ s₁ (mkF m 2 #[.val (.ref a), .val (.ref en), .val (.ref t), .val (.int (1 : Int32))] [(.ref t), (.int (1 : Int32))])
  obtain ⟨cl1, Ar1, q1, S1, M1, H1, G1⟩ := id V_t
  refine Go.st (fun tG => X0.arraylength hx (by rw [e0]; exact Ar1.1) (State.isArrayOf_alike hZ.alike Ar1.2.1) (g := (mkF m 2 #[.val (.ref a), .val (.ref en), .val (.ref t), .val (.int (1 : Int32))] [(.ref t), (.int (1 : Int32))])) rfl rfl (hb hby d8_2) tG) ?_
  rw [len_of S1 M1]
  show Go p e below s _ _ _ s₁ (mkF m 3 #[.val (.ref a), .val (.ref en), .val (.ref t), .val (.int (1 : Int32))] [(.int (10 : Int32)), (.int (1 : Int32))])
  refine Go.st (fun _ => XS.icmpYes X0.here hx rfl (pc0 := 3) (pc' := 11) rfl (hb hby d8_3) rfl (feq (by decide : ¬ ((1 : Int32) = (10 : Int32)))).2 (by decide) (by decide)) ?_
  show Go p e below s _ _ _ s₁ (mkF m 11 #[.val (.ref a), .val (.ref en), .val (.ref t), .val (.int (1 : Int32))] [])
  refine Go.st (fun _ => XS.aloadN X0.here hx rfl (hb hby d8_11) rfl rfl) ?_
  show Go p e below s _ _ _ s₁ (mkF m 12 #[.val (.ref a), .val (.ref en), .val (.ref t), .val (.int (1 : Int32))] [(.ref t)])
  refine Go.st (fun _ => XS.iloadN X0.here hx rfl (hb hby d8_12) rfl) ?_
  show Go p e below s _ _ _ s₁ (mkF m 13 #[.val (.ref a), .val (.ref en), .val (.ref t), .val (.int (1 : Int32))] [(.int (1 : Int32)), (.ref t)])
  refine Go.st (fun _ => XS.aloadN X0.here hx rfl (hb hby d8_13) rfl rfl) ?_
  show Go p e below s _ _ _ s₁ (mkF m 14 #[.val (.ref a), .val (.ref en), .val (.ref t), .val (.int (1 : Int32))] [(.ref en), (.int (1 : Int32)), (.ref t)])
  obtain ⟨cl2, Ar2, q2, S2, M2, H2, G2⟩ := id V_t
  have hin2 : ¬ ((1 : Int32) < 0 ∨ cl2.slots.size ≤ ((1 : Int32)).toNatClampNeg) := inb_of S2 ⟨by decide, by decide⟩
  obtain ⟨T2, h2, X2, e2, W2, st2⟩ := stR X0 hx hZ e0 Ar2 (j := (1 : Int32)) hin2 rfl (Sto.ofV Ar2 q2 O_kt (Ins.of_exa E_en (hw _ (List.mem_of_getElem? (i := 82) rfl)))) (g := (mkF m 14 #[.val (.ref a), .val (.ref en), .val (.ref t), .val (.int (1 : Int32))] [(.ref en), (.int (1 : Int32)), (.ref t)])) rfl rfl (hb hby d8_14)
  refine Go.st st2 ?_
  have V2 : Arv Z h2 t kt (.object "java/lang/Object") (10 : Int32) [(.ref ez), (.ref en), .null, .null, .null, .null, .null, .null, .null, .null] .null := Arv.set Ar2 q2 S2 M2 H2 G2 rfl W2 1 rfl (Nat.le_of_ble_eq_true rfl)
  have N2 := Fr.snoc X2 N0 g_t
  have K2 : Keep h0 h2 [a, t] := (Keep.refl h0 [a, t]).wr W2 (Or.inl (List.mem_of_getElem? (i := 1) rfl))
  have z2 : n0 ≤ h2.size := Nat.le_trans Z0 (Nat.le_of_eq W2.size.symm)
  show Go p e below s _ _ _ T2 (mkF m 15 #[.val (.ref a), .val (.ref en), .val (.ref t), .val (.int (1 : Int32))] [])
  refine Go.st (fun _ => XS.aloadN X2.here hx rfl (hb hby d8_15) rfl rfl) ?_
  show Go p e below s _ _ _ T2 (mkF m 16 #[.val (.ref a), .val (.ref en), .val (.ref t), .val (.int (1 : Int32))] [(.ref a)])
  refine Go.st (fun _ => XS.iloadN X2.here hx rfl (hb hby d8_16) rfl) ?_
  show Go p e below s _ _ _ T2 (mkF m 17 #[.val (.ref a), .val (.ref en), .val (.ref t), .val (.int (1 : Int32))] [(.int (1 : Int32)), (.ref a)])
  refine Go.st (fun _ => XS.iconst X2.here hx rfl (hb hby d8_17)) ?_
  show Go p e below s _ _ _ T2 (mkF m 18 #[.val (.ref a), .val (.ref en), .val (.ref t), .val (.int (1 : Int32))] [(.int (1 : Int32)), (.int (1 : Int32)), (.ref a)])
  refine Go.st (fun _ => XS.iadd X2.here hx rfl (hb hby d8_18) rfl) ?_
  show Go p e below s _ _ _ T2 (mkF m 19 #[.val (.ref a), .val (.ref en), .val (.ref t), .val (.int (1 : Int32))] [(.int ((1 : Int32) + (1 : Int32))), (.ref a)])
  rw [show ((1 : Int32) + (1 : Int32)) = (2 : Int32) from by decide]
  show Go p e below s _ _ _ T2 (mkF m 19 #[.val (.ref a), .val (.ref en), .val (.ref t), .val (.int (1 : Int32))] [(.int (2 : Int32)), (.ref a)])
  have f3 := (E_a.wr W2)
  have f4 := (F_size_a.other W2 (Or.inl (Ne.symm ne_t_a)))
  obtain ⟨T5, h5, X5, e5, W5, st5⟩ := putF X2 hx hZ hown (host := "") (Or.inl (hw _ (List.mem_of_getElem? (i := 59) rfl))) Via.refl e2 f4 f3 (Or.inl (hw _ (List.mem_of_getElem? (i := 60) rfl))) (hw _ (List.mem_of_getElem? (i := 1) rfl)) (ty := .int) (by decide) rfl rfl (g := (mkF m 19 #[.val (.ref a), .val (.ref en), .val (.ref t), .val (.int (1 : Int32))] [(.int (2 : Int32)), (.ref a)])) rfl rfl (hb hby d8_19)
  refine Go.st st5 ?_
  have N5 := Fr.snoc X5 N2 g_a
  have K5 : Keep h0 h5 [a, t] := K2.wr W5 (Or.inl (List.mem_of_getElem? (i := 0) rfl))
  have z5 : n0 ≤ h5.size := Nat.le_trans z2 (Nat.le_of_eq W5.size.symm)
  have Fw5 := f4.same W5
  show Go p e below s _ _ _ T5 (mkF m 22 #[.val (.ref a), .val (.ref en), .val (.ref t), .val (.int (1 : Int32))] [])
  have f6 := (f3.wr W5)
  have f7 := ((F_elementData_a.other W2 (Or.inl (Ne.symm ne_t_a))).other W5 (Or.inr (slot_ne (Or.inl (hw _ (List.mem_of_getElem? (i := 25) rfl))) (Or.inl (hw _ (List.mem_of_getElem? (i := 60) rfl))) (by decide) (t := (.array (.object "java/lang/Object"))) (t' := .int) (by decide) (by decide))))
  have f8 := (V2.other W5 ne_t_a)
  exact Go.ret0 X5 hx hlk Bd.returns (hb hby d8_22) (by rw [e5]; exact ⟨rfl, N5, K5, f6, Fw5, f7, f8⟩) (by decide) (by decide)
theorem ef_rmBb (m : MethodId) (a : Addr) (en : Addr) : entryFrame m #[(.ref a), (.ref en)] 2 = mkF m 0 #[.val (.ref a), .val (.ref en)] [] := by first | (simp [entryFrame, mkF, argsToLocals, Value.category]; done) | rfl
def QrmBb (Z : State) (a : Addr) (en : Addr) (t : Addr) (kt : ClassId) (mc : Int32) (ez : Addr) (h0 : Heap) (n0 : Nat) (rV : Option Value) (hE : Heap) (LE : List Loc) : Prop := rV = some (.int (1 : Int32)) ∧ Fr n0 LE ∧ Keep h0 hE [a, t] ∧ Exa Z hE a "java/util/ArrayList" ∧ Fld Z hE a "java/util/ArrayList" "size" "I" (.int (2 : Int32)) ∧ Fld Z hE a "java/util/ArrayList" "elementData" "[Ljava/lang/Object;" (.ref t) ∧ Arv Z hE t kt (.object "java/lang/Object") (10 : Int32) [(.ref ez), (.ref en), .null, .null, .null, .null, .null, .null, .null, .null] .null
set_option maxRecDepth 65536 in
set_option maxHeartbeats 40000000 in
theorem rmBb (l : Launch) (Z : State) (a0 : Array Value) (hw : ∀ d ∈ tables_1, d.before a0 Z = true) (ws : List Jvm.Cond) (a : Addr) (en : Addr) (t : Addr) (kt : ClassId) (mc : Int32) (ez : Addr) (h0 : Heap) (n0 : Nat) (Z0 : n0 ≤ h0.size) (E_a : Exa Z h0 a "java/util/ArrayList") (F_modCount_a : Fld Z h0 a "java/util/AbstractList" "modCount" "I" (.int mc)) (F_size_a : Fld Z h0 a "java/util/ArrayList" "size" "I" (.int (1 : Int32))) (F_elementData_a : Fld Z h0 a "java/util/ArrayList" "elementData" "[Ljava/lang/Object;" (.ref t)) (V_t : Arv Z h0 t kt (.object "java/lang/Object") (10 : Int32) [(.ref ez), .null, .null, .null, .null, .null, .null, .null, .null, .null] .null) (O_kt : Ovr Z kt "java/lang/Object") (g_a : n0 ≤ a) (g_t : n0 ≤ t) (ne_t_a : t ≠ a) (E_en : Exa Z h0 en "com/example/plaingrant/plaingrant/store/AuditEntry") :
    MetFree l (⟨"java/util/ArrayList", "add", "(Ljava/lang/Object;)Z"⟩ : MethodName) (head1 (Jvm.Cond.code (⟨"java/util/ArrayList", "add", "(Ljava/lang/Object;)Z"⟩ : MethodName) jdk_38_method_25_code 2 (some .boolean) :: ws) ({ frames := 1, cells := 0, slots := 0, locals := 15 } : Room)) (fun aA UA => aA = #[(.ref a), (.ref en)] ∧ Z.Warmed39 UA.vm ∧ UA.heap = h0) (fun _ _ _ _ _ => True) (fun _ UA oA UB => ∃ rV LE, oA = .returned rV ∧ QrmBb Z a en t kt mc ez h0 n0 rV UB.heap LE ∧ FrameEnd UA oA UB LE ({ frames := 1, cells := 0, slots := 0, locals := 15 } : Room).cells ({ frames := 1, cells := 0, slots := 0, locals := 15 } : Room).slots) := by
  refine MetFree.of_bodySF (plainFor_of_name pn_2) hisR ?_
  intro p e s m args below meth c s₁ Bd hml0 hP hK
  obtain ⟨rfl, hZ, hh⟩ := hP
  have hx := Bd.exec
  have hby := Bd.bytes
  have hml : c.maxLocals = 2 := hml0
  have hown : s.vm.findClass "java/util/ArrayList" = some m.cls := findClass_of_methodNamed Bd.named
  have hnm := (name_of_methodNamed Bd.named Bd.method).1
  have hlk := Bd.notSynchronized
  have X0 : Stand p l e ({ frames := 1, cells := 0, slots := 0, locals := 15 } : Room) s m #[(.ref a), (.ref en)] below meth c s₁ [] 0 0 := Stand.of_body Bd
  have e0 : s₁.heap = h0 := by rw [← hh, Bd.state]; rfl
  have N0 := Fr.nil n0
  show Go p e below s (QrmBb Z a en t kt mc ez h0 n0) ({ frames := 1, cells := 0, slots := 0, locals := 15 } : Room).cells ({ frames := 1, cells := 0, slots := 0, locals := 15 } : Room).slots s₁ (entryFrame m #[(.ref a), (.ref en)] 2)
  refine Go.eq (ef_rmBb m a en) ?_
  show Go p e below s _ _ _ s₁ (mkF m 0 #[.val (.ref a), .val (.ref en)] [])
  refine Go.st (fun _ => XS.aloadN X0.here hx rfl (hb hby d7_0) rfl rfl) ?_
  show Go p e below s _ _ _ s₁ (mkF m 1 #[.val (.ref a), .val (.ref en)] [(.ref a)])
  refine Go.st (fun _ => XS.dup X0.here hx rfl (hb hby d7_1) rfl rfl) ?_
  show Go p e below s _ _ _ s₁ (mkF m 2 #[.val (.ref a), .val (.ref en)] [(.ref a), (.ref a)])
  obtain ⟨T1, X1, e1, st1⟩ := getF X0 hx hZ hown (host := "") (Or.inl (hw _ (List.mem_of_getElem? (i := 57) rfl))) (Via.of (hw _ (List.mem_of_getElem? (i := 58) rfl))) e0 F_modCount_a (g := (mkF m 2 #[.val (.ref a), .val (.ref en)] [(.ref a), (.ref a)])) rfl rfl (hb hby d7_2)
  refine Go.st st1 ?_
  show Go p e below s _ _ _ T1 (mkF m 5 #[.val (.ref a), .val (.ref en)] [(.int mc), (.ref a)])
  refine Go.st (fun _ => XS.iconst X1.here hx rfl (hb hby d7_5)) ?_
  show Go p e below s _ _ _ T1 (mkF m 6 #[.val (.ref a), .val (.ref en)] [(.int (1 : Int32)), (.int mc), (.ref a)])
  refine Go.st (fun _ => XS.iadd X1.here hx rfl (hb hby d7_6) rfl) ?_
  show Go p e below s _ _ _ T1 (mkF m 7 #[.val (.ref a), .val (.ref en)] [(.int (mc + (1 : Int32))), (.ref a)])
  obtain ⟨T2, h2, X2, e2, W2, st2⟩ := putF X1 hx hZ hown (host := "") (Or.inl (hw _ (List.mem_of_getElem? (i := 57) rfl))) (Via.of (hw _ (List.mem_of_getElem? (i := 58) rfl))) e1 F_modCount_a E_a (Or.inl (hw _ (List.mem_of_getElem? (i := 22) rfl))) (hw _ (List.mem_of_getElem? (i := 1) rfl)) (ty := .int) (by decide) rfl rfl (g := (mkF m 7 #[.val (.ref a), .val (.ref en)] [(.int (mc + (1 : Int32))), (.ref a)])) rfl rfl (hb hby d7_7)
  refine Go.st st2 ?_
  have N2 := Fr.snoc X2 N0 g_a
  have K2 : Keep h0 h2 [a, t] := (Keep.refl h0 [a, t]).wr W2 (Or.inl (List.mem_of_getElem? (i := 0) rfl))
  have z2 : n0 ≤ h2.size := Nat.le_trans Z0 (Nat.le_of_eq W2.size.symm)
  have Fw2 := F_modCount_a.same W2
  show Go p e below s _ _ _ T2 (mkF m 10 #[.val (.ref a), .val (.ref en)] [])
  refine Go.st (fun _ => XS.aloadN X2.here hx rfl (hb hby d7_10) rfl rfl) ?_
  show Go p e below s _ _ _ T2 (mkF m 11 #[.val (.ref a), .val (.ref en)] [(.ref a)])
  refine Go.st (fun _ => XS.aloadN X2.here hx rfl (hb hby d7_11) rfl rfl) ?_
  show Go p e below s _ _ _ T2 (mkF m 12 #[.val (.ref a), .val (.ref en)] [(.ref en), (.ref a)])
  refine Go.st (fun _ => XS.aloadN X2.here hx rfl (hb hby d7_12) rfl rfl) ?_
  show Go p e below s _ _ _ T2 (mkF m 13 #[.val (.ref a), .val (.ref en)] [(.ref a), (.ref en), (.ref a)])
  have f3 := (F_elementData_a.other W2 (Or.inr (slot_ne (Or.inl (hw _ (List.mem_of_getElem? (i := 25) rfl))) (Or.inl (hw _ (List.mem_of_getElem? (i := 22) rfl))) (by decide) (t := (.array (.object "java/lang/Object"))) (t' := .int) (by decide) (by decide))))
  obtain ⟨T4, X4, e4, st4⟩ := getF X2 hx hZ hown (host := "") (Or.inl (hw _ (List.mem_of_getElem? (i := 24) rfl))) Via.refl e2 f3 (g := (mkF m 13 #[.val (.ref a), .val (.ref en)] [(.ref a), (.ref en), (.ref a)])) rfl rfl (hb hby d7_13)
  refine Go.st st4 ?_
  show Go p e below s _ _ _ T4 (mkF m 16 #[.val (.ref a), .val (.ref en)] [(.ref t), (.ref en), (.ref a)])
  refine Go.st (fun _ => XS.aloadN X4.here hx rfl (hb hby d7_16) rfl rfl) ?_
  show Go p e below s _ _ _ T4 (mkF m 17 #[.val (.ref a), .val (.ref en)] [(.ref a), (.ref t), (.ref en), (.ref a)])
  have f5 := (F_size_a.other W2 (Or.inr (slot_ne (Or.inl (hw _ (List.mem_of_getElem? (i := 60) rfl))) (Or.inl (hw _ (List.mem_of_getElem? (i := 22) rfl))) (by decide) (t := .int) (t' := .int) (by decide) (by decide))))
  obtain ⟨T6, X6, e6, st6⟩ := getF X4 hx hZ hown (host := "") (Or.inl (hw _ (List.mem_of_getElem? (i := 59) rfl))) Via.refl e4 f5 (g := (mkF m 17 #[.val (.ref a), .val (.ref en)] [(.ref a), (.ref t), (.ref en), (.ref a)])) rfl rfl (hb hby d7_17)
  refine Go.st st6 ?_
  show Go p e below s _ _ _ T6 (mkF m 20 #[.val (.ref a), .val (.ref en)] [(.int (1 : Int32)), (.ref t), (.ref en), (.ref a)])
  have f8 := (E_a.wr W2)
  have f9 := (V_t.other W2 ne_t_a)
  have f10 := (E_en.wr W2)
  obtain ⟨cq7, q7, q7'⟩ := f8.cell
  obtain ⟨_, _, ⟨T7, L7, kc7, nc7⟩, -, X7, ⟨Lc7, hQ7, l7, y7, z7⟩, st7⟩ := X6.privateBack hx (y := (⟨"java/util/ArrayList", "add", "(Ljava/lang/Object;[Ljava/lang/Object;I)V"⟩ : MethodName)) hown (mvT hZ (hw _ (List.mem_of_getElem? (i := 61) rfl))) (mvT hZ (hw _ (List.mem_of_getElem? (i := 62) rfl))) (mvT hZ (hw _ (List.mem_of_getElem? (i := 64) rfl))) (Cond.privateMethod_at (mvP hZ (hw _ (List.mem_of_getElem? (i := 63) rfl)) (args := #[]))) (mvT hZ (hw _ (List.mem_of_getElem? (i := 65) rfl))) (by decide) (backOf (W := 0) (rmPb l Z a0 hw [] a en t kt (mc + (1 : Int32)) ez h2 n0 z2 f8 Fw2 f5 f3 f9 O_kt g_a g_t ne_t_a f10) hZ (hw _ (List.mem_of_getElem? (i := 65) rfl)) (hw _ (List.mem_of_getElem? (i := 2) rfl)) (by decide) (by decide)) (g := (mkF m 20 #[.val (.ref a), .val (.ref en)] [(.int (1 : Int32)), (.ref t), (.ref en), (.ref a)])) rfl (by rw [hml]; rfl) (Steps.refl _) (a := a) (by rw [e6]; exact q7) q7' (argsL := [(.ref en), (.ref t), (.int (1 : Int32))]) (rest := []) (lenOf pd_4 rfl) rfl (by show 2 * 0 + _ ≤ _; exact Nat.le_of_eq rfl) (hb hby d7_20) (fun _ _ => ⟨rfl, e6, (by decide : 0 + 0 ≤ _), (by decide : 0 + 0 ≤ _)⟩)
  dsimp only [Pt.U, Pt.locs, Pt.cells, Pt.slots] at X7 l7 y7 z7 st7 hQ7
  subst l7 y7 z7
  obtain ⟨h7, e7⟩ : ∃ hh, T7.heap = hh := ⟨_, rfl⟩
  rw [e7] at hQ7
  obtain ⟨rfl, N7q, K7, p7_0, p7_1, p7_2, p7_3⟩ := hQ7
  have N7 := Fr.app N2 N7q
  refine Go.st (fun _ kk => st7.trans kk) ?_
  have KK7 : Keep h0 h7 [a, t] := K2.trans K7 (allS (Or.inl (List.mem_of_getElem? (i := 0) rfl)) (allS (Or.inl (List.mem_of_getElem? (i := 1) rfl)) all0))
  have z7q : n0 ≤ h7.size := Nat.le_trans z2 K7.1
  show Go p e below s _ _ _ T7 (mkF m 23 #[.val (.ref a), .val (.ref en)] [])
  refine Go.st (fun _ => XS.iconst X7.here hx rfl (hb hby d7_23)) ?_
  show Go p e below s _ _ _ T7 (mkF m 24 #[.val (.ref a), .val (.ref en)] [(.int (1 : Int32))])
  exact Go.retZ X7 hx hlk Bd.returns (hb hby d7_24) rfl (by rw [e7]; exact ⟨rfl, N7, KK7, p7_0, p7_1, p7_2, p7_3⟩) (by decide) (by decide)
theorem d12_0 : decode prog_42_method_1_code 0 = .ok (.aload_n 0, 1) := by decide +kernel
theorem d12_1 : decode prog_42_method_1_code 1 = .ok (.invokespecial 1, 3) := by decide +kernel
theorem d12_4 : decode prog_42_method_1_code 4 = .ok (.aload_n 0, 1) := by decide +kernel
theorem d12_5 : decode prog_42_method_1_code 5 = .ok (.lload_n 1, 1) := by decide +kernel
theorem d12_6 : decode prog_42_method_1_code 6 = .ok (.putfield 7, 3) := by decide +kernel
theorem d12_9 : decode prog_42_method_1_code 9 = .ok (.return_, 1) := by decide +kernel
theorem pn_5 : plainName "com/example/plaingrant/plaingrant/store/AuditPages" = true := by first | (simp [plainName, overriddenIn]; done) | decide +kernel
theorem ef_rmPi (m : MethodId) (a : Addr) (q : Int64) : entryFrame m #[(.ref a), (.long q)] 3 = mkF m 0 #[.val (.ref a), .val (.long q), .second] [] := by first | (simp [entryFrame, mkF, argsToLocals, Value.category]; done) | rfl
def QrmPi (Z : State) (a : Addr) (q : Int64) (h0 : Heap) (n0 : Nat) (rV : Option Value) (hE : Heap) (LE : List Loc) : Prop := rV = none ∧ Fr n0 LE ∧ Keep h0 hE [a] ∧ Exa Z hE a "com/example/plaingrant/plaingrant/store/AuditPages" ∧ Fld Z hE a "com/example/plaingrant/plaingrant/store/AuditPages" "mLast" "J" (.long q) ∧ Fld Z hE a "com/example/plaingrant/plaingrant/store/AuditPages" "mGiven" "J" (.long (0 : Int64))
set_option maxRecDepth 65536 in
set_option maxHeartbeats 40000000 in
theorem rmPi (l : Launch) (Z : State) (a0 : Array Value) (hw : ∀ d ∈ tables_1, d.before a0 Z = true) (ws : List Jvm.Cond) (a : Addr) (q : Int64) (h0 : Heap) (n0 : Nat) (Z0 : n0 ≤ h0.size) (E_a : Exa Z h0 a "com/example/plaingrant/plaingrant/store/AuditPages") (F_mLast_a : Fld Z h0 a "com/example/plaingrant/plaingrant/store/AuditPages" "mLast" "J" (.long (0 : Int64))) (F_mGiven_a : Fld Z h0 a "com/example/plaingrant/plaingrant/store/AuditPages" "mGiven" "J" (.long (0 : Int64))) (g_a : n0 ≤ a) :
    MetFree l (⟨"com/example/plaingrant/plaingrant/store/AuditPages", "<init>", "(J)V"⟩ : MethodName) (head1 (Jvm.Cond.code (⟨"com/example/plaingrant/plaingrant/store/AuditPages", "<init>", "(J)V"⟩ : MethodName) prog_42_method_1_code 3 none :: ws) ({ frames := 1, cells := 0, slots := 0, locals := 12 } : Room)) (fun aA UA => aA = #[(.ref a), (.long q)] ∧ Z.Warmed39 UA.vm ∧ UA.heap = h0) (fun _ _ _ _ _ => True) (fun _ UA oA UB => ∃ rV LE, oA = .returned rV ∧ QrmPi Z a q h0 n0 rV UB.heap LE ∧ FrameEnd UA oA UB LE ({ frames := 1, cells := 0, slots := 0, locals := 12 } : Room).cells ({ frames := 1, cells := 0, slots := 0, locals := 12 } : Room).slots) := by
  refine MetFree.of_bodySF (plainFor_of_name pn_5) hisR ?_
  intro p e s m args below meth c s₁ Bd hml0 hP hK
  obtain ⟨rfl, hZ, hh⟩ := hP
  have hx := Bd.exec
  have hby := Bd.bytes
  have hml : c.maxLocals = 3 := hml0
  have hown : s.vm.findClass "com/example/plaingrant/plaingrant/store/AuditPages" = some m.cls := findClass_of_methodNamed Bd.named
  have hnm := (name_of_methodNamed Bd.named Bd.method).1
  have hlk := Bd.notSynchronized
  have X0 : Stand p l e ({ frames := 1, cells := 0, slots := 0, locals := 12 } : Room) s m #[(.ref a), (.long q)] below meth c s₁ [] 0 0 := Stand.of_body Bd
  have e0 : s₁.heap = h0 := by rw [← hh, Bd.state]; rfl
  have N0 := Fr.nil n0
  show Go p e below s (QrmPi Z a q h0 n0) ({ frames := 1, cells := 0, slots := 0, locals := 12 } : Room).cells ({ frames := 1, cells := 0, slots := 0, locals := 12 } : Room).slots s₁ (entryFrame m #[(.ref a), (.long q)] 3)
  refine Go.eq (ef_rmPi m a q) ?_
  show Go p e below s _ _ _ s₁ (mkF m 0 #[.val (.ref a), .val (.long q), .second] [])
  refine Go.st (fun _ => XS.aloadN X0.here hx rfl (hb hby d12_0) rfl rfl) ?_
  show Go p e below s _ _ _ s₁ (mkF m 1 #[.val (.ref a), .val (.long q), .second] [(.ref a)])
  obtain ⟨T1, X1, e1, st1⟩ := initO X0 hx hZ hown (hw _ (List.mem_of_getElem? (i := 89) rfl)) (hw _ (List.mem_of_getElem? (i := 19) rfl)) (hw _ (List.mem_of_getElem? (i := 20) rfl)) e0 (g := (mkF m 1 #[.val (.ref a), .val (.long q), .second] [(.ref a)])) rfl (by rw [hml]; rfl) rfl (hb hby d12_1) (by decide) (W := 0) (by show 2 * 0 + _ ≤ _; exact Nat.le_of_eq rfl) (by decide)
  refine Go.st st1 ?_
  show Go p e below s _ _ _ T1 (mkF m 4 #[.val (.ref a), .val (.long q), .second] [])
  refine Go.st (fun _ => XS.aloadN X1.here hx rfl (hb hby d12_4) rfl rfl) ?_
  show Go p e below s _ _ _ T1 (mkF m 5 #[.val (.ref a), .val (.long q), .second] [(.ref a)])
  refine Go.st (fun _ => XS.lloadN X1.here hx rfl (hb hby d12_5) rfl) ?_
  show Go p e below s _ _ _ T1 (mkF m 6 #[.val (.ref a), .val (.long q), .second] [(.long q), (.ref a)])
  obtain ⟨T2, h2, X2, e2, W2, st2⟩ := putF X1 hx hZ hown (host := "") (Or.inl (hw _ (List.mem_of_getElem? (i := 90) rfl))) Via.refl e1 F_mLast_a E_a (Or.inr ⟨(hw _ (List.mem_of_getElem? (i := 91) rfl)), rfl, hnm⟩) (hw _ (List.mem_of_getElem? (i := 84) rfl)) (ty := .long) (by decide) rfl rfl (g := (mkF m 6 #[.val (.ref a), .val (.long q), .second] [(.long q), (.ref a)])) rfl rfl (hb hby d12_6)
  refine Go.st st2 ?_
  have N2 := Fr.snoc X2 N0 g_a
  have K2 : Keep h0 h2 [a] := (Keep.refl h0 [a]).wr W2 (Or.inl (List.mem_of_getElem? (i := 0) rfl))
  have z2 : n0 ≤ h2.size := Nat.le_trans Z0 (Nat.le_of_eq W2.size.symm)
  have Fw2 := F_mLast_a.same W2
  show Go p e below s _ _ _ T2 (mkF m 9 #[.val (.ref a), .val (.long q), .second] [])
  have f3 := (E_a.wr W2)
  have f4 := (F_mGiven_a.other W2 (Or.inr (slot_ne (Or.inl (hw _ (List.mem_of_getElem? (i := 98) rfl))) (Or.inr (hw _ (List.mem_of_getElem? (i := 91) rfl))) (by decide) (t := .long) (t' := .long) (by decide) (by decide))))
  exact Go.ret0 X2 hx hlk Bd.returns (hb hby d12_9) (by rw [e2]; exact ⟨rfl, N2, K2, f3, Fw2, f4⟩) (by decide) (by decide)
theorem d13_0 : decode prog_42_method_2_code 0 = .ok (.aload_n 0, 1) := by decide +kernel
theorem d13_1 : decode prog_42_method_2_code 1 = .ok (.getfield 13, 3) := by decide +kernel
theorem d13_4 : decode prog_42_method_2_code 4 = .ok (.aload_n 0, 1) := by decide +kernel
theorem d13_5 : decode prog_42_method_2_code 5 = .ok (.getfield 7, 3) := by decide +kernel
theorem d13_8 : decode prog_42_method_2_code 8 = .ok (.lcmp, 1) := by decide +kernel
theorem d13_9 : decode prog_42_method_2_code 9 = .ok (.ifCond .lt 7, 3) := by decide +kernel
theorem d13_16 : decode prog_42_method_2_code 16 = .ok (.iconst 0, 1) := by decide +kernel
theorem d13_17 : decode prog_42_method_2_code 17 = .ok (.ireturn, 1) := by decide +kernel
theorem d13_12 : decode prog_42_method_2_code 12 = .ok (.iconst 1, 1) := by decide +kernel
theorem d13_13 : decode prog_42_method_2_code 13 = .ok (.goto 4, 3) := by decide +kernel
theorem ef_rmDo (m : MethodId) (a : Addr) : entryFrame m #[(.ref a)] 1 = mkF m 0 #[.val (.ref a)] [] := by first | (simp [entryFrame, mkF, argsToLocals, Value.category]; done) | rfl
def QrmDo (Z : State) (a : Addr) (q : Int64) (g : Int64) (h0 : Heap) (n0 : Nat) (rV : Option Value) (hE : Heap) (LE : List Loc) : Prop := rV = some (.int (b2i (¬ (g < q)))) ∧ Fr n0 LE ∧ hE = h0
set_option maxRecDepth 65536 in
set_option maxHeartbeats 40000000 in
theorem rmDo (l : Launch) (Z : State) (a0 : Array Value) (hw : ∀ d ∈ tables_1, d.before a0 Z = true) (ws : List Jvm.Cond) (a : Addr) (q : Int64) (g : Int64) (h0 : Heap) (n0 : Nat) (Z0 : n0 ≤ h0.size) (F_mLast_a : Fld Z h0 a "com/example/plaingrant/plaingrant/store/AuditPages" "mLast" "J" (.long q)) (F_mGiven_a : Fld Z h0 a "com/example/plaingrant/plaingrant/store/AuditPages" "mGiven" "J" (.long g)) :
    MetFree l (⟨"com/example/plaingrant/plaingrant/store/AuditPages", "isDone", "()Z"⟩ : MethodName) (head1 (Jvm.Cond.code (⟨"com/example/plaingrant/plaingrant/store/AuditPages", "isDone", "()Z"⟩ : MethodName) prog_42_method_2_code 1 (some .boolean) :: ws) ({ frames := 0, cells := 0, slots := 0, locals := 0 } : Room)) (fun aA UA => aA = #[(.ref a)] ∧ Z.Warmed39 UA.vm ∧ UA.heap = h0) (fun _ _ _ _ _ => True) (fun _ UA oA UB => ∃ rV LE, oA = .returned rV ∧ QrmDo Z a q g h0 n0 rV UB.heap LE ∧ FrameEnd UA oA UB LE ({ frames := 0, cells := 0, slots := 0, locals := 0 } : Room).cells ({ frames := 0, cells := 0, slots := 0, locals := 0 } : Room).slots) := by
  refine MetFree.of_bodySF (plainFor_of_name pn_5) hisR ?_
  intro p e s m args below meth c s₁ Bd hml0 hP hK
  obtain ⟨rfl, hZ, hh⟩ := hP
  have hx := Bd.exec
  have hby := Bd.bytes
  have hml : c.maxLocals = 1 := hml0
  have hown : s.vm.findClass "com/example/plaingrant/plaingrant/store/AuditPages" = some m.cls := findClass_of_methodNamed Bd.named
  have hnm := (name_of_methodNamed Bd.named Bd.method).1
  have hlk := Bd.notSynchronized
  have X0 : Stand p l e ({ frames := 0, cells := 0, slots := 0, locals := 0 } : Room) s m #[(.ref a)] below meth c s₁ [] 0 0 := Stand.of_body Bd
  have e0 : s₁.heap = h0 := by rw [← hh, Bd.state]; rfl
  have N0 := Fr.nil n0
  show Go p e below s (QrmDo Z a q g h0 n0) ({ frames := 0, cells := 0, slots := 0, locals := 0 } : Room).cells ({ frames := 0, cells := 0, slots := 0, locals := 0 } : Room).slots s₁ (entryFrame m #[(.ref a)] 1)
  refine Go.eq (ef_rmDo m a) ?_
  show Go p e below s _ _ _ s₁ (mkF m 0 #[.val (.ref a)] [])
  refine Go.st (fun _ => XS.aloadN X0.here hx rfl (hb hby d13_0) rfl rfl) ?_
  show Go p e below s _ _ _ s₁ (mkF m 1 #[.val (.ref a)] [(.ref a)])
  obtain ⟨T1, X1, e1, st1⟩ := getF X0 hx hZ hown (host := "") (Or.inl (hw _ (List.mem_of_getElem? (i := 97) rfl))) Via.refl e0 F_mGiven_a (g := (mkF m 1 #[.val (.ref a)] [(.ref a)])) rfl rfl (hb hby d13_1)
  refine Go.st st1 ?_
  show Go p e below s _ _ _ T1 (mkF m 4 #[.val (.ref a)] [(.long g)])
  refine Go.st (fun _ => XS.aloadN X1.here hx rfl (hb hby d13_4) rfl rfl) ?_
  show Go p e below s _ _ _ T1 (mkF m 5 #[.val (.ref a)] [(.ref a), (.long g)])
  obtain ⟨T2, X2, e2, st2⟩ := getF X1 hx hZ hown (host := "") (Or.inl (hw _ (List.mem_of_getElem? (i := 90) rfl))) Via.refl e1 F_mLast_a (g := (mkF m 5 #[.val (.ref a)] [(.ref a), (.long g)])) rfl rfl (hb hby d13_5)
  refine Go.st st2 ?_
  show Go p e below s _ _ _ T2 (mkF m 8 #[.val (.ref a)] [(.long q), (.long g)])
  refine Go.st (fun _ => XS.lcmp X2.here hx rfl (hb hby d13_8) rfl) ?_
  show Go p e below s _ _ _ T2 (mkF m 9 #[.val (.ref a)] [(.int (lcmpW g q))])
  by_cases hc3 : g < q
  · refine Go.st (fun _ => XS.ifYes X2.here hx rfl (pc0 := 9) (pc' := 16) rfl (hb hby d13_9) rfl ((if0 _ _).trans (tlt ((lw_lt g q).mpr hc3)).1) (by decide) (by decide)) ?_
    show Go p e below s _ _ _ T2 (mkF m 16 #[.val (.ref a)] [])
    refine Go.st (fun _ => XS.iconst X2.here hx rfl (hb hby d13_16)) ?_
    show Go p e below s _ _ _ T2 (mkF m 17 #[.val (.ref a)] [(.int (0 : Int32))])
    exact Go.retZ X2 hx hlk Bd.returns (hb hby d13_17) rfl (by rw [e2]; exact ⟨(own_b2i_f (not_not_intro hc3)), N0, rfl⟩) (by decide) (by decide)
  · refine Go.st (fun _ => XS.ifNo X2.here hx rfl (hb hby d13_9) rfl ((if0 _ _).trans (flt (fun qq => hc3 ((lw_lt g q).mp qq))).1)) ?_
    show Go p e below s _ _ _ T2 (mkF m 12 #[.val (.ref a)] [])
    refine Go.st (fun _ => XS.iconst X2.here hx rfl (hb hby d13_12)) ?_
    show Go p e below s _ _ _ T2 (mkF m 13 #[.val (.ref a)] [(.int (1 : Int32))])
    refine Go.st (fun _ => XS.goto X2.here hx rfl (pc0 := 13) (pc' := 17) rfl (hb hby d13_13) (by decide) (by decide)) ?_
    show Go p e below s _ _ _ T2 (mkF m 17 #[.val (.ref a)] [(.int (1 : Int32))])
    exact Go.retZ X2 hx hlk Bd.returns (hb hby d13_17) rfl (by rw [e2]; exact ⟨(own_b2i_t hc3), N0, rfl⟩) (by decide) (by decide)
theorem d15_0 : decode jdk_38_method_9_code 0 = .ok (.aload_n 0, 1) := by decide +kernel
theorem d15_1 : decode jdk_38_method_9_code 1 = .ok (.getfield 48, 3) := by decide +kernel
theorem d15_4 : decode jdk_38_method_9_code 4 = .ok (.ifCond .ne 7, 3) := by decide +kernel
theorem d15_7 : decode jdk_38_method_9_code 7 = .ok (.iconst 1, 1) := by decide +kernel
theorem d15_8 : decode jdk_38_method_9_code 8 = .ok (.goto 4, 3) := by decide +kernel
theorem d15_12 : decode jdk_38_method_9_code 12 = .ok (.ireturn, 1) := by decide +kernel
theorem d15_11 : decode jdk_38_method_9_code 11 = .ok (.iconst 0, 1) := by decide +kernel
theorem ef_rmEm (m : MethodId) (a : Addr) : entryFrame m #[(.ref a)] 1 = mkF m 0 #[.val (.ref a)] [] := by first | (simp [entryFrame, mkF, argsToLocals, Value.category]; done) | rfl
def QrmEm (Z : State) (a : Addr) (n : Int32) (h0 : Heap) (n0 : Nat) (rV : Option Value) (hE : Heap) (LE : List Loc) : Prop := rV = some (.int (b2i (n = (0 : Int32)))) ∧ Fr n0 LE ∧ hE = h0
set_option maxRecDepth 65536 in
set_option maxHeartbeats 40000000 in
theorem rmEm (l : Launch) (Z : State) (a0 : Array Value) (hw : ∀ d ∈ tables_1, d.before a0 Z = true) (ws : List Jvm.Cond) (a : Addr) (n : Int32) (h0 : Heap) (n0 : Nat) (Z0 : n0 ≤ h0.size) (F_size_a : Fld Z h0 a "java/util/ArrayList" "size" "I" (.int n)) :
    MetFree l (⟨"java/util/ArrayList", "isEmpty", "()Z"⟩ : MethodName) (head1 (Jvm.Cond.code (⟨"java/util/ArrayList", "isEmpty", "()Z"⟩ : MethodName) jdk_38_method_9_code 1 (some .boolean) :: ws) ({ frames := 0, cells := 0, slots := 0, locals := 0 } : Room)) (fun aA UA => aA = #[(.ref a)] ∧ Z.Warmed39 UA.vm ∧ UA.heap = h0) (fun _ _ _ _ _ => True) (fun _ UA oA UB => ∃ rV LE, oA = .returned rV ∧ QrmEm Z a n h0 n0 rV UB.heap LE ∧ FrameEnd UA oA UB LE ({ frames := 0, cells := 0, slots := 0, locals := 0 } : Room).cells ({ frames := 0, cells := 0, slots := 0, locals := 0 } : Room).slots) := by
  refine MetFree.of_bodySF (plainFor_of_name pn_2) hisR ?_
  intro p e s m args below meth c s₁ Bd hml0 hP hK
  obtain ⟨rfl, hZ, hh⟩ := hP
  have hx := Bd.exec
  have hby := Bd.bytes
  have hml : c.maxLocals = 1 := hml0
  have hown : s.vm.findClass "java/util/ArrayList" = some m.cls := findClass_of_methodNamed Bd.named
  have hnm := (name_of_methodNamed Bd.named Bd.method).1
  have hlk := Bd.notSynchronized
  have X0 : Stand p l e ({ frames := 0, cells := 0, slots := 0, locals := 0 } : Room) s m #[(.ref a)] below meth c s₁ [] 0 0 := Stand.of_body Bd
  have e0 : s₁.heap = h0 := by rw [← hh, Bd.state]; rfl
  have N0 := Fr.nil n0
  show Go p e below s (QrmEm Z a n h0 n0) ({ frames := 0, cells := 0, slots := 0, locals := 0 } : Room).cells ({ frames := 0, cells := 0, slots := 0, locals := 0 } : Room).slots s₁ (entryFrame m #[(.ref a)] 1)
  refine Go.eq (ef_rmEm m a) ?_
  show Go p e below s _ _ _ s₁ (mkF m 0 #[.val (.ref a)] [])
  refine Go.st (fun _ => XS.aloadN X0.here hx rfl (hb hby d15_0) rfl rfl) ?_
  show Go p e below s _ _ _ s₁ (mkF m 1 #[.val (.ref a)] [(.ref a)])
  obtain ⟨T1, X1, e1, st1⟩ := getF X0 hx hZ hown (host := "") (Or.inl (hw _ (List.mem_of_getElem? (i := 59) rfl))) Via.refl e0 F_size_a (g := (mkF m 1 #[.val (.ref a)] [(.ref a)])) rfl rfl (hb hby d15_1)
  refine Go.st st1 ?_
  show Go p e below s _ _ _ T1 (mkF m 4 #[.val (.ref a)] [(.int n)])
  by_cases hc2 : n = (0 : Int32)
  · refine Go.st (fun _ => XS.ifNo X1.here hx rfl (hb hby d15_4) rfl ((if0 _ _).trans (teq hc2).2)) ?_
    show Go p e below s _ _ _ T1 (mkF m 7 #[.val (.ref a)] [])
    refine Go.st (fun _ => XS.iconst X1.here hx rfl (hb hby d15_7)) ?_
    show Go p e below s _ _ _ T1 (mkF m 8 #[.val (.ref a)] [(.int (1 : Int32))])
    refine Go.st (fun _ => XS.goto X1.here hx rfl (pc0 := 8) (pc' := 12) rfl (hb hby d15_8) (by decide) (by decide)) ?_
    show Go p e below s _ _ _ T1 (mkF m 12 #[.val (.ref a)] [(.int (1 : Int32))])
    exact Go.retZ X1 hx hlk Bd.returns (hb hby d15_12) rfl (by rw [e1]; exact ⟨(own_b2i_t hc2), N0, rfl⟩) (by decide) (by decide)
  · refine Go.st (fun _ => XS.ifYes X1.here hx rfl (pc0 := 4) (pc' := 11) rfl (hb hby d15_4) rfl ((if0 _ _).trans (feq hc2).2) (by decide) (by decide)) ?_
    show Go p e below s _ _ _ T1 (mkF m 11 #[.val (.ref a)] [])
    refine Go.st (fun _ => XS.iconst X1.here hx rfl (hb hby d15_11)) ?_
    show Go p e below s _ _ _ T1 (mkF m 12 #[.val (.ref a)] [(.int (0 : Int32))])
    exact Go.retZ X1 hx hlk Bd.returns (hb hby d15_12) rfl (by rw [e1]; exact ⟨(own_b2i_f hc2), N0, rfl⟩) (by decide) (by decide)
theorem d16_0 : decode jdk_38_method_8_code 0 = .ok (.aload_n 0, 1) := by decide +kernel
theorem d16_1 : decode jdk_38_method_8_code 1 = .ok (.getfield 48, 3) := by decide +kernel
theorem d16_4 : decode jdk_38_method_8_code 4 = .ok (.ireturn, 1) := by decide +kernel
theorem ef_rmSz (m : MethodId) (a : Addr) : entryFrame m #[(.ref a)] 1 = mkF m 0 #[.val (.ref a)] [] := by first | (simp [entryFrame, mkF, argsToLocals, Value.category]; done) | rfl
def QrmSz (Z : State) (a : Addr) (n : Int32) (h0 : Heap) (n0 : Nat) (rV : Option Value) (hE : Heap) (LE : List Loc) : Prop := rV = some (.int n) ∧ Fr n0 LE ∧ hE = h0
set_option maxRecDepth 65536 in
set_option maxHeartbeats 40000000 in
theorem rmSz (l : Launch) (Z : State) (a0 : Array Value) (hw : ∀ d ∈ tables_1, d.before a0 Z = true) (ws : List Jvm.Cond) (a : Addr) (n : Int32) (h0 : Heap) (n0 : Nat) (Z0 : n0 ≤ h0.size) (F_size_a : Fld Z h0 a "java/util/ArrayList" "size" "I" (.int n)) :
    MetFree l (⟨"java/util/ArrayList", "size", "()I"⟩ : MethodName) (head1 (Jvm.Cond.code (⟨"java/util/ArrayList", "size", "()I"⟩ : MethodName) jdk_38_method_8_code 1 (some .int) :: ws) ({ frames := 0, cells := 0, slots := 0, locals := 0 } : Room)) (fun aA UA => aA = #[(.ref a)] ∧ Z.Warmed39 UA.vm ∧ UA.heap = h0) (fun _ _ _ _ _ => True) (fun _ UA oA UB => ∃ rV LE, oA = .returned rV ∧ QrmSz Z a n h0 n0 rV UB.heap LE ∧ FrameEnd UA oA UB LE ({ frames := 0, cells := 0, slots := 0, locals := 0 } : Room).cells ({ frames := 0, cells := 0, slots := 0, locals := 0 } : Room).slots) := by
  refine MetFree.of_bodySF (plainFor_of_name pn_2) hisR ?_
  intro p e s m args below meth c s₁ Bd hml0 hP hK
  obtain ⟨rfl, hZ, hh⟩ := hP
  have hx := Bd.exec
  have hby := Bd.bytes
  have hml : c.maxLocals = 1 := hml0
  have hown : s.vm.findClass "java/util/ArrayList" = some m.cls := findClass_of_methodNamed Bd.named
  have hnm := (name_of_methodNamed Bd.named Bd.method).1
  have hlk := Bd.notSynchronized
  have X0 : Stand p l e ({ frames := 0, cells := 0, slots := 0, locals := 0 } : Room) s m #[(.ref a)] below meth c s₁ [] 0 0 := Stand.of_body Bd
  have e0 : s₁.heap = h0 := by rw [← hh, Bd.state]; rfl
  have N0 := Fr.nil n0
  show Go p e below s (QrmSz Z a n h0 n0) ({ frames := 0, cells := 0, slots := 0, locals := 0 } : Room).cells ({ frames := 0, cells := 0, slots := 0, locals := 0 } : Room).slots s₁ (entryFrame m #[(.ref a)] 1)
  refine Go.eq (ef_rmSz m a) ?_
  show Go p e below s _ _ _ s₁ (mkF m 0 #[.val (.ref a)] [])
  refine Go.st (fun _ => XS.aloadN X0.here hx rfl (hb hby d16_0) rfl rfl) ?_
  show Go p e below s _ _ _ s₁ (mkF m 1 #[.val (.ref a)] [(.ref a)])
  obtain ⟨T1, X1, e1, st1⟩ := getF X0 hx hZ hown (host := "") (Or.inl (hw _ (List.mem_of_getElem? (i := 59) rfl))) Via.refl e0 F_size_a (g := (mkF m 1 #[.val (.ref a)] [(.ref a)])) rfl rfl (hb hby d16_1)
  refine Go.st st1 ?_
  show Go p e below s _ _ _ T1 (mkF m 4 #[.val (.ref a)] [(.int n)])
  exact Go.retI X1 hx hlk Bd.returns (hb hby d16_4) (by rw [e1]; exact ⟨rfl, N0, rfl⟩) (by decide) (by decide)
theorem d19_0 : decode jdk_41_method_11_code 0 = .ok (.iload_n 0, 1) := by decide +kernel
theorem d19_1 : decode jdk_41_method_11_code 1 = .ok (.ifCond .lt 8, 3) := by decide +kernel
theorem d19_4 : decode jdk_41_method_11_code 4 = .ok (.iload_n 0, 1) := by decide +kernel
theorem d19_5 : decode jdk_41_method_11_code 5 = .ok (.iload_n 1, 1) := by decide +kernel
theorem d19_6 : decode jdk_41_method_11_code 6 = .ok (.if_icmp .lt 10, 3) := by decide +kernel
theorem d19_16 : decode jdk_41_method_11_code 16 = .ok (.iload_n 0, 1) := by decide +kernel
theorem d19_17 : decode jdk_41_method_11_code 17 = .ok (.ireturn, 1) := by decide +kernel
theorem pn_6 : plainName "jdk/internal/util/Preconditions" = true := by first | (simp [plainName, overriddenIn]; done) | decide +kernel
theorem ef_rmPc (m : MethodId) (i : Int32) (n : Int32) : entryFrame m #[(.int i), (.int n), .null] 3 = mkF m 0 #[.val (.int i), .val (.int n), .val .null] [] := by first | (simp [entryFrame, mkF, argsToLocals, Value.category]; done) | rfl
def QrmPc (Z : State) (i : Int32) (n : Int32) (h0 : Heap) (n0 : Nat) (rV : Option Value) (hE : Heap) (LE : List Loc) : Prop := rV = some (.int i) ∧ Fr n0 LE ∧ hE = h0
set_option maxRecDepth 65536 in
set_option maxHeartbeats 40000000 in
theorem rmPc (l : Launch) (Z : State) (a0 : Array Value) (hw : ∀ d ∈ tables_1, d.before a0 Z = true) (ws : List Jvm.Cond) (i : Int32) (n : Int32) (h0 : Heap) (n0 : Nat) (Z0 : n0 ≤ h0.size) (hi0 : ¬ (i < (0 : Int32))) (hin : i < n) :
    MetFree l (⟨"jdk/internal/util/Preconditions", "checkIndex", "(IILjava/util/function/BiFunction;)I"⟩ : MethodName) (head1 (Jvm.Cond.code (⟨"jdk/internal/util/Preconditions", "checkIndex", "(IILjava/util/function/BiFunction;)I"⟩ : MethodName) jdk_41_method_11_code 3 (some .int) :: ws) ({ frames := 0, cells := 0, slots := 0, locals := 0 } : Room)) (fun aA UA => aA = #[(.int i), (.int n), .null] ∧ Z.Warmed39 UA.vm ∧ UA.heap = h0) (fun _ _ _ _ _ => True) (fun _ UA oA UB => ∃ rV LE, oA = .returned rV ∧ QrmPc Z i n h0 n0 rV UB.heap LE ∧ FrameEnd UA oA UB LE ({ frames := 0, cells := 0, slots := 0, locals := 0 } : Room).cells ({ frames := 0, cells := 0, slots := 0, locals := 0 } : Room).slots) := by
  refine MetFree.of_bodySF (plainFor_of_name pn_6) hisR ?_
  intro p e s m args below meth c s₁ Bd hml0 hP hK
  obtain ⟨rfl, hZ, hh⟩ := hP
  have hx := Bd.exec
  have hby := Bd.bytes
  have hml : c.maxLocals = 3 := hml0
  have hown : s.vm.findClass "jdk/internal/util/Preconditions" = some m.cls := findClass_of_methodNamed Bd.named
  have hnm := (name_of_methodNamed Bd.named Bd.method).1
  have hlk := Bd.notSynchronized
  have X0 : Stand p l e ({ frames := 0, cells := 0, slots := 0, locals := 0 } : Room) s m #[(.int i), (.int n), .null] below meth c s₁ [] 0 0 := Stand.of_body Bd
  have e0 : s₁.heap = h0 := by rw [← hh, Bd.state]; rfl
  have N0 := Fr.nil n0
  show Go p e below s (QrmPc Z i n h0 n0) ({ frames := 0, cells := 0, slots := 0, locals := 0 } : Room).cells ({ frames := 0, cells := 0, slots := 0, locals := 0 } : Room).slots s₁ (entryFrame m #[(.int i), (.int n), .null] 3)
  refine Go.eq (ef_rmPc m i n) ?_
  show Go p e below s _ _ _ s₁ (mkF m 0 #[.val (.int i), .val (.int n), .val .null] [])
  refine Go.st (fun _ => XS.iloadN X0.here hx rfl (hb hby d19_0) rfl) ?_
  show Go p e below s _ _ _ s₁ (mkF m 1 #[.val (.int i), .val (.int n), .val .null] [(.int i)])
  refine Go.st (fun _ => XS.ifNo X0.here hx rfl (hb hby d19_1) rfl ((if0 _ _).trans (flt hi0).1)) ?_
  show Go p e below s _ _ _ s₁ (mkF m 4 #[.val (.int i), .val (.int n), .val .null] [])
  refine Go.st (fun _ => XS.iloadN X0.here hx rfl (hb hby d19_4) rfl) ?_
  show Go p e below s _ _ _ s₁ (mkF m 5 #[.val (.int i), .val (.int n), .val .null] [(.int i)])
  refine Go.st (fun _ => XS.iloadN X0.here hx rfl (hb hby d19_5) rfl) ?_
  show Go p e below s _ _ _ s₁ (mkF m 6 #[.val (.int i), .val (.int n), .val .null] [(.int n), (.int i)])
  refine Go.st (fun _ => XS.icmpYes X0.here hx rfl (pc0 := 6) (pc' := 16) rfl (hb hby d19_6) rfl (tlt hin).1 (by decide) (by decide)) ?_
  show Go p e below s _ _ _ s₁ (mkF m 16 #[.val (.int i), .val (.int n), .val .null] [])
  refine Go.st (fun _ => XS.iloadN X0.here hx rfl (hb hby d19_16) rfl) ?_
  show Go p e below s _ _ _ s₁ (mkF m 17 #[.val (.int i), .val (.int n), .val .null] [(.int i)])
  exact Go.retI X0 hx hlk Bd.returns (hb hby d19_17) (by rw [e0]; exact ⟨rfl, N0, rfl⟩) (by decide) (by decide)
theorem d18_0 : decode jdk_31_method_17_code 0 = .ok (.iload_n 0, 1) := by decide +kernel
theorem d18_1 : decode jdk_31_method_17_code 1 = .ok (.iload_n 1, 1) := by decide +kernel
theorem d18_2 : decode jdk_31_method_17_code 2 = .ok (.aconst_null, 1) := by decide +kernel
theorem d18_3 : decode jdk_31_method_17_code 3 = .ok (.invokestatic 105, 3) := by decide +kernel
theorem pd_5 : parseMethodDescriptor "(IILjava/util/function/BiFunction;)I" = some ⟨[.int, .int, (.object "java/util/function/BiFunction")], some .int⟩ := by decide +kernel
theorem d18_6 : decode jdk_31_method_17_code 6 = .ok (.ireturn, 1) := by decide +kernel
theorem pn_7 : plainName "java/util/Objects" = true := by first | (simp [plainName, overriddenIn]; done) | decide +kernel
theorem ef_rmOc (m : MethodId) (i : Int32) (n : Int32) : entryFrame m #[(.int i), (.int n)] 2 = mkF m 0 #[.val (.int i), .val (.int n)] [] := by first | (simp [entryFrame, mkF, argsToLocals, Value.category]; done) | rfl
def QrmOc (Z : State) (i : Int32) (n : Int32) (h0 : Heap) (n0 : Nat) (rV : Option Value) (hE : Heap) (LE : List Loc) : Prop := rV = some (.int i) ∧ Fr n0 LE ∧ hE = h0
set_option maxRecDepth 65536 in
set_option maxHeartbeats 40000000 in
theorem rmOc (l : Launch) (Z : State) (a0 : Array Value) (hw : ∀ d ∈ tables_1, d.before a0 Z = true) (ws : List Jvm.Cond) (i : Int32) (n : Int32) (h0 : Heap) (n0 : Nat) (Z0 : n0 ≤ h0.size) (hi0 : ¬ (i < (0 : Int32))) (hin : i < n) :
    MetFree l (⟨"java/util/Objects", "checkIndex", "(II)I"⟩ : MethodName) (head1 (Jvm.Cond.code (⟨"java/util/Objects", "checkIndex", "(II)I"⟩ : MethodName) jdk_31_method_17_code 2 (some .int) :: ws) ({ frames := 1, cells := 0, slots := 0, locals := 14 } : Room)) (fun aA UA => aA = #[(.int i), (.int n)] ∧ Z.Warmed39 UA.vm ∧ UA.heap = h0) (fun _ _ _ _ _ => True) (fun _ UA oA UB => ∃ rV LE, oA = .returned rV ∧ QrmOc Z i n h0 n0 rV UB.heap LE ∧ FrameEnd UA oA UB LE ({ frames := 1, cells := 0, slots := 0, locals := 14 } : Room).cells ({ frames := 1, cells := 0, slots := 0, locals := 14 } : Room).slots) := by
  refine MetFree.of_bodySF (plainFor_of_name pn_7) hisR ?_
  intro p e s m args below meth c s₁ Bd hml0 hP hK
  obtain ⟨rfl, hZ, hh⟩ := hP
  have hx := Bd.exec
  have hby := Bd.bytes
  have hml : c.maxLocals = 2 := hml0
  have hown : s.vm.findClass "java/util/Objects" = some m.cls := findClass_of_methodNamed Bd.named
  have hnm := (name_of_methodNamed Bd.named Bd.method).1
  have hlk := Bd.notSynchronized
  have X0 : Stand p l e ({ frames := 1, cells := 0, slots := 0, locals := 14 } : Room) s m #[(.int i), (.int n)] below meth c s₁ [] 0 0 := Stand.of_body Bd
  have e0 : s₁.heap = h0 := by rw [← hh, Bd.state]; rfl
  have N0 := Fr.nil n0
  show Go p e below s (QrmOc Z i n h0 n0) ({ frames := 1, cells := 0, slots := 0, locals := 14 } : Room).cells ({ frames := 1, cells := 0, slots := 0, locals := 14 } : Room).slots s₁ (entryFrame m #[(.int i), (.int n)] 2)
  refine Go.eq (ef_rmOc m i n) ?_
  show Go p e below s _ _ _ s₁ (mkF m 0 #[.val (.int i), .val (.int n)] [])
  refine Go.st (fun _ => XS.iloadN X0.here hx rfl (hb hby d18_0) rfl) ?_
  show Go p e below s _ _ _ s₁ (mkF m 1 #[.val (.int i), .val (.int n)] [(.int i)])
  refine Go.st (fun _ => XS.iloadN X0.here hx rfl (hb hby d18_1) rfl) ?_
  show Go p e below s _ _ _ s₁ (mkF m 2 #[.val (.int i), .val (.int n)] [(.int n), (.int i)])
  refine Go.st (fun _ => XS.aconstNull X0.here hx rfl (hb hby d18_2)) ?_
  show Go p e below s _ _ _ s₁ (mkF m 3 #[.val (.int i), .val (.int n)] [.null, (.int n), (.int i)])
  obtain ⟨_, _, ⟨T1, L1, kc1, nc1⟩, -, X1, ⟨Lc1, hQ1, l1, y1, z1⟩, st1⟩ := Jvm.LawKit.callS X0 hx (y := (⟨"jdk/internal/util/Preconditions", "checkIndex", "(IILjava/util/function/BiFunction;)I"⟩ : MethodName)) hown (mvT hZ (hw _ (List.mem_of_getElem? (i := 133) rfl))) (mvT hZ (hw _ (List.mem_of_getElem? (i := 134) rfl))) (mvT hZ (hw _ (List.mem_of_getElem? (i := 135) rfl))) (mvT hZ (hw _ (List.mem_of_getElem? (i := 136) rfl))) (by decide) (backOf (W := 0) (rmPc l Z a0 hw [] i n h0 n0 Z0 hi0 hin) hZ (hw _ (List.mem_of_getElem? (i := 136) rfl)) (hw _ (List.mem_of_getElem? (i := 135) rfl)) (by decide) (by decide)) (g := (mkF m 3 #[.val (.int i), .val (.int n)] [.null, (.int n), (.int i)])) rfl (by rw [hml]; rfl) (argsL := [(.int i), (.int n), .null]) (rest := []) (lenOf pd_5 rfl) rfl (by show 2 * 0 + _ ≤ _; exact Nat.le_of_eq rfl) (hb hby d18_3) (fun _ _ => ⟨rfl, e0, (by decide : 0 + 0 ≤ _), (by decide : 0 + 0 ≤ _)⟩)
  dsimp only [Pt.U, Pt.locs, Pt.cells, Pt.slots] at X1 l1 y1 z1 st1 hQ1
  subst l1 y1 z1
  obtain ⟨h1, e1⟩ : ∃ hh, T1.heap = hh := ⟨_, rfl⟩
  rw [e1] at hQ1
  obtain ⟨rfl, N1q, sm1⟩ := hQ1
  have N1 := Fr.app N0 N1q
  refine Go.st st1 ?_
  rw [sm1] at e1
  show Go p e below s _ _ _ T1 (mkF m 6 #[.val (.int i), .val (.int n)] [(.int i)])
  exact Go.retI X1 hx hlk Bd.returns (hb hby d18_6) (by rw [e1]; exact ⟨rfl, N1, rfl⟩) (by decide) (by decide)
theorem d20_0 : decode jdk_38_method_18_code 0 = .ok (.aload_n 0, 1) := by decide +kernel
theorem d20_1 : decode jdk_38_method_18_code 1 = .ok (.getfield 9, 3) := by decide +kernel
theorem d20_4 : decode jdk_38_method_18_code 4 = .ok (.iload_n 1, 1) := by decide +kernel
theorem d20_5 : decode jdk_38_method_18_code 5 = .ok (.aaload, 1) := by decide +kernel
theorem d20_6 : decode jdk_38_method_18_code 6 = .ok (.areturn, 1) := by decide +kernel
theorem ef_rmEl (m : MethodId) (a : Addr) (i : Int32) : entryFrame m #[(.ref a), (.int i)] 2 = mkF m 0 #[.val (.ref a), .val (.int i)] [] := by first | (simp [entryFrame, mkF, argsToLocals, Value.category]; done) | rfl
def QrmEl (Z : State) (a : Addr) (i : Int32) (t : Addr) (kt : ClassId) (vs : List Value) (en : Addr) (h0 : Heap) (n0 : Nat) (rV : Option Value) (hE : Heap) (LE : List Loc) : Prop := rV = some (.ref en) ∧ Fr n0 LE ∧ hE = h0
set_option maxRecDepth 65536 in
set_option maxHeartbeats 40000000 in
theorem rmEl (l : Launch) (Z : State) (a0 : Array Value) (hw : ∀ d ∈ tables_1, d.before a0 Z = true) (ws : List Jvm.Cond) (a : Addr) (i : Int32) (t : Addr) (kt : ClassId) (vs : List Value) (en : Addr) (h0 : Heap) (n0 : Nat) (Z0 : n0 ≤ h0.size) (F_elementData_a : Fld Z h0 a "java/util/ArrayList" "elementData" "[Ljava/lang/Object;" (.ref t)) (V_t : Arv Z h0 t kt (.object "java/lang/Object") (10 : Int32) vs .null) (hi : ¬ i < 0 ∧ i < (10 : Int32)) (hget : vs.getD i.toNatClampNeg .null = .ref en) :
    MetFree l (⟨"java/util/ArrayList", "elementData", "(I)Ljava/lang/Object;"⟩ : MethodName) (head1 (Jvm.Cond.code (⟨"java/util/ArrayList", "elementData", "(I)Ljava/lang/Object;"⟩ : MethodName) jdk_38_method_18_code 2 (some (.object "java/lang/Object")) :: ws) ({ frames := 0, cells := 0, slots := 0, locals := 0 } : Room)) (fun aA UA => aA = #[(.ref a), (.int i)] ∧ Z.Warmed39 UA.vm ∧ UA.heap = h0) (fun _ _ _ _ _ => True) (fun _ UA oA UB => ∃ rV LE, oA = .returned rV ∧ QrmEl Z a i t kt vs en h0 n0 rV UB.heap LE ∧ FrameEnd UA oA UB LE ({ frames := 0, cells := 0, slots := 0, locals := 0 } : Room).cells ({ frames := 0, cells := 0, slots := 0, locals := 0 } : Room).slots) := by
  refine MetFree.of_bodySF (plainFor_of_name pn_2) hisR ?_
  intro p e s m args below meth c s₁ Bd hml0 hP hK
  obtain ⟨rfl, hZ, hh⟩ := hP
  have hx := Bd.exec
  have hby := Bd.bytes
  have hml : c.maxLocals = 2 := hml0
  have hown : s.vm.findClass "java/util/ArrayList" = some m.cls := findClass_of_methodNamed Bd.named
  have hnm := (name_of_methodNamed Bd.named Bd.method).1
  have hlk := Bd.notSynchronized
  have X0 : Stand p l e ({ frames := 0, cells := 0, slots := 0, locals := 0 } : Room) s m #[(.ref a), (.int i)] below meth c s₁ [] 0 0 := Stand.of_body Bd
  have e0 : s₁.heap = h0 := by rw [← hh, Bd.state]; rfl
  have N0 := Fr.nil n0
  show Go p e below s (QrmEl Z a i t kt vs en h0 n0) ({ frames := 0, cells := 0, slots := 0, locals := 0 } : Room).cells ({ frames := 0, cells := 0, slots := 0, locals := 0 } : Room).slots s₁ (entryFrame m #[(.ref a), (.int i)] 2)
  refine Go.eq (ef_rmEl m a i) ?_
  show Go p e below s _ _ _ s₁ (mkF m 0 #[.val (.ref a), .val (.int i)] [])
  refine Go.st (fun _ => XS.aloadN X0.here hx rfl (hb hby d20_0) rfl rfl) ?_
  show Go p e below s _ _ _ s₁ (mkF m 1 #[.val (.ref a), .val (.int i)] [(.ref a)])
  obtain ⟨T1, X1, e1, st1⟩ := getF X0 hx hZ hown (host := "") (Or.inl (hw _ (List.mem_of_getElem? (i := 24) rfl))) Via.refl e0 F_elementData_a (g := (mkF m 1 #[.val (.ref a), .val (.int i)] [(.ref a)])) rfl rfl (hb hby d20_1)
  refine Go.st st1 ?_
  show Go p e below s _ _ _ T1 (mkF m 4 #[.val (.ref a), .val (.int i)] [(.ref t)])
  refine Go.st (fun _ => XS.iloadN X1.here hx rfl (hb hby d20_4) rfl) ?_
  show Go p e below s _ _ _ T1 (mkF m 5 #[.val (.ref a), .val (.int i)] [(.int i), (.ref t)])
  obtain ⟨cl2, Ar2, q2, S2, M2, H2, G2⟩ := id V_t
  have hin2 : ¬ (i < 0 ∨ cl2.slots.size ≤ (i).toNatClampNeg) := inb_of S2 hi
  have hat2 : cl2.slots[(i).toNatClampNeg]? = some (.ref en) := H2.at hin2 hget
  refine Go.st (fun tG => X1.aaload hx (j := i) (v := (.ref en)) (by rw [e1]; exact Ar2.1) (State.isArrayOf_alike hZ.alike Ar2.2.1) rfl Ar2.2.2 hin2 hat2 (g := (mkF m 5 #[.val (.ref a), .val (.int i)] [(.int i), (.ref t)])) rfl rfl (hb hby d20_5) tG) ?_
  show Go p e below s _ _ _ T1 (mkF m 6 #[.val (.ref a), .val (.int i)] [(.ref en)])
  exact Go.retA X1 hx hlk Bd.returns rfl rfl (hb hby d20_6) (by rw [e1]; exact ⟨rfl, N0, rfl⟩) (by decide) (by decide)
theorem d17_0 : decode jdk_38_method_20_code 0 = .ok (.iload_n 1, 1) := by decide +kernel
theorem d17_1 : decode jdk_38_method_20_code 1 = .ok (.aload_n 0, 1) := by decide +kernel
theorem d17_2 : decode jdk_38_method_20_code 2 = .ok (.getfield 48, 3) := by decide +kernel
theorem d17_5 : decode jdk_38_method_20_code 5 = .ok (.invokestatic 118, 3) := by decide +kernel
theorem d17_8 : decode jdk_38_method_20_code 8 = .ok (.pop, 1) := by decide +kernel
theorem d17_9 : decode jdk_38_method_20_code 9 = .ok (.aload_n 0, 1) := by decide +kernel
theorem d17_10 : decode jdk_38_method_20_code 10 = .ok (.iload_n 1, 1) := by decide +kernel
theorem d17_11 : decode jdk_38_method_20_code 11 = .ok (.invokevirtual 123, 3) := by decide +kernel
theorem pd_6 : parseMethodDescriptor "(I)Ljava/lang/Object;" = some ⟨[.int], some (.object "java/lang/Object")⟩ := by decide +kernel
theorem d17_14 : decode jdk_38_method_20_code 14 = .ok (.areturn, 1) := by decide +kernel
theorem ef_rmGt (m : MethodId) (a : Addr) (i : Int32) : entryFrame m #[(.ref a), (.int i)] 2 = mkF m 0 #[.val (.ref a), .val (.int i)] [] := by first | (simp [entryFrame, mkF, argsToLocals, Value.category]; done) | rfl
def QrmGt (Z : State) (a : Addr) (i : Int32) (t : Addr) (kt : ClassId) (vs : List Value) (en : Addr) (n : Int32) (h0 : Heap) (n0 : Nat) (rV : Option Value) (hE : Heap) (LE : List Loc) : Prop := rV = some (.ref en) ∧ Fr n0 LE ∧ hE = h0
set_option maxRecDepth 65536 in
set_option maxHeartbeats 40000000 in
theorem rmGt (l : Launch) (Z : State) (a0 : Array Value) (hw : ∀ d ∈ tables_1, d.before a0 Z = true) (ws : List Jvm.Cond) (a : Addr) (i : Int32) (t : Addr) (kt : ClassId) (vs : List Value) (en : Addr) (n : Int32) (h0 : Heap) (n0 : Nat) (Z0 : n0 ≤ h0.size) (E_a : Exa Z h0 a "java/util/ArrayList") (F_size_a : Fld Z h0 a "java/util/ArrayList" "size" "I" (.int n)) (F_elementData_a : Fld Z h0 a "java/util/ArrayList" "elementData" "[Ljava/lang/Object;" (.ref t)) (V_t : Arv Z h0 t kt (.object "java/lang/Object") (10 : Int32) vs .null) (hi : ¬ i < 0 ∧ i < (10 : Int32)) (hget : vs.getD i.toNatClampNeg .null = .ref en) (hi0 : ¬ (i < (0 : Int32))) (hin : i < n) :
    MetFree l (⟨"java/util/ArrayList", "get", "(I)Ljava/lang/Object;"⟩ : MethodName) (head1 (Jvm.Cond.code (⟨"java/util/ArrayList", "get", "(I)Ljava/lang/Object;"⟩ : MethodName) jdk_38_method_20_code 2 (some (.object "java/lang/Object")) :: ws) ({ frames := 2, cells := 0, slots := 0, locals := 27 } : Room)) (fun aA UA => aA = #[(.ref a), (.int i)] ∧ Z.Warmed39 UA.vm ∧ UA.heap = h0) (fun _ _ _ _ _ => True) (fun _ UA oA UB => ∃ rV LE, oA = .returned rV ∧ QrmGt Z a i t kt vs en n h0 n0 rV UB.heap LE ∧ FrameEnd UA oA UB LE ({ frames := 2, cells := 0, slots := 0, locals := 27 } : Room).cells ({ frames := 2, cells := 0, slots := 0, locals := 27 } : Room).slots) := by
  refine MetFree.of_bodySF (plainFor_of_name pn_2) hisR ?_
  intro p e s m args below meth c s₁ Bd hml0 hP hK
  obtain ⟨rfl, hZ, hh⟩ := hP
  have hx := Bd.exec
  have hby := Bd.bytes
  have hml : c.maxLocals = 2 := hml0
  have hown : s.vm.findClass "java/util/ArrayList" = some m.cls := findClass_of_methodNamed Bd.named
  have hnm := (name_of_methodNamed Bd.named Bd.method).1
  have hlk := Bd.notSynchronized
  have X0 : Stand p l e ({ frames := 2, cells := 0, slots := 0, locals := 27 } : Room) s m #[(.ref a), (.int i)] below meth c s₁ [] 0 0 := Stand.of_body Bd
  have e0 : s₁.heap = h0 := by rw [← hh, Bd.state]; rfl
  have N0 := Fr.nil n0
  show Go p e below s (QrmGt Z a i t kt vs en n h0 n0) ({ frames := 2, cells := 0, slots := 0, locals := 27 } : Room).cells ({ frames := 2, cells := 0, slots := 0, locals := 27 } : Room).slots s₁ (entryFrame m #[(.ref a), (.int i)] 2)
  refine Go.eq (ef_rmGt m a i) ?_
  show Go p e below s _ _ _ s₁ (mkF m 0 #[.val (.ref a), .val (.int i)] [])
  refine Go.st (fun _ => XS.iloadN X0.here hx rfl (hb hby d17_0) rfl) ?_
  show Go p e below s _ _ _ s₁ (mkF m 1 #[.val (.ref a), .val (.int i)] [(.int i)])
  refine Go.st (fun _ => XS.aloadN X0.here hx rfl (hb hby d17_1) rfl rfl) ?_
  show Go p e below s _ _ _ s₁ (mkF m 2 #[.val (.ref a), .val (.int i)] [(.ref a), (.int i)])
  obtain ⟨T1, X1, e1, st1⟩ := getF X0 hx hZ hown (host := "") (Or.inl (hw _ (List.mem_of_getElem? (i := 59) rfl))) Via.refl e0 F_size_a (g := (mkF m 2 #[.val (.ref a), .val (.int i)] [(.ref a), (.int i)])) rfl rfl (hb hby d17_2)
  refine Go.st st1 ?_
  show Go p e below s _ _ _ T1 (mkF m 5 #[.val (.ref a), .val (.int i)] [(.int n), (.int i)])
  obtain ⟨_, _, ⟨T2, L2, kc2, nc2⟩, -, X2, ⟨Lc2, hQ2, l2, y2, z2⟩, st2⟩ := Jvm.LawKit.callS X1 hx (y := (⟨"java/util/Objects", "checkIndex", "(II)I"⟩ : MethodName)) hown (mvT hZ (hw _ (List.mem_of_getElem? (i := 129) rfl))) (mvT hZ (hw _ (List.mem_of_getElem? (i := 130) rfl))) (mvT hZ (hw _ (List.mem_of_getElem? (i := 131) rfl))) (mvT hZ (hw _ (List.mem_of_getElem? (i := 132) rfl))) (by decide) (backOf (W := 0) (rmOc l Z a0 hw [] i n h0 n0 Z0 hi0 hin) hZ (hw _ (List.mem_of_getElem? (i := 132) rfl)) (hw _ (List.mem_of_getElem? (i := 131) rfl)) (by decide) (by decide)) (g := (mkF m 5 #[.val (.ref a), .val (.int i)] [(.int n), (.int i)])) rfl (by rw [hml]; rfl) (argsL := [(.int i), (.int n)]) (rest := []) (lenOf pd_1 rfl) rfl (by show 2 * 0 + _ ≤ _; exact Nat.le_of_eq rfl) (hb hby d17_5) (fun _ _ => ⟨rfl, e1, (by decide : 0 + 0 ≤ _), (by decide : 0 + 0 ≤ _)⟩)
  dsimp only [Pt.U, Pt.locs, Pt.cells, Pt.slots] at X2 l2 y2 z2 st2 hQ2
  subst l2 y2 z2
  obtain ⟨h2, e2⟩ : ∃ hh, T2.heap = hh := ⟨_, rfl⟩
  rw [e2] at hQ2
  obtain ⟨rfl, N2q, sm2⟩ := hQ2
  have N2 := Fr.app N0 N2q
  refine Go.st st2 ?_
  rw [sm2] at e2
  show Go p e below s _ _ _ T2 (mkF m 8 #[.val (.ref a), .val (.int i)] [(.int i)])
  refine Go.st (fun _ => XS.pop X2.here hx rfl (hb hby d17_8) rfl rfl) ?_
  show Go p e below s _ _ _ T2 (mkF m 9 #[.val (.ref a), .val (.int i)] [])
  refine Go.st (fun _ => XS.aloadN X2.here hx rfl (hb hby d17_9) rfl rfl) ?_
  show Go p e below s _ _ _ T2 (mkF m 10 #[.val (.ref a), .val (.int i)] [(.ref a)])
  refine Go.st (fun _ => XS.iloadN X2.here hx rfl (hb hby d17_10) rfl) ?_
  show Go p e below s _ _ _ T2 (mkF m 11 #[.val (.ref a), .val (.int i)] [(.int i), (.ref a)])
  obtain ⟨cq3, kq3, q3a, q3b, q3c⟩ := isOf hZ e2 E_a
  obtain ⟨_, _, ⟨T3, L3, kc3, nc3⟩, -, X3, ⟨Lc3, hQ3, l3, y3, z3⟩, st3⟩ := X2.virtualBack hx (y := (⟨"java/util/ArrayList", "elementData", "(I)Ljava/lang/Object;"⟩ : MethodName)) (z := (⟨"java/util/ArrayList", "elementData", "(I)Ljava/lang/Object;"⟩ : MethodName)) hown (mvT hZ (hw _ (List.mem_of_getElem? (i := 137) rfl))) (mvT hZ (hw _ (List.mem_of_getElem? (i := 138) rfl))) (notFace_of_selects (args := #[]) (mvT hZ (hw _ (List.mem_of_getElem? (i := 140) rfl)))) (mvT hZ (hw _ (List.mem_of_getElem? (i := 140) rfl))) (mvT hZ (hw _ (List.mem_of_getElem? (i := 139) rfl))) (by decide) (backOf (W := 0) (rmEl l Z a0 hw [] a i t kt vs en h0 n0 Z0 F_elementData_a V_t hi hget) hZ (hw _ (List.mem_of_getElem? (i := 141) rfl)) (hw _ (List.mem_of_getElem? (i := 2) rfl)) (by decide) (by decide)) q3a q3c (g := (mkF m 11 #[.val (.ref a), .val (.int i)] [(.int i), (.ref a)])) rfl (by rw [hml]; rfl) (Steps.refl _) (argsL := [(.int i)]) (rest := []) (lenOf pd_6 rfl) rfl (by show 2 * 0 + _ ≤ _; exact Nat.le_of_eq rfl) (hb hby d17_11) (fun _ _ => ⟨rfl, e2, (by decide : 0 + 0 ≤ _), (by decide : 0 + 0 ≤ _)⟩)
  dsimp only [Pt.U, Pt.locs, Pt.cells, Pt.slots] at X3 l3 y3 z3 st3 hQ3
  subst l3 y3 z3
  obtain ⟨h3, e3⟩ : ∃ hh, T3.heap = hh := ⟨_, rfl⟩
  rw [e3] at hQ3
  obtain ⟨rfl, N3q, sm3⟩ := hQ3
  have N3 := Fr.app N2 N3q
  refine Go.st (fun _ kk => st3.trans kk) ?_
  rw [sm3] at e3
  show Go p e below s _ _ _ T3 (mkF m 14 #[.val (.ref a), .val (.int i)] [(.ref en)])
  exact Go.retA X3 hx hlk Bd.returns rfl rfl (hb hby d17_14) (by rw [e3]; exact ⟨rfl, N3, rfl⟩) (by decide) (by decide)
theorem d21_0 : decode prog_40_method_6_code 0 = .ok (.aload_n 0, 1) := by decide +kernel
theorem d21_1 : decode prog_40_method_6_code 1 = .ok (.getfield 7, 3) := by decide +kernel
theorem d21_4 : decode prog_40_method_6_code 4 = .ok (.lreturn, 1) := by decide +kernel
theorem ef_rmSq (m : MethodId) (a : Addr) : entryFrame m #[(.ref a)] 1 = mkF m 0 #[.val (.ref a)] [] := by first | (simp [entryFrame, mkF, argsToLocals, Value.category]; done) | rfl
def QrmSq (Z : State) (a : Addr) (q : Int64) (h0 : Heap) (n0 : Nat) (rV : Option Value) (hE : Heap) (LE : List Loc) : Prop := rV = some (.long q) ∧ Fr n0 LE ∧ hE = h0
set_option maxRecDepth 65536 in
set_option maxHeartbeats 40000000 in
theorem rmSq (l : Launch) (Z : State) (a0 : Array Value) (hw : ∀ d ∈ tables_1, d.before a0 Z = true) (ws : List Jvm.Cond) (a : Addr) (q : Int64) (h0 : Heap) (n0 : Nat) (Z0 : n0 ≤ h0.size) (F_sequence_a : Fld Z h0 a "com/example/plaingrant/plaingrant/store/AuditEntry" "sequence" "J" (.long q)) :
    MetFree l (⟨"com/example/plaingrant/plaingrant/store/AuditEntry", "sequence", "()J"⟩ : MethodName) (head1 (Jvm.Cond.code (⟨"com/example/plaingrant/plaingrant/store/AuditEntry", "sequence", "()J"⟩ : MethodName) prog_40_method_6_code 1 (some .long) :: ws) ({ frames := 0, cells := 0, slots := 0, locals := 0 } : Room)) (fun aA UA => aA = #[(.ref a)] ∧ Z.Warmed39 UA.vm ∧ UA.heap = h0) (fun _ _ _ _ _ => True) (fun _ UA oA UB => ∃ rV LE, oA = .returned rV ∧ QrmSq Z a q h0 n0 rV UB.heap LE ∧ FrameEnd UA oA UB LE ({ frames := 0, cells := 0, slots := 0, locals := 0 } : Room).cells ({ frames := 0, cells := 0, slots := 0, locals := 0 } : Room).slots) := by
  refine MetFree.of_bodySF (plainFor_of_name pn_4) hisR ?_
  intro p e s m args below meth c s₁ Bd hml0 hP hK
  obtain ⟨rfl, hZ, hh⟩ := hP
  have hx := Bd.exec
  have hby := Bd.bytes
  have hml : c.maxLocals = 1 := hml0
  have hown : s.vm.findClass "com/example/plaingrant/plaingrant/store/AuditEntry" = some m.cls := findClass_of_methodNamed Bd.named
  have hnm := (name_of_methodNamed Bd.named Bd.method).1
  have hlk := Bd.notSynchronized
  have X0 : Stand p l e ({ frames := 0, cells := 0, slots := 0, locals := 0 } : Room) s m #[(.ref a)] below meth c s₁ [] 0 0 := Stand.of_body Bd
  have e0 : s₁.heap = h0 := by rw [← hh, Bd.state]; rfl
  have N0 := Fr.nil n0
  show Go p e below s (QrmSq Z a q h0 n0) ({ frames := 0, cells := 0, slots := 0, locals := 0 } : Room).cells ({ frames := 0, cells := 0, slots := 0, locals := 0 } : Room).slots s₁ (entryFrame m #[(.ref a)] 1)
  refine Go.eq (ef_rmSq m a) ?_
  show Go p e below s _ _ _ s₁ (mkF m 0 #[.val (.ref a)] [])
  refine Go.st (fun _ => XS.aloadN X0.here hx rfl (hb hby d21_0) rfl rfl) ?_
  show Go p e below s _ _ _ s₁ (mkF m 1 #[.val (.ref a)] [(.ref a)])
  obtain ⟨T1, X1, e1, st1⟩ := getF X0 hx hZ hown (host := "") (Or.inl (hw _ (List.mem_of_getElem? (i := 38) rfl))) Via.refl e0 F_sequence_a (g := (mkF m 1 #[.val (.ref a)] [(.ref a)])) rfl rfl (hb hby d21_1)
  refine Go.st st1 ?_
  show Go p e below s _ _ _ T1 (mkF m 4 #[.val (.ref a)] [(.long q)])
  exact Go.retJ X1 hx hlk Bd.returns (hb hby d21_4) (by rw [e1]; exact ⟨rfl, N0, rfl⟩) (by decide) (by decide)
theorem d14_0 : decode prog_42_method_5_code 0 = .ok (.aload_n 0, 1) := by decide +kernel
theorem d14_1 : decode prog_42_method_5_code 1 = .ok (.aload_n 1, 1) := by decide +kernel
theorem d14_2 : decode prog_42_method_5_code 2 = .ok (.invokeinterface 16 1, 5) := by decide +kernel
theorem pd_7 : parseMethodDescriptor "()Z" = some ⟨[], some .boolean⟩ := by decide +kernel
theorem d14_7 : decode prog_42_method_5_code 7 = .ok (.ifCond .eq 10, 3) := by decide +kernel
theorem d14_10 : decode prog_42_method_5_code 10 = .ok (.aload_n 0, 1) := by decide +kernel
theorem d14_11 : decode prog_42_method_5_code 11 = .ok (.getfield 7, 3) := by decide +kernel
theorem d14_14 : decode prog_42_method_5_code 14 = .ok (.goto 23, 3) := by decide +kernel
theorem d14_37 : decode prog_42_method_5_code 37 = .ok (.putfield 13, 3) := by decide +kernel
theorem d14_40 : decode prog_42_method_5_code 40 = .ok (.return_, 1) := by decide +kernel
theorem ef_rmV0 (m : MethodId) (a : Addr) (li : Addr) : entryFrame m #[(.ref a), (.ref li)] 2 = mkF m 0 #[.val (.ref a), .val (.ref li)] [] := by first | (simp [entryFrame, mkF, argsToLocals, Value.category]; done) | rfl
def QrmV0 (Z : State) (a : Addr) (li : Addr) (q : Int64) (g : Int64) (h0 : Heap) (n0 : Nat) (rV : Option Value) (hE : Heap) (LE : List Loc) : Prop := rV = none ∧ Fr n0 LE ∧ Keep h0 hE [a] ∧ Exa Z hE a "com/example/plaingrant/plaingrant/store/AuditPages" ∧ Fld Z hE a "com/example/plaingrant/plaingrant/store/AuditPages" "mLast" "J" (.long q) ∧ Fld Z hE a "com/example/plaingrant/plaingrant/store/AuditPages" "mGiven" "J" (.long q)
set_option maxRecDepth 65536 in
set_option maxHeartbeats 40000000 in
theorem rmV0 (l : Launch) (Z : State) (a0 : Array Value) (hw : ∀ d ∈ tables_1, d.before a0 Z = true) (ws : List Jvm.Cond) (a : Addr) (li : Addr) (q : Int64) (g : Int64) (h0 : Heap) (n0 : Nat) (Z0 : n0 ≤ h0.size) (E_a : Exa Z h0 a "com/example/plaingrant/plaingrant/store/AuditPages") (F_mLast_a : Fld Z h0 a "com/example/plaingrant/plaingrant/store/AuditPages" "mLast" "J" (.long q)) (F_mGiven_a : Fld Z h0 a "com/example/plaingrant/plaingrant/store/AuditPages" "mGiven" "J" (.long g)) (E_li : Exa Z h0 li "java/util/ArrayList") (F_size_li : Fld Z h0 li "java/util/ArrayList" "size" "I" (.int (0 : Int32))) (g_a : n0 ≤ a) (ne_li_a : li ≠ a) :
    MetFree l (⟨"com/example/plaingrant/plaingrant/store/AuditPages", "gave", "(Ljava/util/List;)V"⟩ : MethodName) (head1 (Jvm.Cond.code (⟨"com/example/plaingrant/plaingrant/store/AuditPages", "gave", "(Ljava/util/List;)V"⟩ : MethodName) prog_42_method_5_code 2 none :: ws) ({ frames := 1, cells := 0, slots := 0, locals := 13 } : Room)) (fun aA UA => aA = #[(.ref a), (.ref li)] ∧ Z.Warmed39 UA.vm ∧ UA.heap = h0) (fun _ _ _ _ _ => True) (fun _ UA oA UB => ∃ rV LE, oA = .returned rV ∧ QrmV0 Z a li q g h0 n0 rV UB.heap LE ∧ FrameEnd UA oA UB LE ({ frames := 1, cells := 0, slots := 0, locals := 13 } : Room).cells ({ frames := 1, cells := 0, slots := 0, locals := 13 } : Room).slots) := by
  refine MetFree.of_bodySF (plainFor_of_name pn_5) hisR ?_
  intro p e s m args below meth c s₁ Bd hml0 hP hK
  obtain ⟨rfl, hZ, hh⟩ := hP
  have hx := Bd.exec
  have hby := Bd.bytes
  have hml : c.maxLocals = 2 := hml0
  have hown : s.vm.findClass "com/example/plaingrant/plaingrant/store/AuditPages" = some m.cls := findClass_of_methodNamed Bd.named
  have hnm := (name_of_methodNamed Bd.named Bd.method).1
  have hlk := Bd.notSynchronized
  have X0 : Stand p l e ({ frames := 1, cells := 0, slots := 0, locals := 13 } : Room) s m #[(.ref a), (.ref li)] below meth c s₁ [] 0 0 := Stand.of_body Bd
  have e0 : s₁.heap = h0 := by rw [← hh, Bd.state]; rfl
  have N0 := Fr.nil n0
  show Go p e below s (QrmV0 Z a li q g h0 n0) ({ frames := 1, cells := 0, slots := 0, locals := 13 } : Room).cells ({ frames := 1, cells := 0, slots := 0, locals := 13 } : Room).slots s₁ (entryFrame m #[(.ref a), (.ref li)] 2)
  refine Go.eq (ef_rmV0 m a li) ?_
  show Go p e below s _ _ _ s₁ (mkF m 0 #[.val (.ref a), .val (.ref li)] [])
  refine Go.st (fun _ => XS.aloadN X0.here hx rfl (hb hby d14_0) rfl rfl) ?_
  show Go p e below s _ _ _ s₁ (mkF m 1 #[.val (.ref a), .val (.ref li)] [(.ref a)])
  refine Go.st (fun _ => XS.aloadN X0.here hx rfl (hb hby d14_1) rfl rfl) ?_
  show Go p e below s _ _ _ s₁ (mkF m 2 #[.val (.ref a), .val (.ref li)] [(.ref li), (.ref a)])
  obtain ⟨cq1, kq1, q1a, q1b, q1c⟩ := isOf hZ e0 E_li
  obtain ⟨_, _, ⟨T1, L1, kc1, nc1⟩, -, X1, ⟨Lc1, hQ1, l1, y1, z1⟩, st1⟩ := X0.interfaceBack hx (xi := (⟨"java/util/List", "isEmpty", "()Z"⟩ : MethodName)) (y := (⟨"java/util/ArrayList", "isEmpty", "()Z"⟩ : MethodName)) hown (mvT hZ (hw _ (List.mem_of_getElem? (i := 104) rfl))) (mvT hZ (hw _ (List.mem_of_getElem? (i := 105) rfl))) (mvT hZ (hw _ (List.mem_of_getElem? (i := 106) rfl))) (mvT hZ (hw _ (List.mem_of_getElem? (i := 107) rfl))) (mvT hZ (hw _ (List.mem_of_getElem? (i := 108) rfl))) (mvT hZ (hw _ (List.mem_of_getElem? (i := 109) rfl))) (mvT hZ (hw _ (List.mem_of_getElem? (i := 110) rfl))) (mvT hZ (hw _ (List.mem_of_getElem? (i := 111) rfl))) (by decide) (backOf (W := 1) (rmEm l Z a0 hw [] li (0 : Int32) h0 n0 Z0 F_size_li) hZ (hw _ (List.mem_of_getElem? (i := 112) rfl)) (hw _ (List.mem_of_getElem? (i := 2) rfl)) (by decide) (by decide)) q1a q1b q1c (g := (mkF m 2 #[.val (.ref a), .val (.ref li)] [(.ref li), (.ref a)])) rfl (by rw [hml]; rfl) (Steps.refl _) (argsL := []) (rest := [(.ref a)]) (lenOf pd_7 rfl) rfl (by show 2 * 0 + _ ≤ _; exact Nat.le_of_eq rfl) (hb hby d14_2) (fun _ _ => ⟨rfl, e0, (by decide : 0 + 0 ≤ _), (by decide : 0 + 0 ≤ _)⟩)
  dsimp only [Pt.U, Pt.locs, Pt.cells, Pt.slots] at X1 l1 y1 z1 st1 hQ1
  subst l1 y1 z1
  obtain ⟨h1, e1⟩ : ∃ hh, T1.heap = hh := ⟨_, rfl⟩
  rw [e1] at hQ1
  obtain ⟨rfl, N1q, sm1⟩ := hQ1
  have N1 := Fr.app N0 N1q
  refine Go.st (fun _ kk => st1.trans kk) ?_
  rw [sm1] at e1
  show Go p e below s _ _ _ T1 (mkF m 7 #[.val (.ref a), .val (.ref li)] [(.int (b2i ((0 : Int32) = (0 : Int32)))), (.ref a)])
  rw [show (b2i ((0 : Int32) = (0 : Int32))) = (1 : Int32) from b2i_pos (by decide : (0 : Int32) = (0 : Int32))]
  show Go p e below s _ _ _ T1 (mkF m 7 #[.val (.ref a), .val (.ref li)] [(.int (1 : Int32)), (.ref a)])
  refine Go.st (fun _ => XS.ifNo X1.here hx rfl (hb hby d14_7) rfl ((if0 _ _).trans (feq (by decide : ¬ ((1 : Int32) = (0 : Int32)))).1)) ?_
  show Go p e below s _ _ _ T1 (mkF m 10 #[.val (.ref a), .val (.ref li)] [(.ref a)])
  refine Go.st (fun _ => XS.aloadN X1.here hx rfl (hb hby d14_10) rfl rfl) ?_
  show Go p e below s _ _ _ T1 (mkF m 11 #[.val (.ref a), .val (.ref li)] [(.ref a), (.ref a)])
  obtain ⟨T2, X2, e2, st2⟩ := getF X1 hx hZ hown (host := "") (Or.inl (hw _ (List.mem_of_getElem? (i := 90) rfl))) Via.refl e1 F_mLast_a (g := (mkF m 11 #[.val (.ref a), .val (.ref li)] [(.ref a), (.ref a)])) rfl rfl (hb hby d14_11)
  refine Go.st st2 ?_
  show Go p e below s _ _ _ T2 (mkF m 14 #[.val (.ref a), .val (.ref li)] [(.long q), (.ref a)])
  refine Go.st (fun _ => XS.goto X2.here hx rfl (pc0 := 14) (pc' := 37) rfl (hb hby d14_14) (by decide) (by decide)) ?_
  show Go p e below s _ _ _ T2 (mkF m 37 #[.val (.ref a), .val (.ref li)] [(.long q), (.ref a)])
  obtain ⟨T3, h3, X3, e3, W3, st3⟩ := putF X2 hx hZ hown (host := "") (Or.inl (hw _ (List.mem_of_getElem? (i := 97) rfl))) Via.refl e2 F_mGiven_a E_a (Or.inl (hw _ (List.mem_of_getElem? (i := 98) rfl))) (hw _ (List.mem_of_getElem? (i := 84) rfl)) (ty := .long) (by decide) rfl rfl (g := (mkF m 37 #[.val (.ref a), .val (.ref li)] [(.long q), (.ref a)])) rfl rfl (hb hby d14_37)
  refine Go.st st3 ?_
  have N3 := Fr.snoc X3 N1 g_a
  have K3 : Keep h0 h3 [a] := (Keep.refl h0 [a]).wr W3 (Or.inl (List.mem_of_getElem? (i := 0) rfl))
  have z3 : n0 ≤ h3.size := Nat.le_trans Z0 (Nat.le_of_eq W3.size.symm)
  have Fw3 := F_mGiven_a.same W3
  show Go p e below s _ _ _ T3 (mkF m 40 #[.val (.ref a), .val (.ref li)] [])
  have f4 := (E_a.wr W3)
  have f5 := (F_mLast_a.other W3 (Or.inr (slot_ne (Or.inr (hw _ (List.mem_of_getElem? (i := 91) rfl))) (Or.inl (hw _ (List.mem_of_getElem? (i := 98) rfl))) (by decide) (t := .long) (t' := .long) (by decide) (by decide))))
  exact Go.ret0 X3 hx hlk Bd.returns (hb hby d14_40) (by rw [e3]; exact ⟨rfl, N3, K3, f4, f5, Fw3⟩) (by decide) (by decide)
theorem d14_17 : decode prog_42_method_5_code 17 = .ok (.aload_n 1, 1) := by decide +kernel
theorem d14_18 : decode prog_42_method_5_code 18 = .ok (.aload_n 1, 1) := by decide +kernel
theorem d14_19 : decode prog_42_method_5_code 19 = .ok (.invokeinterface 22 1, 5) := by decide +kernel
theorem pd_8 : parseMethodDescriptor "()I" = some ⟨[], some .int⟩ := by decide +kernel
theorem d14_24 : decode prog_42_method_5_code 24 = .ok (.iconst 1, 1) := by decide +kernel
theorem d14_25 : decode prog_42_method_5_code 25 = .ok (.isub, 1) := by decide +kernel
theorem d14_26 : decode prog_42_method_5_code 26 = .ok (.invokeinterface 26 2, 5) := by decide +kernel
theorem d14_31 : decode prog_42_method_5_code 31 = .ok (.checkcast 30, 3) := by decide +kernel
theorem d14_34 : decode prog_42_method_5_code 34 = .ok (.invokevirtual 32, 3) := by decide +kernel
theorem pd_9 : parseMethodDescriptor "()J" = some ⟨[], some .long⟩ := by decide +kernel
theorem ef_rmV1 (m : MethodId) (a : Addr) (li : Addr) : entryFrame m #[(.ref a), (.ref li)] 2 = mkF m 0 #[.val (.ref a), .val (.ref li)] [] := by first | (simp [entryFrame, mkF, argsToLocals, Value.category]; done) | rfl
def QrmV1 (Z : State) (a : Addr) (li : Addr) (q : Int64) (g : Int64) (t : Addr) (kt : ClassId) (en : Addr) (r : Int64) (h0 : Heap) (n0 : Nat) (rV : Option Value) (hE : Heap) (LE : List Loc) : Prop := rV = none ∧ Fr n0 LE ∧ Keep h0 hE [a] ∧ Exa Z hE a "com/example/plaingrant/plaingrant/store/AuditPages" ∧ Fld Z hE a "com/example/plaingrant/plaingrant/store/AuditPages" "mLast" "J" (.long q) ∧ Fld Z hE a "com/example/plaingrant/plaingrant/store/AuditPages" "mGiven" "J" (.long r)
set_option maxRecDepth 65536 in
set_option maxHeartbeats 40000000 in
theorem rmV1 (l : Launch) (Z : State) (a0 : Array Value) (hw : ∀ d ∈ tables_1, d.before a0 Z = true) (ws : List Jvm.Cond) (a : Addr) (li : Addr) (q : Int64) (g : Int64) (t : Addr) (kt : ClassId) (en : Addr) (r : Int64) (h0 : Heap) (n0 : Nat) (Z0 : n0 ≤ h0.size) (E_a : Exa Z h0 a "com/example/plaingrant/plaingrant/store/AuditPages") (F_mLast_a : Fld Z h0 a "com/example/plaingrant/plaingrant/store/AuditPages" "mLast" "J" (.long q)) (F_mGiven_a : Fld Z h0 a "com/example/plaingrant/plaingrant/store/AuditPages" "mGiven" "J" (.long g)) (E_li : Exa Z h0 li "java/util/ArrayList") (F_size_li : Fld Z h0 li "java/util/ArrayList" "size" "I" (.int (1 : Int32))) (F_elementData_li : Fld Z h0 li "java/util/ArrayList" "elementData" "[Ljava/lang/Object;" (.ref t)) (V_t : Arv Z h0 t kt (.object "java/lang/Object") (10 : Int32) [(.ref en), .null, .null, .null, .null, .null, .null, .null, .null, .null] .null) (E_en : Exa Z h0 en "com/example/plaingrant/plaingrant/store/AuditEntry") (F_sequence_en : Fld Z h0 en "com/example/plaingrant/plaingrant/store/AuditEntry" "sequence" "J" (.long r)) (g_a : n0 ≤ a) (ne_li_a : li ≠ a) (ne_en_a : en ≠ a) (ne_t_a : t ≠ a) :
    MetFree l (⟨"com/example/plaingrant/plaingrant/store/AuditPages", "gave", "(Ljava/util/List;)V"⟩ : MethodName) (head1 (Jvm.Cond.code (⟨"com/example/plaingrant/plaingrant/store/AuditPages", "gave", "(Ljava/util/List;)V"⟩ : MethodName) prog_42_method_5_code 2 none :: ws) ({ frames := 3, cells := 0, slots := 0, locals := 41 } : Room)) (fun aA UA => aA = #[(.ref a), (.ref li)] ∧ Z.Warmed39 UA.vm ∧ UA.heap = h0) (fun _ _ _ _ _ => True) (fun _ UA oA UB => ∃ rV LE, oA = .returned rV ∧ QrmV1 Z a li q g t kt en r h0 n0 rV UB.heap LE ∧ FrameEnd UA oA UB LE ({ frames := 3, cells := 0, slots := 0, locals := 41 } : Room).cells ({ frames := 3, cells := 0, slots := 0, locals := 41 } : Room).slots) := by
  refine MetFree.of_bodySF (plainFor_of_name pn_5) hisR ?_
  intro p e s m args below meth c s₁ Bd hml0 hP hK
  obtain ⟨rfl, hZ, hh⟩ := hP
  have hx := Bd.exec
  have hby := Bd.bytes
  have hml : c.maxLocals = 2 := hml0
  have hown : s.vm.findClass "com/example/plaingrant/plaingrant/store/AuditPages" = some m.cls := findClass_of_methodNamed Bd.named
  have hnm := (name_of_methodNamed Bd.named Bd.method).1
  have hlk := Bd.notSynchronized
  have X0 : Stand p l e ({ frames := 3, cells := 0, slots := 0, locals := 41 } : Room) s m #[(.ref a), (.ref li)] below meth c s₁ [] 0 0 := Stand.of_body Bd
  have e0 : s₁.heap = h0 := by rw [← hh, Bd.state]; rfl
  have N0 := Fr.nil n0
  show Go p e below s (QrmV1 Z a li q g t kt en r h0 n0) ({ frames := 3, cells := 0, slots := 0, locals := 41 } : Room).cells ({ frames := 3, cells := 0, slots := 0, locals := 41 } : Room).slots s₁ (entryFrame m #[(.ref a), (.ref li)] 2)
  refine Go.eq (ef_rmV1 m a li) ?_
  show Go p e below s _ _ _ s₁ (mkF m 0 #[.val (.ref a), .val (.ref li)] [])
  refine Go.st (fun _ => XS.aloadN X0.here hx rfl (hb hby d14_0) rfl rfl) ?_
  show Go p e below s _ _ _ s₁ (mkF m 1 #[.val (.ref a), .val (.ref li)] [(.ref a)])
  refine Go.st (fun _ => XS.aloadN X0.here hx rfl (hb hby d14_1) rfl rfl) ?_
  show Go p e below s _ _ _ s₁ (mkF m 2 #[.val (.ref a), .val (.ref li)] [(.ref li), (.ref a)])
  obtain ⟨cq1, kq1, q1a, q1b, q1c⟩ := isOf hZ e0 E_li
  obtain ⟨_, _, ⟨T1, L1, kc1, nc1⟩, -, X1, ⟨Lc1, hQ1, l1, y1, z1⟩, st1⟩ := X0.interfaceBack hx (xi := (⟨"java/util/List", "isEmpty", "()Z"⟩ : MethodName)) (y := (⟨"java/util/ArrayList", "isEmpty", "()Z"⟩ : MethodName)) hown (mvT hZ (hw _ (List.mem_of_getElem? (i := 104) rfl))) (mvT hZ (hw _ (List.mem_of_getElem? (i := 105) rfl))) (mvT hZ (hw _ (List.mem_of_getElem? (i := 106) rfl))) (mvT hZ (hw _ (List.mem_of_getElem? (i := 107) rfl))) (mvT hZ (hw _ (List.mem_of_getElem? (i := 108) rfl))) (mvT hZ (hw _ (List.mem_of_getElem? (i := 109) rfl))) (mvT hZ (hw _ (List.mem_of_getElem? (i := 110) rfl))) (mvT hZ (hw _ (List.mem_of_getElem? (i := 111) rfl))) (by decide) (backOf (W := 1) (rmEm l Z a0 hw [] li (1 : Int32) h0 n0 Z0 F_size_li) hZ (hw _ (List.mem_of_getElem? (i := 112) rfl)) (hw _ (List.mem_of_getElem? (i := 2) rfl)) (by decide) (by decide)) q1a q1b q1c (g := (mkF m 2 #[.val (.ref a), .val (.ref li)] [(.ref li), (.ref a)])) rfl (by rw [hml]; rfl) (Steps.refl _) (argsL := []) (rest := [(.ref a)]) (lenOf pd_7 rfl) rfl (by show 2 * 0 + _ ≤ _; exact Nat.le_of_eq rfl) (hb hby d14_2) (fun _ _ => ⟨rfl, e0, (by decide : 0 + 0 ≤ _), (by decide : 0 + 0 ≤ _)⟩)
  dsimp only [Pt.U, Pt.locs, Pt.cells, Pt.slots] at X1 l1 y1 z1 st1 hQ1
  subst l1 y1 z1
  obtain ⟨h1, e1⟩ : ∃ hh, T1.heap = hh := ⟨_, rfl⟩
  rw [e1] at hQ1
  obtain ⟨rfl, N1q, sm1⟩ := hQ1
  have N1 := Fr.app N0 N1q
  refine Go.st (fun _ kk => st1.trans kk) ?_
  rw [sm1] at e1
  show Go p e below s _ _ _ T1 (mkF m 7 #[.val (.ref a), .val (.ref li)] [(.int (b2i ((1 : Int32) = (0 : Int32)))), (.ref a)])
  rw [show (b2i ((1 : Int32) = (0 : Int32))) = (0 : Int32) from b2i_neg (by decide : ¬ ((1 : Int32) = (0 : Int32)))]
  show Go p e below s _ _ _ T1 (mkF m 7 #[.val (.ref a), .val (.ref li)] [(.int (0 : Int32)), (.ref a)])
  refine Go.st (fun _ => XS.ifYes X1.here hx rfl (pc0 := 7) (pc' := 17) rfl (hb hby d14_7) rfl ((if0 _ _).trans (teq (by decide : (0 : Int32) = (0 : Int32))).1) (by decide) (by decide)) ?_
  show Go p e below s _ _ _ T1 (mkF m 17 #[.val (.ref a), .val (.ref li)] [(.ref a)])
  refine Go.st (fun _ => XS.aloadN X1.here hx rfl (hb hby d14_17) rfl rfl) ?_
  show Go p e below s _ _ _ T1 (mkF m 18 #[.val (.ref a), .val (.ref li)] [(.ref li), (.ref a)])
  refine Go.st (fun _ => XS.aloadN X1.here hx rfl (hb hby d14_18) rfl rfl) ?_
  show Go p e below s _ _ _ T1 (mkF m 19 #[.val (.ref a), .val (.ref li)] [(.ref li), (.ref li), (.ref a)])
  obtain ⟨cq2, kq2, q2a, q2b, q2c⟩ := isOf hZ e1 E_li
  obtain ⟨_, _, ⟨T2, L2, kc2, nc2⟩, -, X2, ⟨Lc2, hQ2, l2, y2, z2⟩, st2⟩ := X1.interfaceBack hx (xi := (⟨"java/util/List", "size", "()I"⟩ : MethodName)) (y := (⟨"java/util/ArrayList", "size", "()I"⟩ : MethodName)) hown (mvT hZ (hw _ (List.mem_of_getElem? (i := 113) rfl))) (mvT hZ (hw _ (List.mem_of_getElem? (i := 114) rfl))) (mvT hZ (hw _ (List.mem_of_getElem? (i := 115) rfl))) (mvT hZ (hw _ (List.mem_of_getElem? (i := 116) rfl))) (mvT hZ (hw _ (List.mem_of_getElem? (i := 117) rfl))) (mvT hZ (hw _ (List.mem_of_getElem? (i := 118) rfl))) (mvT hZ (hw _ (List.mem_of_getElem? (i := 119) rfl))) (mvT hZ (hw _ (List.mem_of_getElem? (i := 111) rfl))) (by decide) (backOf (W := 2) (rmSz l Z a0 hw [] li (1 : Int32) h0 n0 Z0 F_size_li) hZ (hw _ (List.mem_of_getElem? (i := 120) rfl)) (hw _ (List.mem_of_getElem? (i := 2) rfl)) (by decide) (by decide)) q2a q2b q2c (g := (mkF m 19 #[.val (.ref a), .val (.ref li)] [(.ref li), (.ref li), (.ref a)])) rfl (by rw [hml]; rfl) (Steps.refl _) (argsL := []) (rest := [(.ref li), (.ref a)]) (lenOf pd_8 rfl) rfl (by show 2 * 0 + _ ≤ _; exact Nat.le_of_eq rfl) (hb hby d14_19) (fun _ _ => ⟨rfl, e1, (by decide : 0 + 0 ≤ _), (by decide : 0 + 0 ≤ _)⟩)
  dsimp only [Pt.U, Pt.locs, Pt.cells, Pt.slots] at X2 l2 y2 z2 st2 hQ2
  subst l2 y2 z2
  obtain ⟨h2, e2⟩ : ∃ hh, T2.heap = hh := ⟨_, rfl⟩
  rw [e2] at hQ2
  obtain ⟨rfl, N2q, sm2⟩ := hQ2
  have N2 := Fr.app N1 N2q
  refine Go.st (fun _ kk => st2.trans kk) ?_
  rw [sm2] at e2
  show Go p e below s _ _ _ T2 (mkF m 24 #[.val (.ref a), .val (.ref li)] [(.int (1 : Int32)), (.ref li), (.ref a)])
  refine Go.st (fun _ => XS.iconst X2.here hx rfl (hb hby d14_24)) ?_
  show Go p e below s _ _ _ T2 (mkF m 25 #[.val (.ref a), .val (.ref li)] [(.int (1 : Int32)), (.int (1 : Int32)), (.ref li), (.ref a)])
  refine Go.st (fun _ => XS.isub X2.here hx rfl (hb hby d14_25) rfl) ?_
  show Go p e below s _ _ _ T2 (mkF m 26 #[.val (.ref a), .val (.ref li)] [(.int ((1 : Int32) - (1 : Int32))), (.ref li), (.ref a)])
  rw [show ((1 : Int32) - (1 : Int32)) = (0 : Int32) from by decide]
  show Go p e below s _ _ _ T2 (mkF m 26 #[.val (.ref a), .val (.ref li)] [(.int (0 : Int32)), (.ref li), (.ref a)])
  obtain ⟨cq3, kq3, q3a, q3b, q3c⟩ := isOf hZ e2 E_li
  obtain ⟨_, _, ⟨T3, L3, kc3, nc3⟩, -, X3, ⟨Lc3, hQ3, l3, y3, z3⟩, st3⟩ := X2.interfaceBack hx (xi := (⟨"java/util/List", "get", "(I)Ljava/lang/Object;"⟩ : MethodName)) (y := (⟨"java/util/ArrayList", "get", "(I)Ljava/lang/Object;"⟩ : MethodName)) hown (mvT hZ (hw _ (List.mem_of_getElem? (i := 121) rfl))) (mvT hZ (hw _ (List.mem_of_getElem? (i := 122) rfl))) (mvT hZ (hw _ (List.mem_of_getElem? (i := 123) rfl))) (mvT hZ (hw _ (List.mem_of_getElem? (i := 124) rfl))) (mvT hZ (hw _ (List.mem_of_getElem? (i := 125) rfl))) (mvT hZ (hw _ (List.mem_of_getElem? (i := 126) rfl))) (mvT hZ (hw _ (List.mem_of_getElem? (i := 127) rfl))) (mvT hZ (hw _ (List.mem_of_getElem? (i := 111) rfl))) (by decide) (backOf (W := 1) (rmGt l Z a0 hw [] li (0 : Int32) t kt [(.ref en), .null, .null, .null, .null, .null, .null, .null, .null, .null] en (1 : Int32) h0 n0 Z0 E_li F_size_li F_elementData_li V_t (by decide) rfl (by decide) (by decide)) hZ (hw _ (List.mem_of_getElem? (i := 128) rfl)) (hw _ (List.mem_of_getElem? (i := 2) rfl)) (by decide) (by decide)) q3a q3b q3c (g := (mkF m 26 #[.val (.ref a), .val (.ref li)] [(.int (0 : Int32)), (.ref li), (.ref a)])) rfl (by rw [hml]; rfl) (Steps.refl _) (argsL := [(.int (0 : Int32))]) (rest := [(.ref a)]) (lenOf pd_6 rfl) rfl (by show 2 * 0 + _ ≤ _; exact Nat.le_of_eq rfl) (hb hby d14_26) (fun _ _ => ⟨rfl, e2, (by decide : 0 + 0 ≤ _), (by decide : 0 + 0 ≤ _)⟩)
  dsimp only [Pt.U, Pt.locs, Pt.cells, Pt.slots] at X3 l3 y3 z3 st3 hQ3
  subst l3 y3 z3
  obtain ⟨h3, e3⟩ : ∃ hh, T3.heap = hh := ⟨_, rfl⟩
  rw [e3] at hQ3
  obtain ⟨rfl, N3q, sm3⟩ := hQ3
  have N3 := Fr.app N2 N3q
  refine Go.st (fun _ kk => st3.trans kk) ?_
  rw [sm3] at e3
  show Go p e below s _ _ _ T3 (mkF m 31 #[.val (.ref a), .val (.ref li)] [(.ref en), (.ref a)])
  obtain ⟨T4, X4, e4, st4⟩ := castY X3 hx hZ hown (hw _ (List.mem_of_getElem? (i := 142) rfl)) e3 (Ins.self E_en) (g := (mkF m 31 #[.val (.ref a), .val (.ref li)] [(.ref en), (.ref a)])) rfl rfl (hb hby d14_31)
  refine Go.st st4 ?_
  show Go p e below s _ _ _ T4 (mkF m 34 #[.val (.ref a), .val (.ref li)] [(.ref en), (.ref a)])
  obtain ⟨cq5, kq5, q5a, q5b, q5c⟩ := isOf hZ e4 E_en
  obtain ⟨_, _, ⟨T5, L5, kc5, nc5⟩, -, X5, ⟨Lc5, hQ5, l5, y5, z5⟩, st5⟩ := X4.virtualBack hx (y := (⟨"com/example/plaingrant/plaingrant/store/AuditEntry", "sequence", "()J"⟩ : MethodName)) (z := (⟨"com/example/plaingrant/plaingrant/store/AuditEntry", "sequence", "()J"⟩ : MethodName)) hown (mvT hZ (hw _ (List.mem_of_getElem? (i := 144) rfl))) (mvT hZ (hw _ (List.mem_of_getElem? (i := 145) rfl))) (notFace_of_selects (args := #[]) (mvT hZ (hw _ (List.mem_of_getElem? (i := 147) rfl)))) (mvT hZ (hw _ (List.mem_of_getElem? (i := 147) rfl))) (mvT hZ (hw _ (List.mem_of_getElem? (i := 146) rfl))) (by decide) (backOf (W := 1) (rmSq l Z a0 hw [] en r h0 n0 Z0 F_sequence_en) hZ (hw _ (List.mem_of_getElem? (i := 148) rfl)) (hw _ (List.mem_of_getElem? (i := 28) rfl)) (by decide) (by decide)) q5a q5c (g := (mkF m 34 #[.val (.ref a), .val (.ref li)] [(.ref en), (.ref a)])) rfl (by rw [hml]; rfl) (Steps.refl _) (argsL := []) (rest := [(.ref a)]) (lenOf pd_9 rfl) rfl (by show 2 * 0 + _ ≤ _; exact Nat.le_of_eq rfl) (hb hby d14_34) (fun _ _ => ⟨rfl, e4, (by decide : 0 + 0 ≤ _), (by decide : 0 + 0 ≤ _)⟩)
  dsimp only [Pt.U, Pt.locs, Pt.cells, Pt.slots] at X5 l5 y5 z5 st5 hQ5
  subst l5 y5 z5
  obtain ⟨h5, e5⟩ : ∃ hh, T5.heap = hh := ⟨_, rfl⟩
  rw [e5] at hQ5
  obtain ⟨rfl, N5q, sm5⟩ := hQ5
  have N5 := Fr.app N3 N5q
  refine Go.st (fun _ kk => st5.trans kk) ?_
  rw [sm5] at e5
  show Go p e below s _ _ _ T5 (mkF m 37 #[.val (.ref a), .val (.ref li)] [(.long r), (.ref a)])
  obtain ⟨T6, h6, X6, e6, W6, st6⟩ := putF X5 hx hZ hown (host := "") (Or.inl (hw _ (List.mem_of_getElem? (i := 97) rfl))) Via.refl e5 F_mGiven_a E_a (Or.inl (hw _ (List.mem_of_getElem? (i := 98) rfl))) (hw _ (List.mem_of_getElem? (i := 84) rfl)) (ty := .long) (by decide) rfl rfl (g := (mkF m 37 #[.val (.ref a), .val (.ref li)] [(.long r), (.ref a)])) rfl rfl (hb hby d14_37)
  refine Go.st st6 ?_
  have N6 := Fr.snoc X6 N5 g_a
  have K6 : Keep h0 h6 [a] := (Keep.refl h0 [a]).wr W6 (Or.inl (List.mem_of_getElem? (i := 0) rfl))
  have z6 : n0 ≤ h6.size := Nat.le_trans Z0 (Nat.le_of_eq W6.size.symm)
  have Fw6 := F_mGiven_a.same W6
  show Go p e below s _ _ _ T6 (mkF m 40 #[.val (.ref a), .val (.ref li)] [])
  have f7 := (E_a.wr W6)
  have f8 := (F_mLast_a.other W6 (Or.inr (slot_ne (Or.inr (hw _ (List.mem_of_getElem? (i := 91) rfl))) (Or.inl (hw _ (List.mem_of_getElem? (i := 98) rfl))) (by decide) (t := .long) (t' := .long) (by decide) (by decide))))
  exact Go.ret0 X6 hx hlk Bd.returns (hb hby d14_40) (by rw [e6]; exact ⟨rfl, N6, K6, f7, f8, Fw6⟩) (by decide) (by decide)
theorem ef_rmV2 (m : MethodId) (a : Addr) (li : Addr) : entryFrame m #[(.ref a), (.ref li)] 2 = mkF m 0 #[.val (.ref a), .val (.ref li)] [] := by first | (simp [entryFrame, mkF, argsToLocals, Value.category]; done) | rfl
def QrmV2 (Z : State) (a : Addr) (li : Addr) (q : Int64) (g : Int64) (t : Addr) (kt : ClassId) (en : Addr) (r : Int64) (ez : Addr) (h0 : Heap) (n0 : Nat) (rV : Option Value) (hE : Heap) (LE : List Loc) : Prop := rV = none ∧ Fr n0 LE ∧ Keep h0 hE [a] ∧ Exa Z hE a "com/example/plaingrant/plaingrant/store/AuditPages" ∧ Fld Z hE a "com/example/plaingrant/plaingrant/store/AuditPages" "mLast" "J" (.long q) ∧ Fld Z hE a "com/example/plaingrant/plaingrant/store/AuditPages" "mGiven" "J" (.long r)
set_option maxRecDepth 65536 in
set_option maxHeartbeats 40000000 in
theorem rmV2 (l : Launch) (Z : State) (a0 : Array Value) (hw : ∀ d ∈ tables_1, d.before a0 Z = true) (ws : List Jvm.Cond) (a : Addr) (li : Addr) (q : Int64) (g : Int64) (t : Addr) (kt : ClassId) (en : Addr) (r : Int64) (ez : Addr) (h0 : Heap) (n0 : Nat) (Z0 : n0 ≤ h0.size) (E_a : Exa Z h0 a "com/example/plaingrant/plaingrant/store/AuditPages") (F_mLast_a : Fld Z h0 a "com/example/plaingrant/plaingrant/store/AuditPages" "mLast" "J" (.long q)) (F_mGiven_a : Fld Z h0 a "com/example/plaingrant/plaingrant/store/AuditPages" "mGiven" "J" (.long g)) (E_li : Exa Z h0 li "java/util/ArrayList") (F_size_li : Fld Z h0 li "java/util/ArrayList" "size" "I" (.int (2 : Int32))) (F_elementData_li : Fld Z h0 li "java/util/ArrayList" "elementData" "[Ljava/lang/Object;" (.ref t)) (V_t : Arv Z h0 t kt (.object "java/lang/Object") (10 : Int32) [(.ref ez), (.ref en), .null, .null, .null, .null, .null, .null, .null, .null] .null) (E_en : Exa Z h0 en "com/example/plaingrant/plaingrant/store/AuditEntry") (F_sequence_en : Fld Z h0 en "com/example/plaingrant/plaingrant/store/AuditEntry" "sequence" "J" (.long r)) (g_a : n0 ≤ a) (ne_li_a : li ≠ a) (ne_en_a : en ≠ a) (ne_t_a : t ≠ a) :
    MetFree l (⟨"com/example/plaingrant/plaingrant/store/AuditPages", "gave", "(Ljava/util/List;)V"⟩ : MethodName) (head1 (Jvm.Cond.code (⟨"com/example/plaingrant/plaingrant/store/AuditPages", "gave", "(Ljava/util/List;)V"⟩ : MethodName) prog_42_method_5_code 2 none :: ws) ({ frames := 3, cells := 0, slots := 0, locals := 41 } : Room)) (fun aA UA => aA = #[(.ref a), (.ref li)] ∧ Z.Warmed39 UA.vm ∧ UA.heap = h0) (fun _ _ _ _ _ => True) (fun _ UA oA UB => ∃ rV LE, oA = .returned rV ∧ QrmV2 Z a li q g t kt en r ez h0 n0 rV UB.heap LE ∧ FrameEnd UA oA UB LE ({ frames := 3, cells := 0, slots := 0, locals := 41 } : Room).cells ({ frames := 3, cells := 0, slots := 0, locals := 41 } : Room).slots) := by
  refine MetFree.of_bodySF (plainFor_of_name pn_5) hisR ?_
  intro p e s m args below meth c s₁ Bd hml0 hP hK
  obtain ⟨rfl, hZ, hh⟩ := hP
  have hx := Bd.exec
  have hby := Bd.bytes
  have hml : c.maxLocals = 2 := hml0
  have hown : s.vm.findClass "com/example/plaingrant/plaingrant/store/AuditPages" = some m.cls := findClass_of_methodNamed Bd.named
  have hnm := (name_of_methodNamed Bd.named Bd.method).1
  have hlk := Bd.notSynchronized
  have X0 : Stand p l e ({ frames := 3, cells := 0, slots := 0, locals := 41 } : Room) s m #[(.ref a), (.ref li)] below meth c s₁ [] 0 0 := Stand.of_body Bd
  have e0 : s₁.heap = h0 := by rw [← hh, Bd.state]; rfl
  have N0 := Fr.nil n0
  show Go p e below s (QrmV2 Z a li q g t kt en r ez h0 n0) ({ frames := 3, cells := 0, slots := 0, locals := 41 } : Room).cells ({ frames := 3, cells := 0, slots := 0, locals := 41 } : Room).slots s₁ (entryFrame m #[(.ref a), (.ref li)] 2)
  refine Go.eq (ef_rmV2 m a li) ?_
  show Go p e below s _ _ _ s₁ (mkF m 0 #[.val (.ref a), .val (.ref li)] [])
  refine Go.st (fun _ => XS.aloadN X0.here hx rfl (hb hby d14_0) rfl rfl) ?_
  show Go p e below s _ _ _ s₁ (mkF m 1 #[.val (.ref a), .val (.ref li)] [(.ref a)])
  refine Go.st (fun _ => XS.aloadN X0.here hx rfl (hb hby d14_1) rfl rfl) ?_
  show Go p e below s _ _ _ s₁ (mkF m 2 #[.val (.ref a), .val (.ref li)] [(.ref li), (.ref a)])
  obtain ⟨cq1, kq1, q1a, q1b, q1c⟩ := isOf hZ e0 E_li
  obtain ⟨_, _, ⟨T1, L1, kc1, nc1⟩, -, X1, ⟨Lc1, hQ1, l1, y1, z1⟩, st1⟩ := X0.interfaceBack hx (xi := (⟨"java/util/List", "isEmpty", "()Z"⟩ : MethodName)) (y := (⟨"java/util/ArrayList", "isEmpty", "()Z"⟩ : MethodName)) hown (mvT hZ (hw _ (List.mem_of_getElem? (i := 104) rfl))) (mvT hZ (hw _ (List.mem_of_getElem? (i := 105) rfl))) (mvT hZ (hw _ (List.mem_of_getElem? (i := 106) rfl))) (mvT hZ (hw _ (List.mem_of_getElem? (i := 107) rfl))) (mvT hZ (hw _ (List.mem_of_getElem? (i := 108) rfl))) (mvT hZ (hw _ (List.mem_of_getElem? (i := 109) rfl))) (mvT hZ (hw _ (List.mem_of_getElem? (i := 110) rfl))) (mvT hZ (hw _ (List.mem_of_getElem? (i := 111) rfl))) (by decide) (backOf (W := 1) (rmEm l Z a0 hw [] li (2 : Int32) h0 n0 Z0 F_size_li) hZ (hw _ (List.mem_of_getElem? (i := 112) rfl)) (hw _ (List.mem_of_getElem? (i := 2) rfl)) (by decide) (by decide)) q1a q1b q1c (g := (mkF m 2 #[.val (.ref a), .val (.ref li)] [(.ref li), (.ref a)])) rfl (by rw [hml]; rfl) (Steps.refl _) (argsL := []) (rest := [(.ref a)]) (lenOf pd_7 rfl) rfl (by show 2 * 0 + _ ≤ _; exact Nat.le_of_eq rfl) (hb hby d14_2) (fun _ _ => ⟨rfl, e0, (by decide : 0 + 0 ≤ _), (by decide : 0 + 0 ≤ _)⟩)
  dsimp only [Pt.U, Pt.locs, Pt.cells, Pt.slots] at X1 l1 y1 z1 st1 hQ1
  subst l1 y1 z1
  obtain ⟨h1, e1⟩ : ∃ hh, T1.heap = hh := ⟨_, rfl⟩
  rw [e1] at hQ1
  obtain ⟨rfl, N1q, sm1⟩ := hQ1
  have N1 := Fr.app N0 N1q
  refine Go.st (fun _ kk => st1.trans kk) ?_
  rw [sm1] at e1
  show Go p e below s _ _ _ T1 (mkF m 7 #[.val (.ref a), .val (.ref li)] [(.int (b2i ((2 : Int32) = (0 : Int32)))), (.ref a)])
  rw [show (b2i ((2 : Int32) = (0 : Int32))) = (0 : Int32) from b2i_neg (by decide : ¬ ((2 : Int32) = (0 : Int32)))]
  show Go p e below s _ _ _ T1 (mkF m 7 #[.val (.ref a), .val (.ref li)] [(.int (0 : Int32)), (.ref a)])
  refine Go.st (fun _ => XS.ifYes X1.here hx rfl (pc0 := 7) (pc' := 17) rfl (hb hby d14_7) rfl ((if0 _ _).trans (teq (by decide : (0 : Int32) = (0 : Int32))).1) (by decide) (by decide)) ?_
  show Go p e below s _ _ _ T1 (mkF m 17 #[.val (.ref a), .val (.ref li)] [(.ref a)])
  refine Go.st (fun _ => XS.aloadN X1.here hx rfl (hb hby d14_17) rfl rfl) ?_
  show Go p e below s _ _ _ T1 (mkF m 18 #[.val (.ref a), .val (.ref li)] [(.ref li), (.ref a)])
  refine Go.st (fun _ => XS.aloadN X1.here hx rfl (hb hby d14_18) rfl rfl) ?_
  show Go p e below s _ _ _ T1 (mkF m 19 #[.val (.ref a), .val (.ref li)] [(.ref li), (.ref li), (.ref a)])
  obtain ⟨cq2, kq2, q2a, q2b, q2c⟩ := isOf hZ e1 E_li
  obtain ⟨_, _, ⟨T2, L2, kc2, nc2⟩, -, X2, ⟨Lc2, hQ2, l2, y2, z2⟩, st2⟩ := X1.interfaceBack hx (xi := (⟨"java/util/List", "size", "()I"⟩ : MethodName)) (y := (⟨"java/util/ArrayList", "size", "()I"⟩ : MethodName)) hown (mvT hZ (hw _ (List.mem_of_getElem? (i := 113) rfl))) (mvT hZ (hw _ (List.mem_of_getElem? (i := 114) rfl))) (mvT hZ (hw _ (List.mem_of_getElem? (i := 115) rfl))) (mvT hZ (hw _ (List.mem_of_getElem? (i := 116) rfl))) (mvT hZ (hw _ (List.mem_of_getElem? (i := 117) rfl))) (mvT hZ (hw _ (List.mem_of_getElem? (i := 118) rfl))) (mvT hZ (hw _ (List.mem_of_getElem? (i := 119) rfl))) (mvT hZ (hw _ (List.mem_of_getElem? (i := 111) rfl))) (by decide) (backOf (W := 2) (rmSz l Z a0 hw [] li (2 : Int32) h0 n0 Z0 F_size_li) hZ (hw _ (List.mem_of_getElem? (i := 120) rfl)) (hw _ (List.mem_of_getElem? (i := 2) rfl)) (by decide) (by decide)) q2a q2b q2c (g := (mkF m 19 #[.val (.ref a), .val (.ref li)] [(.ref li), (.ref li), (.ref a)])) rfl (by rw [hml]; rfl) (Steps.refl _) (argsL := []) (rest := [(.ref li), (.ref a)]) (lenOf pd_8 rfl) rfl (by show 2 * 0 + _ ≤ _; exact Nat.le_of_eq rfl) (hb hby d14_19) (fun _ _ => ⟨rfl, e1, (by decide : 0 + 0 ≤ _), (by decide : 0 + 0 ≤ _)⟩)
  dsimp only [Pt.U, Pt.locs, Pt.cells, Pt.slots] at X2 l2 y2 z2 st2 hQ2
  subst l2 y2 z2
  obtain ⟨h2, e2⟩ : ∃ hh, T2.heap = hh := ⟨_, rfl⟩
  rw [e2] at hQ2
  obtain ⟨rfl, N2q, sm2⟩ := hQ2
  have N2 := Fr.app N1 N2q
  refine Go.st (fun _ kk => st2.trans kk) ?_
  rw [sm2] at e2
  show Go p e below s _ _ _ T2 (mkF m 24 #[.val (.ref a), .val (.ref li)] [(.int (2 : Int32)), (.ref li), (.ref a)])
  refine Go.st (fun _ => XS.iconst X2.here hx rfl (hb hby d14_24)) ?_
  show Go p e below s _ _ _ T2 (mkF m 25 #[.val (.ref a), .val (.ref li)] [(.int (1 : Int32)), (.int (2 : Int32)), (.ref li), (.ref a)])
  refine Go.st (fun _ => XS.isub X2.here hx rfl (hb hby d14_25) rfl) ?_
  show Go p e below s _ _ _ T2 (mkF m 26 #[.val (.ref a), .val (.ref li)] [(.int ((2 : Int32) - (1 : Int32))), (.ref li), (.ref a)])
  rw [show ((2 : Int32) - (1 : Int32)) = (1 : Int32) from by decide]
  show Go p e below s _ _ _ T2 (mkF m 26 #[.val (.ref a), .val (.ref li)] [(.int (1 : Int32)), (.ref li), (.ref a)])
  obtain ⟨cq3, kq3, q3a, q3b, q3c⟩ := isOf hZ e2 E_li
  obtain ⟨_, _, ⟨T3, L3, kc3, nc3⟩, -, X3, ⟨Lc3, hQ3, l3, y3, z3⟩, st3⟩ := X2.interfaceBack hx (xi := (⟨"java/util/List", "get", "(I)Ljava/lang/Object;"⟩ : MethodName)) (y := (⟨"java/util/ArrayList", "get", "(I)Ljava/lang/Object;"⟩ : MethodName)) hown (mvT hZ (hw _ (List.mem_of_getElem? (i := 121) rfl))) (mvT hZ (hw _ (List.mem_of_getElem? (i := 122) rfl))) (mvT hZ (hw _ (List.mem_of_getElem? (i := 123) rfl))) (mvT hZ (hw _ (List.mem_of_getElem? (i := 124) rfl))) (mvT hZ (hw _ (List.mem_of_getElem? (i := 125) rfl))) (mvT hZ (hw _ (List.mem_of_getElem? (i := 126) rfl))) (mvT hZ (hw _ (List.mem_of_getElem? (i := 127) rfl))) (mvT hZ (hw _ (List.mem_of_getElem? (i := 111) rfl))) (by decide) (backOf (W := 1) (rmGt l Z a0 hw [] li (1 : Int32) t kt [(.ref ez), (.ref en), .null, .null, .null, .null, .null, .null, .null, .null] en (2 : Int32) h0 n0 Z0 E_li F_size_li F_elementData_li V_t (by decide) rfl (by decide) (by decide)) hZ (hw _ (List.mem_of_getElem? (i := 128) rfl)) (hw _ (List.mem_of_getElem? (i := 2) rfl)) (by decide) (by decide)) q3a q3b q3c (g := (mkF m 26 #[.val (.ref a), .val (.ref li)] [(.int (1 : Int32)), (.ref li), (.ref a)])) rfl (by rw [hml]; rfl) (Steps.refl _) (argsL := [(.int (1 : Int32))]) (rest := [(.ref a)]) (lenOf pd_6 rfl) rfl (by show 2 * 0 + _ ≤ _; exact Nat.le_of_eq rfl) (hb hby d14_26) (fun _ _ => ⟨rfl, e2, (by decide : 0 + 0 ≤ _), (by decide : 0 + 0 ≤ _)⟩)
  dsimp only [Pt.U, Pt.locs, Pt.cells, Pt.slots] at X3 l3 y3 z3 st3 hQ3
  subst l3 y3 z3
  obtain ⟨h3, e3⟩ : ∃ hh, T3.heap = hh := ⟨_, rfl⟩
  rw [e3] at hQ3
  obtain ⟨rfl, N3q, sm3⟩ := hQ3
  have N3 := Fr.app N2 N3q
  refine Go.st (fun _ kk => st3.trans kk) ?_
  rw [sm3] at e3
  show Go p e below s _ _ _ T3 (mkF m 31 #[.val (.ref a), .val (.ref li)] [(.ref en), (.ref a)])
  obtain ⟨T4, X4, e4, st4⟩ := castY X3 hx hZ hown (hw _ (List.mem_of_getElem? (i := 142) rfl)) e3 (Ins.self E_en) (g := (mkF m 31 #[.val (.ref a), .val (.ref li)] [(.ref en), (.ref a)])) rfl rfl (hb hby d14_31)
  refine Go.st st4 ?_
  show Go p e below s _ _ _ T4 (mkF m 34 #[.val (.ref a), .val (.ref li)] [(.ref en), (.ref a)])
  obtain ⟨cq5, kq5, q5a, q5b, q5c⟩ := isOf hZ e4 E_en
  obtain ⟨_, _, ⟨T5, L5, kc5, nc5⟩, -, X5, ⟨Lc5, hQ5, l5, y5, z5⟩, st5⟩ := X4.virtualBack hx (y := (⟨"com/example/plaingrant/plaingrant/store/AuditEntry", "sequence", "()J"⟩ : MethodName)) (z := (⟨"com/example/plaingrant/plaingrant/store/AuditEntry", "sequence", "()J"⟩ : MethodName)) hown (mvT hZ (hw _ (List.mem_of_getElem? (i := 144) rfl))) (mvT hZ (hw _ (List.mem_of_getElem? (i := 145) rfl))) (notFace_of_selects (args := #[]) (mvT hZ (hw _ (List.mem_of_getElem? (i := 147) rfl)))) (mvT hZ (hw _ (List.mem_of_getElem? (i := 147) rfl))) (mvT hZ (hw _ (List.mem_of_getElem? (i := 146) rfl))) (by decide) (backOf (W := 1) (rmSq l Z a0 hw [] en r h0 n0 Z0 F_sequence_en) hZ (hw _ (List.mem_of_getElem? (i := 148) rfl)) (hw _ (List.mem_of_getElem? (i := 28) rfl)) (by decide) (by decide)) q5a q5c (g := (mkF m 34 #[.val (.ref a), .val (.ref li)] [(.ref en), (.ref a)])) rfl (by rw [hml]; rfl) (Steps.refl _) (argsL := []) (rest := [(.ref a)]) (lenOf pd_9 rfl) rfl (by show 2 * 0 + _ ≤ _; exact Nat.le_of_eq rfl) (hb hby d14_34) (fun _ _ => ⟨rfl, e4, (by decide : 0 + 0 ≤ _), (by decide : 0 + 0 ≤ _)⟩)
  dsimp only [Pt.U, Pt.locs, Pt.cells, Pt.slots] at X5 l5 y5 z5 st5 hQ5
  subst l5 y5 z5
  obtain ⟨h5, e5⟩ : ∃ hh, T5.heap = hh := ⟨_, rfl⟩
  rw [e5] at hQ5
  obtain ⟨rfl, N5q, sm5⟩ := hQ5
  have N5 := Fr.app N3 N5q
  refine Go.st (fun _ kk => st5.trans kk) ?_
  rw [sm5] at e5
  show Go p e below s _ _ _ T5 (mkF m 37 #[.val (.ref a), .val (.ref li)] [(.long r), (.ref a)])
  obtain ⟨T6, h6, X6, e6, W6, st6⟩ := putF X5 hx hZ hown (host := "") (Or.inl (hw _ (List.mem_of_getElem? (i := 97) rfl))) Via.refl e5 F_mGiven_a E_a (Or.inl (hw _ (List.mem_of_getElem? (i := 98) rfl))) (hw _ (List.mem_of_getElem? (i := 84) rfl)) (ty := .long) (by decide) rfl rfl (g := (mkF m 37 #[.val (.ref a), .val (.ref li)] [(.long r), (.ref a)])) rfl rfl (hb hby d14_37)
  refine Go.st st6 ?_
  have N6 := Fr.snoc X6 N5 g_a
  have K6 : Keep h0 h6 [a] := (Keep.refl h0 [a]).wr W6 (Or.inl (List.mem_of_getElem? (i := 0) rfl))
  have z6 : n0 ≤ h6.size := Nat.le_trans Z0 (Nat.le_of_eq W6.size.symm)
  have Fw6 := F_mGiven_a.same W6
  show Go p e below s _ _ _ T6 (mkF m 40 #[.val (.ref a), .val (.ref li)] [])
  have f7 := (E_a.wr W6)
  have f8 := (F_mLast_a.other W6 (Or.inr (slot_ne (Or.inr (hw _ (List.mem_of_getElem? (i := 91) rfl))) (Or.inl (hw _ (List.mem_of_getElem? (i := 98) rfl))) (by decide) (t := .long) (t' := .long) (by decide) (by decide))))
  exact Go.ret0 X6 hx hlk Bd.returns (hb hby d14_40) (by rw [e6]; exact ⟨rfl, N6, K6, f7, f8, Fw6⟩) (by decide) (by decide)
theorem pd_10 : parseMethodDescriptor "(J)V" = some ⟨[.long], none⟩ := by decide +kernel
theorem pd_11 : parseMethodDescriptor "(Ljava/util/List;)V" = some ⟨[(.object "java/util/List")], none⟩ := by decide +kernel
theorem pd_12 : parseMethodDescriptor "(JLjava/lang/String;Ljava/lang/String;Ljava/lang/String;Ljava/lang/String;Lcom/example/plaingrant/plaingrant/store/AuditEntry$Outcome;Ljava/lang/String;)V" = some ⟨[.long, (.object "java/lang/String"), (.object "java/lang/String"), (.object "java/lang/String"), (.object "java/lang/String"), (.object "com/example/plaingrant/plaingrant/store/AuditEntry$Outcome"), (.object "java/lang/String")], none⟩ := by decide +kernel
theorem pd_13 : parseMethodDescriptor "(Ljava/lang/Object;)Z" = some ⟨[(.object "java/lang/Object")], some .boolean⟩ := by decide +kernel
theorem pn_8 : plainName "com/example/plaingrant/plaingrant/store/AuditPagesIsDonePinLaw" = true := by first | (simp [plainName, overriddenIn]; done) | decide +kernel
theorem ef_rm0 (m : MethodId) (ql : Int64) (qs : Int64) (qo : Int64) (md : Int32) : entryFrame m #[(.long ql), (.long qs), (.long qo), (.int md)] maxLocals = mkF m 0 #[.val (.long ql), .second, .val (.long qs), .second, .val (.long qo), .second, .val (.int md), .unset, .unset, .unset, .unset, .unset, .unset, .unset] [] := by first | (simp [entryFrame, mkF, argsToLocals, Value.category, maxLocals]; done) | rfl
def Qrm0 (Z : State) (ql : Int64) (qs : Int64) (qo : Int64) (md : Int32) (u : Addr) (ku : ClassId) (h0 : Heap) (n0 : Nat) (rV : Option Value) (hE : Heap) (LE : List Loc) : Prop := rV = some (.int (1 : Int32)) ∧ Fr n0 LE
set_option maxRecDepth 65536 in
set_option maxHeartbeats 40000000 in
theorem rm0 (l : Launch) (Z : State) (a0 : Array Value) (hw : ∀ d ∈ tables_1, d.before a0 Z = true) (ws : List Jvm.Cond) (ql : Int64) (qs : Int64) (qo : Int64) (md : Int32) (u : Addr) (ku : ClassId) (h0 : Heap) (n0 : Nat) (Z0 : n0 ≤ h0.size) (S_DEFAULTCAPACITY_EMPTY_ELEMENTDATA : Sta Z h0 "java/util/ArrayList" "DEFAULTCAPACITY_EMPTY_ELEMENTDATA" "[Ljava/lang/Object;" (.ref u)) (V_u : Arv Z h0 u ku (.object "java/lang/Object") (0 : Int32) [] .null) :
    MetFree l x (head1 (Jvm.Cond.code x code maxLocals ret :: ws) room_1) (fun aA UA => aA = #[(.long ql), (.long qs), (.long qo), (.int md)] ∧ Z.Warmed39 UA.vm ∧ UA.heap = h0) (fun _ _ _ _ _ => True) (fun _ UA oA UB => ∃ rV LE, oA = .returned rV ∧ Qrm0 Z ql qs qo md u ku h0 n0 rV UB.heap LE ∧ FrameEnd UA oA UB LE room_1.cells room_1.slots) := by
  refine MetFree.of_bodySF (plainFor_of_name pn_8) hisR ?_
  intro p e s m args below meth c s₁ Bd hml0 hP hK
  obtain ⟨rfl, hZ, hh⟩ := hP
  have hx := Bd.exec
  have hby := Bd.bytes
  have hml : c.maxLocals = 14 := hml0
  have hown : s.vm.findClass "com/example/plaingrant/plaingrant/store/AuditPagesIsDonePinLaw" = some m.cls := findClass_of_methodNamed Bd.named
  have hnm := (name_of_methodNamed Bd.named Bd.method).1
  have hlk := Bd.notSynchronized
  have X0 : Stand p l e room_1 s m #[(.long ql), (.long qs), (.long qo), (.int md)] below meth c s₁ [] 0 0 := Stand.of_body Bd
  have e0 : s₁.heap = h0 := by rw [← hh, Bd.state]; rfl
  have N0 := Fr.nil n0
  show Go p e below s (Qrm0 Z ql qs qo md u ku h0 n0) room_1.cells room_1.slots s₁ (entryFrame m #[(.long ql), (.long qs), (.long qo), (.int md)] maxLocals)
  refine Go.eq (ef_rm0 m ql qs qo md) ?_
  show Go p e below s _ _ _ s₁ (mkF m 0 #[.val (.long ql), .second, .val (.long qs), .second, .val (.long qo), .second, .val (.int md), .unset, .unset, .unset, .unset, .unset, .unset, .unset] [])
  refine Go.st (fun _ => XS.iload X0.here hx rfl (hb hby at_0) rfl) ?_
  show Go p e below s _ _ _ s₁ (mkF m 2 #[.val (.long ql), .second, .val (.long qs), .second, .val (.long qo), .second, .val (.int md), .unset, .unset, .unset, .unset, .unset, .unset, .unset] [(.int md)])
  refine Go.st (fun _ => XS.iconst X0.here hx rfl (hb hby at_2)) ?_
  show Go p e below s _ _ _ s₁ (mkF m 3 #[.val (.long ql), .second, .val (.long qs), .second, .val (.long qo), .second, .val (.int md), .unset, .unset, .unset, .unset, .unset, .unset, .unset] [(.int (3 : Int32)), (.int md)])
  refine Go.st (fun _ => XS.iand X0.here hx rfl (hb hby at_3) rfl) ?_
  show Go p e below s _ _ _ s₁ (mkF m 4 #[.val (.long ql), .second, .val (.long qs), .second, .val (.long qo), .second, .val (.int md), .unset, .unset, .unset, .unset, .unset, .unset, .unset] [(.int (md &&& (3 : Int32)))])
  rcases own_and3 md with hd1 | hd1 | hd1 | hd1
  · rw [show (md &&& (3 : Int32)) = (0 : Int32) from hd1]
    show Go p e below s _ _ _ s₁ (mkF m 4 #[.val (.long ql), .second, .val (.long qs), .second, .val (.long qo), .second, .val (.int md), .unset, .unset, .unset, .unset, .unset, .unset, .unset] [(.int (0 : Int32))])
    refine Go.st (fun _ => XS.istore X0.here hx rfl (hb hby at_4) rfl (l' := #[.val (.long ql), .second, .val (.long qs), .second, .val (.long qo), .second, .val (.int md), .val (.int (0 : Int32)), .unset, .unset, .unset, .unset, .unset, .unset]) rfl) ?_
    show Go p e below s _ _ _ s₁ (mkF m 6 #[.val (.long ql), .second, .val (.long qs), .second, .val (.long qo), .second, .val (.int md), .val (.int (0 : Int32)), .unset, .unset, .unset, .unset, .unset, .unset] [])
    obtain ⟨T2, h2, X2, e2, E2, A2, D2, -, st2⟩ := newO X0 hx hZ hown (hw _ (List.mem_of_getElem? (i := 0) rfl)) (hw _ (List.mem_of_getElem? (i := 1) rfl)) (hw _ (List.mem_of_getElem? (i := 2) rfl)) e0 (g := (mkF m 6 #[.val (.long ql), .second, .val (.long qs), .second, .val (.long qo), .second, .val (.int md), .val (.int (0 : Int32)), .unset, .unset, .unset, .unset, .unset, .unset] [])) rfl (hb hby at_6) (by decide) (by decide)
    obtain ⟨b2, g2⟩ : ∃ z, z = h0.size := ⟨_, rfl⟩
    rw [← g2] at A2 D2 st2
    refine Go.st st2 ?_
    have ne_u_b2 : u ≠ b2 := Nat.ne_of_lt (Nat.lt_of_lt_of_eq V_u.lt g2.symm)
    have gg2 : n0 ≤ b2 := Nat.le_trans Z0 (Nat.le_of_eq g2.symm)
    have z2 : n0 ≤ h2.size := Nat.le_trans Z0 E2.1
    have F_modCount_b2 : Fld Z h2 b2 "java/util/AbstractList" "modCount" "I" (.int (0 : Int32)) := D2 (Or.inl (hw _ (List.mem_of_getElem? (i := 22) rfl))) (ty := .int) (by decide)
    have F_elementData_b2 : Fld Z h2 b2 "java/util/ArrayList" "elementData" "[Ljava/lang/Object;" .null := D2 (Or.inl (hw _ (List.mem_of_getElem? (i := 25) rfl))) (ty := (.array (.object "java/lang/Object"))) (by decide)
    have F_size_b2 : Fld Z h2 b2 "java/util/ArrayList" "size" "I" (.int (0 : Int32)) := D2 (Or.inl (hw _ (List.mem_of_getElem? (i := 60) rfl))) (ty := .int) (by decide)
    show Go p e below s _ _ _ T2 (mkF m 9 #[.val (.long ql), .second, .val (.long qs), .second, .val (.long qo), .second, .val (.int md), .val (.int (0 : Int32)), .unset, .unset, .unset, .unset, .unset, .unset] [(.ref b2)])
    refine Go.st (fun _ => XS.dup X2.here hx rfl (hb hby at_9) rfl rfl) ?_
    show Go p e below s _ _ _ T2 (mkF m 10 #[.val (.long ql), .second, .val (.long qs), .second, .val (.long qo), .second, .val (.int md), .val (.int (0 : Int32)), .unset, .unset, .unset, .unset, .unset, .unset] [(.ref b2), (.ref b2)])
    have f4 := (S_DEFAULTCAPACITY_EMPTY_ELEMENTDATA.ext E2)
    obtain ⟨_, _, ⟨T3, L3, kc3, nc3⟩, -, X3, ⟨Lc3, hQ3, l3, y3, z3⟩, st3⟩ := X2.specialBack hx (y := (⟨"java/util/ArrayList", "<init>", "()V"⟩ : MethodName)) rfl hown (mvT hZ (hw _ (List.mem_of_getElem? (i := 3) rfl))) (mvT hZ (hw _ (List.mem_of_getElem? (i := 4) rfl))) (mvT hZ (hw _ (List.mem_of_getElem? (i := 5) rfl))) (by decide) (backOf (W := 1) (rmAl l Z a0 hw [] b2 u h2 n0 z2 A2 F_modCount_b2 F_elementData_b2 F_size_b2 f4 gg2) hZ (hw _ (List.mem_of_getElem? (i := 5) rfl)) (hw _ (List.mem_of_getElem? (i := 2) rfl)) (by decide) (by decide)) (g := (mkF m 10 #[.val (.long ql), .second, .val (.long qs), .second, .val (.long qo), .second, .val (.int md), .val (.int (0 : Int32)), .unset, .unset, .unset, .unset, .unset, .unset] [(.ref b2), (.ref b2)])) rfl (by rw [hml]; rfl) (Steps.refl _) (a := b2) (argsL := []) (rest := [(.ref b2)]) (lenOf pd_0 rfl) rfl (by show 2 * 0 + _ ≤ _; exact Nat.le_of_eq rfl) (hb hby at_10) (fun _ _ => ⟨rfl, e2, (by decide : 1 + 0 ≤ _), (by decide : 3 + 0 ≤ _)⟩)
    dsimp only [Pt.U, Pt.locs, Pt.cells, Pt.slots] at X3 l3 y3 z3 st3 hQ3
    subst l3 y3 z3
    obtain ⟨h3, e3⟩ : ∃ hh, T3.heap = hh := ⟨_, rfl⟩
    rw [e3] at hQ3
    obtain ⟨rfl, N3q, K3, p3_0, p3_1, p3_2, p3_3⟩ := hQ3
    have N3 := Fr.app N0 N3q
    refine Go.st (fun _ kk => st3.trans kk) ?_
    have z3q : n0 ≤ h3.size := Nat.le_trans z2 K3.1
    have ns3 : ∀ x ∈ ([b2] : List Addr), ∀ cell : Cell, h2[x]? = some cell → cell.vm.isStatics = false := (allS A2.nostat all0)
    show Go p e below s _ _ _ T3 (mkF m 13 #[.val (.long ql), .second, .val (.long qs), .second, .val (.long qo), .second, .val (.int md), .val (.int (0 : Int32)), .unset, .unset, .unset, .unset, .unset, .unset] [(.ref b2)])
    refine Go.st (fun _ => XS.astore X3.here hx rfl (hb hby at_13) rfl rfl (l' := #[.val (.long ql), .second, .val (.long qs), .second, .val (.long qo), .second, .val (.int md), .val (.int (0 : Int32)), .val (.ref b2), .unset, .unset, .unset, .unset, .unset]) rfl) ?_
    show Go p e below s _ _ _ T3 (mkF m 15 #[.val (.long ql), .second, .val (.long qs), .second, .val (.long qo), .second, .val (.int md), .val (.int (0 : Int32)), .val (.ref b2), .unset, .unset, .unset, .unset, .unset] [])
    refine Go.st (fun _ => XS.iload X3.here hx rfl (hb hby at_15) rfl) ?_
    show Go p e below s _ _ _ T3 (mkF m 17 #[.val (.long ql), .second, .val (.long qs), .second, .val (.long qo), .second, .val (.int md), .val (.int (0 : Int32)), .val (.ref b2), .unset, .unset, .unset, .unset, .unset] [(.int (0 : Int32))])
    refine Go.st (fun _ => XS.iconst X3.here hx rfl (hb hby at_17)) ?_
    show Go p e below s _ _ _ T3 (mkF m 18 #[.val (.long ql), .second, .val (.long qs), .second, .val (.long qo), .second, .val (.int md), .val (.int (0 : Int32)), .val (.ref b2), .unset, .unset, .unset, .unset, .unset] [(.int (3 : Int32)), (.int (0 : Int32))])
    refine Go.st (fun _ => XS.icmpYes X3.here hx rfl (pc0 := 18) (pc' := 42) rfl (hb hby at_18) rfl (feq (by decide : ¬ ((0 : Int32) = (3 : Int32)))).2 (by decide) (by decide)) ?_
    show Go p e below s _ _ _ T3 (mkF m 42 #[.val (.long ql), .second, .val (.long qs), .second, .val (.long qo), .second, .val (.int md), .val (.int (0 : Int32)), .val (.ref b2), .unset, .unset, .unset, .unset, .unset] [])
    refine Go.st (fun _ => XS.iload X3.here hx rfl (hb hby at_42) rfl) ?_
    show Go p e below s _ _ _ T3 (mkF m 44 #[.val (.long ql), .second, .val (.long qs), .second, .val (.long qo), .second, .val (.int md), .val (.int (0 : Int32)), .val (.ref b2), .unset, .unset, .unset, .unset, .unset] [(.int (0 : Int32))])
    refine Go.st (fun _ => XS.iconst X3.here hx rfl (hb hby at_44)) ?_
    show Go p e below s _ _ _ T3 (mkF m 45 #[.val (.long ql), .second, .val (.long qs), .second, .val (.long qo), .second, .val (.int md), .val (.int (0 : Int32)), .val (.ref b2), .unset, .unset, .unset, .unset, .unset] [(.int (2 : Int32)), (.int (0 : Int32))])
    refine Go.st (fun _ => XS.icmpYes X3.here hx rfl (pc0 := 45) (pc' := 68) rfl (hb hby at_45) rfl (tlt (by decide : (0 : Int32) < (2 : Int32))).1 (by decide) (by decide)) ?_
    show Go p e below s _ _ _ T3 (mkF m 68 #[.val (.long ql), .second, .val (.long qs), .second, .val (.long qo), .second, .val (.int md), .val (.int (0 : Int32)), .val (.ref b2), .unset, .unset, .unset, .unset, .unset] [])
    obtain ⟨T5, h5, X5, e5, E5, A5, D5, -, st5⟩ := newO X3 hx hZ hown (hw _ (List.mem_of_getElem? (i := 83) rfl)) (hw _ (List.mem_of_getElem? (i := 84) rfl)) (hw _ (List.mem_of_getElem? (i := 85) rfl)) e3 (g := (mkF m 68 #[.val (.long ql), .second, .val (.long qs), .second, .val (.long qo), .second, .val (.int md), .val (.int (0 : Int32)), .val (.ref b2), .unset, .unset, .unset, .unset, .unset] [])) rfl (hb hby at_68) (by decide) (by decide)
    obtain ⟨b5, g5⟩ : ∃ z, z = h3.size := ⟨_, rfl⟩
    rw [← g5] at A5 D5 st5
    refine Go.st st5 ?_
    have f6 := ((V_u.ext E2).keep K3 (ninS ne_u_b2 nin0))
    have ne_u_b5 : u ≠ b5 := Nat.ne_of_lt (Nat.lt_of_lt_of_eq f6.lt g5.symm)
    have ne_b2_b5 : b2 ≠ b5 := Nat.ne_of_lt (Nat.lt_of_lt_of_eq p3_0.lt g5.symm)
    have gg5 : n0 ≤ b5 := Nat.le_trans z3q (Nat.le_of_eq g5.symm)
    have z5 : n0 ≤ h5.size := Nat.le_trans z3q E5.1
    have F_mLast_b5 : Fld Z h5 b5 "com/example/plaingrant/plaingrant/store/AuditPages" "mLast" "J" (.long (0 : Int64)) := D5 (Or.inr (hw _ (List.mem_of_getElem? (i := 91) rfl))) (ty := .long) (by decide)
    have F_mGiven_b5 : Fld Z h5 b5 "com/example/plaingrant/plaingrant/store/AuditPages" "mGiven" "J" (.long (0 : Int64)) := D5 (Or.inl (hw _ (List.mem_of_getElem? (i := 98) rfl))) (ty := .long) (by decide)
    show Go p e below s _ _ _ T5 (mkF m 71 #[.val (.long ql), .second, .val (.long qs), .second, .val (.long qo), .second, .val (.int md), .val (.int (0 : Int32)), .val (.ref b2), .unset, .unset, .unset, .unset, .unset] [(.ref b5)])
    refine Go.st (fun _ => XS.dup X5.here hx rfl (hb hby at_71) rfl rfl) ?_
    show Go p e below s _ _ _ T5 (mkF m 72 #[.val (.long ql), .second, .val (.long qs), .second, .val (.long qo), .second, .val (.int md), .val (.int (0 : Int32)), .val (.ref b2), .unset, .unset, .unset, .unset, .unset] [(.ref b5), (.ref b5)])
    refine Go.st (fun _ => XS.lloadN X5.here hx rfl (hb hby at_72) rfl) ?_
    show Go p e below s _ _ _ T5 (mkF m 73 #[.val (.long ql), .second, .val (.long qs), .second, .val (.long qo), .second, .val (.int md), .val (.int (0 : Int32)), .val (.ref b2), .unset, .unset, .unset, .unset, .unset] [(.long ql), (.ref b5), (.ref b5)])
    obtain ⟨_, _, ⟨T7, L7, kc7, nc7⟩, -, X7, ⟨Lc7, hQ7, l7, y7, z7⟩, st7⟩ := X5.specialBack hx (y := (⟨"com/example/plaingrant/plaingrant/store/AuditPages", "<init>", "(J)V"⟩ : MethodName)) rfl hown (mvT hZ (hw _ (List.mem_of_getElem? (i := 86) rfl))) (mvT hZ (hw _ (List.mem_of_getElem? (i := 87) rfl))) (mvT hZ (hw _ (List.mem_of_getElem? (i := 88) rfl))) (by decide) (backOf (W := 1) (rmPi l Z a0 hw [] b5 ql h5 n0 z5 A5 F_mLast_b5 F_mGiven_b5 gg5) hZ (hw _ (List.mem_of_getElem? (i := 88) rfl)) (hw _ (List.mem_of_getElem? (i := 85) rfl)) (by decide) (by decide)) (g := (mkF m 73 #[.val (.long ql), .second, .val (.long qs), .second, .val (.long qo), .second, .val (.int md), .val (.int (0 : Int32)), .val (.ref b2), .unset, .unset, .unset, .unset, .unset] [(.long ql), (.ref b5), (.ref b5)])) rfl (by rw [hml]; rfl) (Steps.refl _) (a := b5) (argsL := [(.long ql)]) (rest := [(.ref b5)]) (lenOf pd_10 rfl) rfl (by show 2 * 0 + _ ≤ _; exact Nat.le_of_eq rfl) (hb hby at_73) (fun _ _ => ⟨rfl, e5, (by decide : 2 + 0 ≤ _), (by decide : 5 + 0 ≤ _)⟩)
    dsimp only [Pt.U, Pt.locs, Pt.cells, Pt.slots] at X7 l7 y7 z7 st7 hQ7
    subst l7 y7 z7
    obtain ⟨h7, e7⟩ : ∃ hh, T7.heap = hh := ⟨_, rfl⟩
    rw [e7] at hQ7
    obtain ⟨rfl, N7q, K7, p7_0, p7_1, p7_2⟩ := hQ7
    have N7 := Fr.app N3 N7q
    refine Go.st (fun _ kk => st7.trans kk) ?_
    have z7q : n0 ≤ h7.size := Nat.le_trans z5 K7.1
    have ns7 : ∀ x ∈ ([b5] : List Addr), ∀ cell : Cell, h5[x]? = some cell → cell.vm.isStatics = false := (allS A5.nostat all0)
    show Go p e below s _ _ _ T7 (mkF m 76 #[.val (.long ql), .second, .val (.long qs), .second, .val (.long qo), .second, .val (.int md), .val (.int (0 : Int32)), .val (.ref b2), .unset, .unset, .unset, .unset, .unset] [(.ref b5)])
    refine Go.st (fun _ => XS.astore X7.here hx rfl (hb hby at_76) rfl rfl (l' := #[.val (.long ql), .second, .val (.long qs), .second, .val (.long qo), .second, .val (.int md), .val (.int (0 : Int32)), .val (.ref b2), .val (.ref b5), .unset, .unset, .unset, .unset]) rfl) ?_
    show Go p e below s _ _ _ T7 (mkF m 78 #[.val (.long ql), .second, .val (.long qs), .second, .val (.long qo), .second, .val (.int md), .val (.int (0 : Int32)), .val (.ref b2), .val (.ref b5), .unset, .unset, .unset, .unset] [])
    refine Go.st (fun _ => XS.aload X7.here hx rfl (hb hby at_78) rfl rfl) ?_
    show Go p e below s _ _ _ T7 (mkF m 80 #[.val (.long ql), .second, .val (.long qs), .second, .val (.long qo), .second, .val (.int md), .val (.int (0 : Int32)), .val (.ref b2), .val (.ref b5), .unset, .unset, .unset, .unset] [(.ref b5)])
    obtain ⟨cq8, kq8, q8a, q8b, q8c⟩ := isOf hZ e7 p7_0
    obtain ⟨_, _, ⟨T8, L8, kc8, nc8⟩, -, X8, ⟨Lc8, hQ8, l8, y8, z8⟩, st8⟩ := X7.virtualBack hx (y := (⟨"com/example/plaingrant/plaingrant/store/AuditPages", "isDone", "()Z"⟩ : MethodName)) (z := (⟨"com/example/plaingrant/plaingrant/store/AuditPages", "isDone", "()Z"⟩ : MethodName)) hown (mvT hZ (hw _ (List.mem_of_getElem? (i := 92) rfl))) (mvT hZ (hw _ (List.mem_of_getElem? (i := 93) rfl))) (notFace_of_selects (args := #[]) (mvT hZ (hw _ (List.mem_of_getElem? (i := 95) rfl)))) (mvT hZ (hw _ (List.mem_of_getElem? (i := 95) rfl))) (mvT hZ (hw _ (List.mem_of_getElem? (i := 94) rfl))) (by decide) (backOf (W := 0) (rmDo l Z a0 hw [] b5 ql (0 : Int64) h7 n0 z7q p7_1 p7_2) hZ (hw _ (List.mem_of_getElem? (i := 96) rfl)) (hw _ (List.mem_of_getElem? (i := 85) rfl)) (by decide) (by decide)) q8a q8c (g := (mkF m 80 #[.val (.long ql), .second, .val (.long qs), .second, .val (.long qo), .second, .val (.int md), .val (.int (0 : Int32)), .val (.ref b2), .val (.ref b5), .unset, .unset, .unset, .unset] [(.ref b5)])) rfl (by rw [hml]; rfl) (Steps.refl _) (argsL := []) (rest := []) (lenOf pd_7 rfl) rfl (by show 2 * 0 + _ ≤ _; exact Nat.le_of_eq rfl) (hb hby at_80) (fun _ _ => ⟨rfl, e7, (by decide : 2 + 0 ≤ _), (by decide : 5 + 0 ≤ _)⟩)
    dsimp only [Pt.U, Pt.locs, Pt.cells, Pt.slots] at X8 l8 y8 z8 st8 hQ8
    subst l8 y8 z8
    obtain ⟨h8, e8⟩ : ∃ hh, T8.heap = hh := ⟨_, rfl⟩
    rw [e8] at hQ8
    obtain ⟨rfl, N8q, sm8⟩ := hQ8
    have N8 := Fr.app N7 N8q
    refine Go.st (fun _ kk => st8.trans kk) ?_
    rw [sm8] at e8
    show Go p e below s _ _ _ T8 (mkF m 83 #[.val (.long ql), .second, .val (.long qs), .second, .val (.long qo), .second, .val (.int md), .val (.int (0 : Int32)), .val (.ref b2), .val (.ref b5), .unset, .unset, .unset, .unset] [(.int (b2i (¬ ((0 : Int64) < ql))))])
    by_cases hc9 : (0 : Int64) < ql
    · rw [show (b2i (¬ ((0 : Int64) < ql))) = (0 : Int32) from b2i_neg (not_not_intro hc9)]
      show Go p e below s _ _ _ T8 (mkF m 83 #[.val (.long ql), .second, .val (.long qs), .second, .val (.long qo), .second, .val (.int md), .val (.int (0 : Int32)), .val (.ref b2), .val (.ref b5), .unset, .unset, .unset, .unset] [(.int (0 : Int32))])
      refine Go.st (fun _ => XS.istore X8.here hx rfl (hb hby at_83) rfl (l' := #[.val (.long ql), .second, .val (.long qs), .second, .val (.long qo), .second, .val (.int md), .val (.int (0 : Int32)), .val (.ref b2), .val (.ref b5), .val (.int (0 : Int32)), .unset, .unset, .unset]) rfl) ?_
      show Go p e below s _ _ _ T8 (mkF m 85 #[.val (.long ql), .second, .val (.long qs), .second, .val (.long qo), .second, .val (.int md), .val (.int (0 : Int32)), .val (.ref b2), .val (.ref b5), .val (.int (0 : Int32)), .unset, .unset, .unset] [])
      refine Go.st (fun _ => XS.iload X8.here hx rfl (hb hby at_85) rfl) ?_
      show Go p e below s _ _ _ T8 (mkF m 87 #[.val (.long ql), .second, .val (.long qs), .second, .val (.long qo), .second, .val (.int md), .val (.int (0 : Int32)), .val (.ref b2), .val (.ref b5), .val (.int (0 : Int32)), .unset, .unset, .unset] [(.int (0 : Int32))])
      refine Go.st (fun _ => XS.ifYes X8.here hx rfl (pc0 := 87) (pc' := 97) rfl (hb hby at_87) rfl ((if0 _ _).trans (teq (by decide : (0 : Int32) = (0 : Int32))).1) (by decide) (by decide)) ?_
      show Go p e below s _ _ _ T8 (mkF m 97 #[.val (.long ql), .second, .val (.long qs), .second, .val (.long qo), .second, .val (.int md), .val (.int (0 : Int32)), .val (.ref b2), .val (.ref b5), .val (.int (0 : Int32)), .unset, .unset, .unset] [])
      refine Go.st (fun _ => XS.aload X8.here hx rfl (hb hby at_97) rfl rfl) ?_
      show Go p e below s _ _ _ T8 (mkF m 99 #[.val (.long ql), .second, .val (.long qs), .second, .val (.long qo), .second, .val (.int md), .val (.int (0 : Int32)), .val (.ref b2), .val (.ref b5), .val (.int (0 : Int32)), .unset, .unset, .unset] [(.ref b5)])
      obtain ⟨cq10, kq10, q10a, q10b, q10c⟩ := isOf hZ e8 p7_0
      obtain ⟨_, _, ⟨T10, L10, kc10, nc10⟩, -, X10, ⟨Lc10, hQ10, l10, y10, z10⟩, st10⟩ := X8.virtualBack hx (y := (⟨"com/example/plaingrant/plaingrant/store/AuditPages", "isDone", "()Z"⟩ : MethodName)) (z := (⟨"com/example/plaingrant/plaingrant/store/AuditPages", "isDone", "()Z"⟩ : MethodName)) hown (mvT hZ (hw _ (List.mem_of_getElem? (i := 92) rfl))) (mvT hZ (hw _ (List.mem_of_getElem? (i := 93) rfl))) (notFace_of_selects (args := #[]) (mvT hZ (hw _ (List.mem_of_getElem? (i := 95) rfl)))) (mvT hZ (hw _ (List.mem_of_getElem? (i := 95) rfl))) (mvT hZ (hw _ (List.mem_of_getElem? (i := 94) rfl))) (by decide) (backOf (W := 0) (rmDo l Z a0 hw [] b5 ql (0 : Int64) h7 n0 z7q p7_1 p7_2) hZ (hw _ (List.mem_of_getElem? (i := 96) rfl)) (hw _ (List.mem_of_getElem? (i := 85) rfl)) (by decide) (by decide)) q10a q10c (g := (mkF m 99 #[.val (.long ql), .second, .val (.long qs), .second, .val (.long qo), .second, .val (.int md), .val (.int (0 : Int32)), .val (.ref b2), .val (.ref b5), .val (.int (0 : Int32)), .unset, .unset, .unset] [(.ref b5)])) rfl (by rw [hml]; rfl) (Steps.refl _) (argsL := []) (rest := []) (lenOf pd_7 rfl) rfl (by show 2 * 0 + _ ≤ _; exact Nat.le_of_eq rfl) (hb hby at_99) (fun _ _ => ⟨rfl, e8, (by decide : 2 + 0 ≤ _), (by decide : 5 + 0 ≤ _)⟩)
      dsimp only [Pt.U, Pt.locs, Pt.cells, Pt.slots] at X10 l10 y10 z10 st10 hQ10
      subst l10 y10 z10
      obtain ⟨h10, e10⟩ : ∃ hh, T10.heap = hh := ⟨_, rfl⟩
      rw [e10] at hQ10
      obtain ⟨rfl, N10q, sm10⟩ := hQ10
      have N10 := Fr.app N8 N10q
      refine Go.st (fun _ kk => st10.trans kk) ?_
      rw [sm10] at e10
      show Go p e below s _ _ _ T10 (mkF m 102 #[.val (.long ql), .second, .val (.long qs), .second, .val (.long qo), .second, .val (.int md), .val (.int (0 : Int32)), .val (.ref b2), .val (.ref b5), .val (.int (0 : Int32)), .unset, .unset, .unset] [(.int (b2i (¬ ((0 : Int64) < ql))))])
      rw [show (b2i (¬ ((0 : Int64) < ql))) = (0 : Int32) from b2i_neg (not_not_intro hc9)]
      show Go p e below s _ _ _ T10 (mkF m 102 #[.val (.long ql), .second, .val (.long qs), .second, .val (.long qo), .second, .val (.int md), .val (.int (0 : Int32)), .val (.ref b2), .val (.ref b5), .val (.int (0 : Int32)), .unset, .unset, .unset] [(.int (0 : Int32))])
      refine Go.st (fun _ => XS.istore X10.here hx rfl (hb hby at_102) rfl (l' := #[.val (.long ql), .second, .val (.long qs), .second, .val (.long qo), .second, .val (.int md), .val (.int (0 : Int32)), .val (.ref b2), .val (.ref b5), .val (.int (0 : Int32)), .val (.int (0 : Int32)), .unset, .unset]) rfl) ?_
      show Go p e below s _ _ _ T10 (mkF m 104 #[.val (.long ql), .second, .val (.long qs), .second, .val (.long qo), .second, .val (.int md), .val (.int (0 : Int32)), .val (.ref b2), .val (.ref b5), .val (.int (0 : Int32)), .val (.int (0 : Int32)), .unset, .unset] [])
      refine Go.st (fun _ => XS.lloadN X10.here hx rfl (hb hby at_104) rfl) ?_
      show Go p e below s _ _ _ T10 (mkF m 105 #[.val (.long ql), .second, .val (.long qs), .second, .val (.long qo), .second, .val (.int md), .val (.int (0 : Int32)), .val (.ref b2), .val (.ref b5), .val (.int (0 : Int32)), .val (.int (0 : Int32)), .unset, .unset] [(.long ql)])
      refine Go.st (fun _ => XS.lconst X10.here hx rfl (hb hby at_105)) ?_
      show Go p e below s _ _ _ T10 (mkF m 106 #[.val (.long ql), .second, .val (.long qs), .second, .val (.long qo), .second, .val (.int md), .val (.int (0 : Int32)), .val (.ref b2), .val (.ref b5), .val (.int (0 : Int32)), .val (.int (0 : Int32)), .unset, .unset] [(.long (0 : Int64)), (.long ql)])
      refine Go.st (fun _ => XS.lcmp X10.here hx rfl (hb hby at_106) rfl) ?_
      show Go p e below s _ _ _ T10 (mkF m 107 #[.val (.long ql), .second, .val (.long qs), .second, .val (.long qo), .second, .val (.int md), .val (.int (0 : Int32)), .val (.ref b2), .val (.ref b5), .val (.int (0 : Int32)), .val (.int (0 : Int32)), .unset, .unset] [(.int (lcmpW ql (0 : Int64)))])
      refine Go.st (fun _ => XS.ifYes X10.here hx rfl (pc0 := 107) (pc' := 114) rfl (hb hby at_107) rfl ((if0 _ _).trans (tlt ((lw_gt ql (0 : Int64)).mpr hc9)).2.2.1) (by decide) (by decide)) ?_
      show Go p e below s _ _ _ T10 (mkF m 114 #[.val (.long ql), .second, .val (.long qs), .second, .val (.long qo), .second, .val (.int md), .val (.int (0 : Int32)), .val (.ref b2), .val (.ref b5), .val (.int (0 : Int32)), .val (.int (0 : Int32)), .unset, .unset] [])
      refine Go.st (fun _ => XS.iconst X10.here hx rfl (hb hby at_114)) ?_
      show Go p e below s _ _ _ T10 (mkF m 115 #[.val (.long ql), .second, .val (.long qs), .second, .val (.long qo), .second, .val (.int md), .val (.int (0 : Int32)), .val (.ref b2), .val (.ref b5), .val (.int (0 : Int32)), .val (.int (0 : Int32)), .unset, .unset] [(.int (0 : Int32))])
      refine Go.st (fun _ => XS.istore X10.here hx rfl (hb hby at_115) rfl (l' := #[.val (.long ql), .second, .val (.long qs), .second, .val (.long qo), .second, .val (.int md), .val (.int (0 : Int32)), .val (.ref b2), .val (.ref b5), .val (.int (0 : Int32)), .val (.int (0 : Int32)), .val (.int (0 : Int32)), .unset]) rfl) ?_
      show Go p e below s _ _ _ T10 (mkF m 117 #[.val (.long ql), .second, .val (.long qs), .second, .val (.long qo), .second, .val (.int md), .val (.int (0 : Int32)), .val (.ref b2), .val (.ref b5), .val (.int (0 : Int32)), .val (.int (0 : Int32)), .val (.int (0 : Int32)), .unset] [])
      refine Go.st (fun _ => XS.iload X10.here hx rfl (hb hby at_117) rfl) ?_
      show Go p e below s _ _ _ T10 (mkF m 119 #[.val (.long ql), .second, .val (.long qs), .second, .val (.long qo), .second, .val (.int md), .val (.int (0 : Int32)), .val (.ref b2), .val (.ref b5), .val (.int (0 : Int32)), .val (.int (0 : Int32)), .val (.int (0 : Int32)), .unset] [(.int (0 : Int32))])
      refine Go.st (fun _ => XS.ifNo X10.here hx rfl (hb hby at_119) rfl ((if0 _ _).trans (teq (by decide : (0 : Int32) = (0 : Int32))).2)) ?_
      show Go p e below s _ _ _ T10 (mkF m 122 #[.val (.long ql), .second, .val (.long qs), .second, .val (.long qo), .second, .val (.int md), .val (.int (0 : Int32)), .val (.ref b2), .val (.ref b5), .val (.int (0 : Int32)), .val (.int (0 : Int32)), .val (.int (0 : Int32)), .unset] [])
      refine Go.st (fun _ => XS.iload X10.here hx rfl (hb hby at_122) rfl) ?_
      show Go p e below s _ _ _ T10 (mkF m 124 #[.val (.long ql), .second, .val (.long qs), .second, .val (.long qo), .second, .val (.int md), .val (.int (0 : Int32)), .val (.ref b2), .val (.ref b5), .val (.int (0 : Int32)), .val (.int (0 : Int32)), .val (.int (0 : Int32)), .unset] [(.int (0 : Int32))])
      refine Go.st (fun _ => XS.istore X10.here hx rfl (hb hby at_124) rfl (l' := #[.val (.long ql), .second, .val (.long qs), .second, .val (.long qo), .second, .val (.int md), .val (.int (0 : Int32)), .val (.ref b2), .val (.ref b5), .val (.int (0 : Int32)), .val (.int (0 : Int32)), .val (.int (0 : Int32)), .val (.int (0 : Int32))]) rfl) ?_
      show Go p e below s _ _ _ T10 (mkF m 126 #[.val (.long ql), .second, .val (.long qs), .second, .val (.long qo), .second, .val (.int md), .val (.int (0 : Int32)), .val (.ref b2), .val (.ref b5), .val (.int (0 : Int32)), .val (.int (0 : Int32)), .val (.int (0 : Int32)), .val (.int (0 : Int32))] [])
      refine Go.st (fun _ => XS.goto X10.here hx rfl (pc0 := 126) (pc' := 154) rfl (hb hby at_126) (by decide) (by decide)) ?_
      show Go p e below s _ _ _ T10 (mkF m 154 #[.val (.long ql), .second, .val (.long qs), .second, .val (.long qo), .second, .val (.int md), .val (.int (0 : Int32)), .val (.ref b2), .val (.ref b5), .val (.int (0 : Int32)), .val (.int (0 : Int32)), .val (.int (0 : Int32)), .val (.int (0 : Int32))] [])
      refine Go.st (fun _ => XS.iload X10.here hx rfl (hb hby at_154) rfl) ?_
      show Go p e below s _ _ _ T10 (mkF m 156 #[.val (.long ql), .second, .val (.long qs), .second, .val (.long qo), .second, .val (.int md), .val (.int (0 : Int32)), .val (.ref b2), .val (.ref b5), .val (.int (0 : Int32)), .val (.int (0 : Int32)), .val (.int (0 : Int32)), .val (.int (0 : Int32))] [(.int (0 : Int32))])
      refine Go.st (fun _ => XS.iload X10.here hx rfl (hb hby at_156) rfl) ?_
      show Go p e below s _ _ _ T10 (mkF m 158 #[.val (.long ql), .second, .val (.long qs), .second, .val (.long qo), .second, .val (.int md), .val (.int (0 : Int32)), .val (.ref b2), .val (.ref b5), .val (.int (0 : Int32)), .val (.int (0 : Int32)), .val (.int (0 : Int32)), .val (.int (0 : Int32))] [(.int (0 : Int32)), (.int (0 : Int32))])
      refine Go.st (fun _ => XS.icmpNo X10.here hx rfl (hb hby at_158) rfl (teq (by decide : (0 : Int32) = (0 : Int32))).2) ?_
      show Go p e below s _ _ _ T10 (mkF m 161 #[.val (.long ql), .second, .val (.long qs), .second, .val (.long qo), .second, .val (.int md), .val (.int (0 : Int32)), .val (.ref b2), .val (.ref b5), .val (.int (0 : Int32)), .val (.int (0 : Int32)), .val (.int (0 : Int32)), .val (.int (0 : Int32))] [])
      refine Go.st (fun _ => XS.iload X10.here hx rfl (hb hby at_161) rfl) ?_
      show Go p e below s _ _ _ T10 (mkF m 163 #[.val (.long ql), .second, .val (.long qs), .second, .val (.long qo), .second, .val (.int md), .val (.int (0 : Int32)), .val (.ref b2), .val (.ref b5), .val (.int (0 : Int32)), .val (.int (0 : Int32)), .val (.int (0 : Int32)), .val (.int (0 : Int32))] [(.int (0 : Int32))])
      refine Go.st (fun _ => XS.iload X10.here hx rfl (hb hby at_163) rfl) ?_
      show Go p e below s _ _ _ T10 (mkF m 165 #[.val (.long ql), .second, .val (.long qs), .second, .val (.long qo), .second, .val (.int md), .val (.int (0 : Int32)), .val (.ref b2), .val (.ref b5), .val (.int (0 : Int32)), .val (.int (0 : Int32)), .val (.int (0 : Int32)), .val (.int (0 : Int32))] [(.int (0 : Int32)), (.int (0 : Int32))])
      refine Go.st (fun _ => XS.icmpNo X10.here hx rfl (hb hby at_165) rfl (teq (by decide : (0 : Int32) = (0 : Int32))).2) ?_
      show Go p e below s _ _ _ T10 (mkF m 168 #[.val (.long ql), .second, .val (.long qs), .second, .val (.long qo), .second, .val (.int md), .val (.int (0 : Int32)), .val (.ref b2), .val (.ref b5), .val (.int (0 : Int32)), .val (.int (0 : Int32)), .val (.int (0 : Int32)), .val (.int (0 : Int32))] [])
      refine Go.st (fun _ => XS.iconst X10.here hx rfl (hb hby at_168)) ?_
      show Go p e below s _ _ _ T10 (mkF m 169 #[.val (.long ql), .second, .val (.long qs), .second, .val (.long qo), .second, .val (.int md), .val (.int (0 : Int32)), .val (.ref b2), .val (.ref b5), .val (.int (0 : Int32)), .val (.int (0 : Int32)), .val (.int (0 : Int32)), .val (.int (0 : Int32))] [(.int (1 : Int32))])
      refine Go.st (fun _ => XS.goto X10.here hx rfl (pc0 := 169) (pc' := 173) rfl (hb hby at_169) (by decide) (by decide)) ?_
      show Go p e below s _ _ _ T10 (mkF m 173 #[.val (.long ql), .second, .val (.long qs), .second, .val (.long qo), .second, .val (.int md), .val (.int (0 : Int32)), .val (.ref b2), .val (.ref b5), .val (.int (0 : Int32)), .val (.int (0 : Int32)), .val (.int (0 : Int32)), .val (.int (0 : Int32))] [(.int (1 : Int32))])
      exact Go.retZ X10 hx hlk Bd.returns (hb hby at_173) rfl (by rw [e10]; exact ⟨rfl, N10⟩) (by decide) (by decide)
    · rw [show (b2i (¬ ((0 : Int64) < ql))) = (1 : Int32) from b2i_pos hc9]
      show Go p e below s _ _ _ T8 (mkF m 83 #[.val (.long ql), .second, .val (.long qs), .second, .val (.long qo), .second, .val (.int md), .val (.int (0 : Int32)), .val (.ref b2), .val (.ref b5), .unset, .unset, .unset, .unset] [(.int (1 : Int32))])
      refine Go.st (fun _ => XS.istore X8.here hx rfl (hb hby at_83) rfl (l' := #[.val (.long ql), .second, .val (.long qs), .second, .val (.long qo), .second, .val (.int md), .val (.int (0 : Int32)), .val (.ref b2), .val (.ref b5), .val (.int (1 : Int32)), .unset, .unset, .unset]) rfl) ?_
      show Go p e below s _ _ _ T8 (mkF m 85 #[.val (.long ql), .second, .val (.long qs), .second, .val (.long qo), .second, .val (.int md), .val (.int (0 : Int32)), .val (.ref b2), .val (.ref b5), .val (.int (1 : Int32)), .unset, .unset, .unset] [])
      refine Go.st (fun _ => XS.iload X8.here hx rfl (hb hby at_85) rfl) ?_
      show Go p e below s _ _ _ T8 (mkF m 87 #[.val (.long ql), .second, .val (.long qs), .second, .val (.long qo), .second, .val (.int md), .val (.int (0 : Int32)), .val (.ref b2), .val (.ref b5), .val (.int (1 : Int32)), .unset, .unset, .unset] [(.int (0 : Int32))])
      refine Go.st (fun _ => XS.ifYes X8.here hx rfl (pc0 := 87) (pc' := 97) rfl (hb hby at_87) rfl ((if0 _ _).trans (teq (by decide : (0 : Int32) = (0 : Int32))).1) (by decide) (by decide)) ?_
      show Go p e below s _ _ _ T8 (mkF m 97 #[.val (.long ql), .second, .val (.long qs), .second, .val (.long qo), .second, .val (.int md), .val (.int (0 : Int32)), .val (.ref b2), .val (.ref b5), .val (.int (1 : Int32)), .unset, .unset, .unset] [])
      refine Go.st (fun _ => XS.aload X8.here hx rfl (hb hby at_97) rfl rfl) ?_
      show Go p e below s _ _ _ T8 (mkF m 99 #[.val (.long ql), .second, .val (.long qs), .second, .val (.long qo), .second, .val (.int md), .val (.int (0 : Int32)), .val (.ref b2), .val (.ref b5), .val (.int (1 : Int32)), .unset, .unset, .unset] [(.ref b5)])
      obtain ⟨cq11, kq11, q11a, q11b, q11c⟩ := isOf hZ e8 p7_0
      obtain ⟨_, _, ⟨T11, L11, kc11, nc11⟩, -, X11, ⟨Lc11, hQ11, l11, y11, z11⟩, st11⟩ := X8.virtualBack hx (y := (⟨"com/example/plaingrant/plaingrant/store/AuditPages", "isDone", "()Z"⟩ : MethodName)) (z := (⟨"com/example/plaingrant/plaingrant/store/AuditPages", "isDone", "()Z"⟩ : MethodName)) hown (mvT hZ (hw _ (List.mem_of_getElem? (i := 92) rfl))) (mvT hZ (hw _ (List.mem_of_getElem? (i := 93) rfl))) (notFace_of_selects (args := #[]) (mvT hZ (hw _ (List.mem_of_getElem? (i := 95) rfl)))) (mvT hZ (hw _ (List.mem_of_getElem? (i := 95) rfl))) (mvT hZ (hw _ (List.mem_of_getElem? (i := 94) rfl))) (by decide) (backOf (W := 0) (rmDo l Z a0 hw [] b5 ql (0 : Int64) h7 n0 z7q p7_1 p7_2) hZ (hw _ (List.mem_of_getElem? (i := 96) rfl)) (hw _ (List.mem_of_getElem? (i := 85) rfl)) (by decide) (by decide)) q11a q11c (g := (mkF m 99 #[.val (.long ql), .second, .val (.long qs), .second, .val (.long qo), .second, .val (.int md), .val (.int (0 : Int32)), .val (.ref b2), .val (.ref b5), .val (.int (1 : Int32)), .unset, .unset, .unset] [(.ref b5)])) rfl (by rw [hml]; rfl) (Steps.refl _) (argsL := []) (rest := []) (lenOf pd_7 rfl) rfl (by show 2 * 0 + _ ≤ _; exact Nat.le_of_eq rfl) (hb hby at_99) (fun _ _ => ⟨rfl, e8, (by decide : 2 + 0 ≤ _), (by decide : 5 + 0 ≤ _)⟩)
      dsimp only [Pt.U, Pt.locs, Pt.cells, Pt.slots] at X11 l11 y11 z11 st11 hQ11
      subst l11 y11 z11
      obtain ⟨h11, e11⟩ : ∃ hh, T11.heap = hh := ⟨_, rfl⟩
      rw [e11] at hQ11
      obtain ⟨rfl, N11q, sm11⟩ := hQ11
      have N11 := Fr.app N8 N11q
      refine Go.st (fun _ kk => st11.trans kk) ?_
      rw [sm11] at e11
      show Go p e below s _ _ _ T11 (mkF m 102 #[.val (.long ql), .second, .val (.long qs), .second, .val (.long qo), .second, .val (.int md), .val (.int (0 : Int32)), .val (.ref b2), .val (.ref b5), .val (.int (1 : Int32)), .unset, .unset, .unset] [(.int (b2i (¬ ((0 : Int64) < ql))))])
      rw [show (b2i (¬ ((0 : Int64) < ql))) = (1 : Int32) from b2i_pos hc9]
      show Go p e below s _ _ _ T11 (mkF m 102 #[.val (.long ql), .second, .val (.long qs), .second, .val (.long qo), .second, .val (.int md), .val (.int (0 : Int32)), .val (.ref b2), .val (.ref b5), .val (.int (1 : Int32)), .unset, .unset, .unset] [(.int (1 : Int32))])
      refine Go.st (fun _ => XS.istore X11.here hx rfl (hb hby at_102) rfl (l' := #[.val (.long ql), .second, .val (.long qs), .second, .val (.long qo), .second, .val (.int md), .val (.int (0 : Int32)), .val (.ref b2), .val (.ref b5), .val (.int (1 : Int32)), .val (.int (1 : Int32)), .unset, .unset]) rfl) ?_
      show Go p e below s _ _ _ T11 (mkF m 104 #[.val (.long ql), .second, .val (.long qs), .second, .val (.long qo), .second, .val (.int md), .val (.int (0 : Int32)), .val (.ref b2), .val (.ref b5), .val (.int (1 : Int32)), .val (.int (1 : Int32)), .unset, .unset] [])
      refine Go.st (fun _ => XS.lloadN X11.here hx rfl (hb hby at_104) rfl) ?_
      show Go p e below s _ _ _ T11 (mkF m 105 #[.val (.long ql), .second, .val (.long qs), .second, .val (.long qo), .second, .val (.int md), .val (.int (0 : Int32)), .val (.ref b2), .val (.ref b5), .val (.int (1 : Int32)), .val (.int (1 : Int32)), .unset, .unset] [(.long ql)])
      refine Go.st (fun _ => XS.lconst X11.here hx rfl (hb hby at_105)) ?_
      show Go p e below s _ _ _ T11 (mkF m 106 #[.val (.long ql), .second, .val (.long qs), .second, .val (.long qo), .second, .val (.int md), .val (.int (0 : Int32)), .val (.ref b2), .val (.ref b5), .val (.int (1 : Int32)), .val (.int (1 : Int32)), .unset, .unset] [(.long (0 : Int64)), (.long ql)])
      refine Go.st (fun _ => XS.lcmp X11.here hx rfl (hb hby at_106) rfl) ?_
      show Go p e below s _ _ _ T11 (mkF m 107 #[.val (.long ql), .second, .val (.long qs), .second, .val (.long qo), .second, .val (.int md), .val (.int (0 : Int32)), .val (.ref b2), .val (.ref b5), .val (.int (1 : Int32)), .val (.int (1 : Int32)), .unset, .unset] [(.int (lcmpW ql (0 : Int64)))])
      refine Go.st (fun _ => XS.ifNo X11.here hx rfl (hb hby at_107) rfl ((if0 _ _).trans (flt (fun qq => hc9 ((lw_gt ql (0 : Int64)).mp qq))).2.2.1)) ?_
      show Go p e below s _ _ _ T11 (mkF m 110 #[.val (.long ql), .second, .val (.long qs), .second, .val (.long qo), .second, .val (.int md), .val (.int (0 : Int32)), .val (.ref b2), .val (.ref b5), .val (.int (1 : Int32)), .val (.int (1 : Int32)), .unset, .unset] [])
      refine Go.st (fun _ => XS.iconst X11.here hx rfl (hb hby at_110)) ?_
      show Go p e below s _ _ _ T11 (mkF m 111 #[.val (.long ql), .second, .val (.long qs), .second, .val (.long qo), .second, .val (.int md), .val (.int (0 : Int32)), .val (.ref b2), .val (.ref b5), .val (.int (1 : Int32)), .val (.int (1 : Int32)), .unset, .unset] [(.int (1 : Int32))])
      refine Go.st (fun _ => XS.goto X11.here hx rfl (pc0 := 111) (pc' := 115) rfl (hb hby at_111) (by decide) (by decide)) ?_
      show Go p e below s _ _ _ T11 (mkF m 115 #[.val (.long ql), .second, .val (.long qs), .second, .val (.long qo), .second, .val (.int md), .val (.int (0 : Int32)), .val (.ref b2), .val (.ref b5), .val (.int (1 : Int32)), .val (.int (1 : Int32)), .unset, .unset] [(.int (1 : Int32))])
      refine Go.st (fun _ => XS.istore X11.here hx rfl (hb hby at_115) rfl (l' := #[.val (.long ql), .second, .val (.long qs), .second, .val (.long qo), .second, .val (.int md), .val (.int (0 : Int32)), .val (.ref b2), .val (.ref b5), .val (.int (1 : Int32)), .val (.int (1 : Int32)), .val (.int (1 : Int32)), .unset]) rfl) ?_
      show Go p e below s _ _ _ T11 (mkF m 117 #[.val (.long ql), .second, .val (.long qs), .second, .val (.long qo), .second, .val (.int md), .val (.int (0 : Int32)), .val (.ref b2), .val (.ref b5), .val (.int (1 : Int32)), .val (.int (1 : Int32)), .val (.int (1 : Int32)), .unset] [])
      refine Go.st (fun _ => XS.iload X11.here hx rfl (hb hby at_117) rfl) ?_
      show Go p e below s _ _ _ T11 (mkF m 119 #[.val (.long ql), .second, .val (.long qs), .second, .val (.long qo), .second, .val (.int md), .val (.int (0 : Int32)), .val (.ref b2), .val (.ref b5), .val (.int (1 : Int32)), .val (.int (1 : Int32)), .val (.int (1 : Int32)), .unset] [(.int (0 : Int32))])
      refine Go.st (fun _ => XS.ifNo X11.here hx rfl (hb hby at_119) rfl ((if0 _ _).trans (teq (by decide : (0 : Int32) = (0 : Int32))).2)) ?_
      show Go p e below s _ _ _ T11 (mkF m 122 #[.val (.long ql), .second, .val (.long qs), .second, .val (.long qo), .second, .val (.int md), .val (.int (0 : Int32)), .val (.ref b2), .val (.ref b5), .val (.int (1 : Int32)), .val (.int (1 : Int32)), .val (.int (1 : Int32)), .unset] [])
      refine Go.st (fun _ => XS.iload X11.here hx rfl (hb hby at_122) rfl) ?_
      show Go p e below s _ _ _ T11 (mkF m 124 #[.val (.long ql), .second, .val (.long qs), .second, .val (.long qo), .second, .val (.int md), .val (.int (0 : Int32)), .val (.ref b2), .val (.ref b5), .val (.int (1 : Int32)), .val (.int (1 : Int32)), .val (.int (1 : Int32)), .unset] [(.int (1 : Int32))])
      refine Go.st (fun _ => XS.istore X11.here hx rfl (hb hby at_124) rfl (l' := #[.val (.long ql), .second, .val (.long qs), .second, .val (.long qo), .second, .val (.int md), .val (.int (0 : Int32)), .val (.ref b2), .val (.ref b5), .val (.int (1 : Int32)), .val (.int (1 : Int32)), .val (.int (1 : Int32)), .val (.int (1 : Int32))]) rfl) ?_
      show Go p e below s _ _ _ T11 (mkF m 126 #[.val (.long ql), .second, .val (.long qs), .second, .val (.long qo), .second, .val (.int md), .val (.int (0 : Int32)), .val (.ref b2), .val (.ref b5), .val (.int (1 : Int32)), .val (.int (1 : Int32)), .val (.int (1 : Int32)), .val (.int (1 : Int32))] [])
      refine Go.st (fun _ => XS.goto X11.here hx rfl (pc0 := 126) (pc' := 154) rfl (hb hby at_126) (by decide) (by decide)) ?_
      show Go p e below s _ _ _ T11 (mkF m 154 #[.val (.long ql), .second, .val (.long qs), .second, .val (.long qo), .second, .val (.int md), .val (.int (0 : Int32)), .val (.ref b2), .val (.ref b5), .val (.int (1 : Int32)), .val (.int (1 : Int32)), .val (.int (1 : Int32)), .val (.int (1 : Int32))] [])
      refine Go.st (fun _ => XS.iload X11.here hx rfl (hb hby at_154) rfl) ?_
      show Go p e below s _ _ _ T11 (mkF m 156 #[.val (.long ql), .second, .val (.long qs), .second, .val (.long qo), .second, .val (.int md), .val (.int (0 : Int32)), .val (.ref b2), .val (.ref b5), .val (.int (1 : Int32)), .val (.int (1 : Int32)), .val (.int (1 : Int32)), .val (.int (1 : Int32))] [(.int (1 : Int32))])
      refine Go.st (fun _ => XS.iload X11.here hx rfl (hb hby at_156) rfl) ?_
      show Go p e below s _ _ _ T11 (mkF m 158 #[.val (.long ql), .second, .val (.long qs), .second, .val (.long qo), .second, .val (.int md), .val (.int (0 : Int32)), .val (.ref b2), .val (.ref b5), .val (.int (1 : Int32)), .val (.int (1 : Int32)), .val (.int (1 : Int32)), .val (.int (1 : Int32))] [(.int (1 : Int32)), (.int (1 : Int32))])
      refine Go.st (fun _ => XS.icmpNo X11.here hx rfl (hb hby at_158) rfl (teq (by decide : (1 : Int32) = (1 : Int32))).2) ?_
      show Go p e below s _ _ _ T11 (mkF m 161 #[.val (.long ql), .second, .val (.long qs), .second, .val (.long qo), .second, .val (.int md), .val (.int (0 : Int32)), .val (.ref b2), .val (.ref b5), .val (.int (1 : Int32)), .val (.int (1 : Int32)), .val (.int (1 : Int32)), .val (.int (1 : Int32))] [])
      refine Go.st (fun _ => XS.iload X11.here hx rfl (hb hby at_161) rfl) ?_
      show Go p e below s _ _ _ T11 (mkF m 163 #[.val (.long ql), .second, .val (.long qs), .second, .val (.long qo), .second, .val (.int md), .val (.int (0 : Int32)), .val (.ref b2), .val (.ref b5), .val (.int (1 : Int32)), .val (.int (1 : Int32)), .val (.int (1 : Int32)), .val (.int (1 : Int32))] [(.int (1 : Int32))])
      refine Go.st (fun _ => XS.iload X11.here hx rfl (hb hby at_163) rfl) ?_
      show Go p e below s _ _ _ T11 (mkF m 165 #[.val (.long ql), .second, .val (.long qs), .second, .val (.long qo), .second, .val (.int md), .val (.int (0 : Int32)), .val (.ref b2), .val (.ref b5), .val (.int (1 : Int32)), .val (.int (1 : Int32)), .val (.int (1 : Int32)), .val (.int (1 : Int32))] [(.int (1 : Int32)), (.int (1 : Int32))])
      refine Go.st (fun _ => XS.icmpNo X11.here hx rfl (hb hby at_165) rfl (teq (by decide : (1 : Int32) = (1 : Int32))).2) ?_
      show Go p e below s _ _ _ T11 (mkF m 168 #[.val (.long ql), .second, .val (.long qs), .second, .val (.long qo), .second, .val (.int md), .val (.int (0 : Int32)), .val (.ref b2), .val (.ref b5), .val (.int (1 : Int32)), .val (.int (1 : Int32)), .val (.int (1 : Int32)), .val (.int (1 : Int32))] [])
      refine Go.st (fun _ => XS.iconst X11.here hx rfl (hb hby at_168)) ?_
      show Go p e below s _ _ _ T11 (mkF m 169 #[.val (.long ql), .second, .val (.long qs), .second, .val (.long qo), .second, .val (.int md), .val (.int (0 : Int32)), .val (.ref b2), .val (.ref b5), .val (.int (1 : Int32)), .val (.int (1 : Int32)), .val (.int (1 : Int32)), .val (.int (1 : Int32))] [(.int (1 : Int32))])
      refine Go.st (fun _ => XS.goto X11.here hx rfl (pc0 := 169) (pc' := 173) rfl (hb hby at_169) (by decide) (by decide)) ?_
      show Go p e below s _ _ _ T11 (mkF m 173 #[.val (.long ql), .second, .val (.long qs), .second, .val (.long qo), .second, .val (.int md), .val (.int (0 : Int32)), .val (.ref b2), .val (.ref b5), .val (.int (1 : Int32)), .val (.int (1 : Int32)), .val (.int (1 : Int32)), .val (.int (1 : Int32))] [(.int (1 : Int32))])
      exact Go.retZ X11 hx hlk Bd.returns (hb hby at_173) rfl (by rw [e11]; exact ⟨rfl, N11⟩) (by decide) (by decide)
  · rw [show (md &&& (3 : Int32)) = (1 : Int32) from hd1]
    show Go p e below s _ _ _ s₁ (mkF m 4 #[.val (.long ql), .second, .val (.long qs), .second, .val (.long qo), .second, .val (.int md), .unset, .unset, .unset, .unset, .unset, .unset, .unset] [(.int (1 : Int32))])
    refine Go.st (fun _ => XS.istore X0.here hx rfl (hb hby at_4) rfl (l' := #[.val (.long ql), .second, .val (.long qs), .second, .val (.long qo), .second, .val (.int md), .val (.int (1 : Int32)), .unset, .unset, .unset, .unset, .unset, .unset]) rfl) ?_
    show Go p e below s _ _ _ s₁ (mkF m 6 #[.val (.long ql), .second, .val (.long qs), .second, .val (.long qo), .second, .val (.int md), .val (.int (1 : Int32)), .unset, .unset, .unset, .unset, .unset, .unset] [])
    obtain ⟨T12, h12, X12, e12, E12, A12, D12, -, st12⟩ := newO X0 hx hZ hown (hw _ (List.mem_of_getElem? (i := 0) rfl)) (hw _ (List.mem_of_getElem? (i := 1) rfl)) (hw _ (List.mem_of_getElem? (i := 2) rfl)) e0 (g := (mkF m 6 #[.val (.long ql), .second, .val (.long qs), .second, .val (.long qo), .second, .val (.int md), .val (.int (1 : Int32)), .unset, .unset, .unset, .unset, .unset, .unset] [])) rfl (hb hby at_6) (by decide) (by decide)
    obtain ⟨b12, g12⟩ : ∃ z, z = h0.size := ⟨_, rfl⟩
    rw [← g12] at A12 D12 st12
    refine Go.st st12 ?_
    have ne_u_b12 : u ≠ b12 := Nat.ne_of_lt (Nat.lt_of_lt_of_eq V_u.lt g12.symm)
    have gg12 : n0 ≤ b12 := Nat.le_trans Z0 (Nat.le_of_eq g12.symm)
    have z12 : n0 ≤ h12.size := Nat.le_trans Z0 E12.1
    have F_modCount_b12 : Fld Z h12 b12 "java/util/AbstractList" "modCount" "I" (.int (0 : Int32)) := D12 (Or.inl (hw _ (List.mem_of_getElem? (i := 22) rfl))) (ty := .int) (by decide)
    have F_elementData_b12 : Fld Z h12 b12 "java/util/ArrayList" "elementData" "[Ljava/lang/Object;" .null := D12 (Or.inl (hw _ (List.mem_of_getElem? (i := 25) rfl))) (ty := (.array (.object "java/lang/Object"))) (by decide)
    have F_size_b12 : Fld Z h12 b12 "java/util/ArrayList" "size" "I" (.int (0 : Int32)) := D12 (Or.inl (hw _ (List.mem_of_getElem? (i := 60) rfl))) (ty := .int) (by decide)
    show Go p e below s _ _ _ T12 (mkF m 9 #[.val (.long ql), .second, .val (.long qs), .second, .val (.long qo), .second, .val (.int md), .val (.int (1 : Int32)), .unset, .unset, .unset, .unset, .unset, .unset] [(.ref b12)])
    refine Go.st (fun _ => XS.dup X12.here hx rfl (hb hby at_9) rfl rfl) ?_
    show Go p e below s _ _ _ T12 (mkF m 10 #[.val (.long ql), .second, .val (.long qs), .second, .val (.long qo), .second, .val (.int md), .val (.int (1 : Int32)), .unset, .unset, .unset, .unset, .unset, .unset] [(.ref b12), (.ref b12)])
    have f14 := (S_DEFAULTCAPACITY_EMPTY_ELEMENTDATA.ext E12)
    obtain ⟨_, _, ⟨T13, L13, kc13, nc13⟩, -, X13, ⟨Lc13, hQ13, l13, y13, z13⟩, st13⟩ := X12.specialBack hx (y := (⟨"java/util/ArrayList", "<init>", "()V"⟩ : MethodName)) rfl hown (mvT hZ (hw _ (List.mem_of_getElem? (i := 3) rfl))) (mvT hZ (hw _ (List.mem_of_getElem? (i := 4) rfl))) (mvT hZ (hw _ (List.mem_of_getElem? (i := 5) rfl))) (by decide) (backOf (W := 1) (rmAl l Z a0 hw [] b12 u h12 n0 z12 A12 F_modCount_b12 F_elementData_b12 F_size_b12 f14 gg12) hZ (hw _ (List.mem_of_getElem? (i := 5) rfl)) (hw _ (List.mem_of_getElem? (i := 2) rfl)) (by decide) (by decide)) (g := (mkF m 10 #[.val (.long ql), .second, .val (.long qs), .second, .val (.long qo), .second, .val (.int md), .val (.int (1 : Int32)), .unset, .unset, .unset, .unset, .unset, .unset] [(.ref b12), (.ref b12)])) rfl (by rw [hml]; rfl) (Steps.refl _) (a := b12) (argsL := []) (rest := [(.ref b12)]) (lenOf pd_0 rfl) rfl (by show 2 * 0 + _ ≤ _; exact Nat.le_of_eq rfl) (hb hby at_10) (fun _ _ => ⟨rfl, e12, (by decide : 1 + 0 ≤ _), (by decide : 3 + 0 ≤ _)⟩)
    dsimp only [Pt.U, Pt.locs, Pt.cells, Pt.slots] at X13 l13 y13 z13 st13 hQ13
    subst l13 y13 z13
    obtain ⟨h13, e13⟩ : ∃ hh, T13.heap = hh := ⟨_, rfl⟩
    rw [e13] at hQ13
    obtain ⟨rfl, N13q, K13, p13_0, p13_1, p13_2, p13_3⟩ := hQ13
    have N13 := Fr.app N0 N13q
    refine Go.st (fun _ kk => st13.trans kk) ?_
    have z13q : n0 ≤ h13.size := Nat.le_trans z12 K13.1
    have ns13 : ∀ x ∈ ([b12] : List Addr), ∀ cell : Cell, h12[x]? = some cell → cell.vm.isStatics = false := (allS A12.nostat all0)
    show Go p e below s _ _ _ T13 (mkF m 13 #[.val (.long ql), .second, .val (.long qs), .second, .val (.long qo), .second, .val (.int md), .val (.int (1 : Int32)), .unset, .unset, .unset, .unset, .unset, .unset] [(.ref b12)])
    refine Go.st (fun _ => XS.astore X13.here hx rfl (hb hby at_13) rfl rfl (l' := #[.val (.long ql), .second, .val (.long qs), .second, .val (.long qo), .second, .val (.int md), .val (.int (1 : Int32)), .val (.ref b12), .unset, .unset, .unset, .unset, .unset]) rfl) ?_
    show Go p e below s _ _ _ T13 (mkF m 15 #[.val (.long ql), .second, .val (.long qs), .second, .val (.long qo), .second, .val (.int md), .val (.int (1 : Int32)), .val (.ref b12), .unset, .unset, .unset, .unset, .unset] [])
    refine Go.st (fun _ => XS.iload X13.here hx rfl (hb hby at_15) rfl) ?_
    show Go p e below s _ _ _ T13 (mkF m 17 #[.val (.long ql), .second, .val (.long qs), .second, .val (.long qo), .second, .val (.int md), .val (.int (1 : Int32)), .val (.ref b12), .unset, .unset, .unset, .unset, .unset] [(.int (1 : Int32))])
    refine Go.st (fun _ => XS.iconst X13.here hx rfl (hb hby at_17)) ?_
    show Go p e below s _ _ _ T13 (mkF m 18 #[.val (.long ql), .second, .val (.long qs), .second, .val (.long qo), .second, .val (.int md), .val (.int (1 : Int32)), .val (.ref b12), .unset, .unset, .unset, .unset, .unset] [(.int (3 : Int32)), (.int (1 : Int32))])
    refine Go.st (fun _ => XS.icmpYes X13.here hx rfl (pc0 := 18) (pc' := 42) rfl (hb hby at_18) rfl (feq (by decide : ¬ ((1 : Int32) = (3 : Int32)))).2 (by decide) (by decide)) ?_
    show Go p e below s _ _ _ T13 (mkF m 42 #[.val (.long ql), .second, .val (.long qs), .second, .val (.long qo), .second, .val (.int md), .val (.int (1 : Int32)), .val (.ref b12), .unset, .unset, .unset, .unset, .unset] [])
    refine Go.st (fun _ => XS.iload X13.here hx rfl (hb hby at_42) rfl) ?_
    show Go p e below s _ _ _ T13 (mkF m 44 #[.val (.long ql), .second, .val (.long qs), .second, .val (.long qo), .second, .val (.int md), .val (.int (1 : Int32)), .val (.ref b12), .unset, .unset, .unset, .unset, .unset] [(.int (1 : Int32))])
    refine Go.st (fun _ => XS.iconst X13.here hx rfl (hb hby at_44)) ?_
    show Go p e below s _ _ _ T13 (mkF m 45 #[.val (.long ql), .second, .val (.long qs), .second, .val (.long qo), .second, .val (.int md), .val (.int (1 : Int32)), .val (.ref b12), .unset, .unset, .unset, .unset, .unset] [(.int (2 : Int32)), (.int (1 : Int32))])
    refine Go.st (fun _ => XS.icmpYes X13.here hx rfl (pc0 := 45) (pc' := 68) rfl (hb hby at_45) rfl (tlt (by decide : (1 : Int32) < (2 : Int32))).1 (by decide) (by decide)) ?_
    show Go p e below s _ _ _ T13 (mkF m 68 #[.val (.long ql), .second, .val (.long qs), .second, .val (.long qo), .second, .val (.int md), .val (.int (1 : Int32)), .val (.ref b12), .unset, .unset, .unset, .unset, .unset] [])
    obtain ⟨T15, h15, X15, e15, E15, A15, D15, -, st15⟩ := newO X13 hx hZ hown (hw _ (List.mem_of_getElem? (i := 83) rfl)) (hw _ (List.mem_of_getElem? (i := 84) rfl)) (hw _ (List.mem_of_getElem? (i := 85) rfl)) e13 (g := (mkF m 68 #[.val (.long ql), .second, .val (.long qs), .second, .val (.long qo), .second, .val (.int md), .val (.int (1 : Int32)), .val (.ref b12), .unset, .unset, .unset, .unset, .unset] [])) rfl (hb hby at_68) (by decide) (by decide)
    obtain ⟨b15, g15⟩ : ∃ z, z = h13.size := ⟨_, rfl⟩
    rw [← g15] at A15 D15 st15
    refine Go.st st15 ?_
    have f16 := ((V_u.ext E12).keep K13 (ninS ne_u_b12 nin0))
    have ne_u_b15 : u ≠ b15 := Nat.ne_of_lt (Nat.lt_of_lt_of_eq f16.lt g15.symm)
    have ne_b12_b15 : b12 ≠ b15 := Nat.ne_of_lt (Nat.lt_of_lt_of_eq p13_0.lt g15.symm)
    have gg15 : n0 ≤ b15 := Nat.le_trans z13q (Nat.le_of_eq g15.symm)
    have z15 : n0 ≤ h15.size := Nat.le_trans z13q E15.1
    have F_mLast_b15 : Fld Z h15 b15 "com/example/plaingrant/plaingrant/store/AuditPages" "mLast" "J" (.long (0 : Int64)) := D15 (Or.inr (hw _ (List.mem_of_getElem? (i := 91) rfl))) (ty := .long) (by decide)
    have F_mGiven_b15 : Fld Z h15 b15 "com/example/plaingrant/plaingrant/store/AuditPages" "mGiven" "J" (.long (0 : Int64)) := D15 (Or.inl (hw _ (List.mem_of_getElem? (i := 98) rfl))) (ty := .long) (by decide)
    show Go p e below s _ _ _ T15 (mkF m 71 #[.val (.long ql), .second, .val (.long qs), .second, .val (.long qo), .second, .val (.int md), .val (.int (1 : Int32)), .val (.ref b12), .unset, .unset, .unset, .unset, .unset] [(.ref b15)])
    refine Go.st (fun _ => XS.dup X15.here hx rfl (hb hby at_71) rfl rfl) ?_
    show Go p e below s _ _ _ T15 (mkF m 72 #[.val (.long ql), .second, .val (.long qs), .second, .val (.long qo), .second, .val (.int md), .val (.int (1 : Int32)), .val (.ref b12), .unset, .unset, .unset, .unset, .unset] [(.ref b15), (.ref b15)])
    refine Go.st (fun _ => XS.lloadN X15.here hx rfl (hb hby at_72) rfl) ?_
    show Go p e below s _ _ _ T15 (mkF m 73 #[.val (.long ql), .second, .val (.long qs), .second, .val (.long qo), .second, .val (.int md), .val (.int (1 : Int32)), .val (.ref b12), .unset, .unset, .unset, .unset, .unset] [(.long ql), (.ref b15), (.ref b15)])
    obtain ⟨_, _, ⟨T17, L17, kc17, nc17⟩, -, X17, ⟨Lc17, hQ17, l17, y17, z17⟩, st17⟩ := X15.specialBack hx (y := (⟨"com/example/plaingrant/plaingrant/store/AuditPages", "<init>", "(J)V"⟩ : MethodName)) rfl hown (mvT hZ (hw _ (List.mem_of_getElem? (i := 86) rfl))) (mvT hZ (hw _ (List.mem_of_getElem? (i := 87) rfl))) (mvT hZ (hw _ (List.mem_of_getElem? (i := 88) rfl))) (by decide) (backOf (W := 1) (rmPi l Z a0 hw [] b15 ql h15 n0 z15 A15 F_mLast_b15 F_mGiven_b15 gg15) hZ (hw _ (List.mem_of_getElem? (i := 88) rfl)) (hw _ (List.mem_of_getElem? (i := 85) rfl)) (by decide) (by decide)) (g := (mkF m 73 #[.val (.long ql), .second, .val (.long qs), .second, .val (.long qo), .second, .val (.int md), .val (.int (1 : Int32)), .val (.ref b12), .unset, .unset, .unset, .unset, .unset] [(.long ql), (.ref b15), (.ref b15)])) rfl (by rw [hml]; rfl) (Steps.refl _) (a := b15) (argsL := [(.long ql)]) (rest := [(.ref b15)]) (lenOf pd_10 rfl) rfl (by show 2 * 0 + _ ≤ _; exact Nat.le_of_eq rfl) (hb hby at_73) (fun _ _ => ⟨rfl, e15, (by decide : 2 + 0 ≤ _), (by decide : 5 + 0 ≤ _)⟩)
    dsimp only [Pt.U, Pt.locs, Pt.cells, Pt.slots] at X17 l17 y17 z17 st17 hQ17
    subst l17 y17 z17
    obtain ⟨h17, e17⟩ : ∃ hh, T17.heap = hh := ⟨_, rfl⟩
    rw [e17] at hQ17
    obtain ⟨rfl, N17q, K17, p17_0, p17_1, p17_2⟩ := hQ17
    have N17 := Fr.app N13 N17q
    refine Go.st (fun _ kk => st17.trans kk) ?_
    have z17q : n0 ≤ h17.size := Nat.le_trans z15 K17.1
    have ns17 : ∀ x ∈ ([b15] : List Addr), ∀ cell : Cell, h15[x]? = some cell → cell.vm.isStatics = false := (allS A15.nostat all0)
    show Go p e below s _ _ _ T17 (mkF m 76 #[.val (.long ql), .second, .val (.long qs), .second, .val (.long qo), .second, .val (.int md), .val (.int (1 : Int32)), .val (.ref b12), .unset, .unset, .unset, .unset, .unset] [(.ref b15)])
    refine Go.st (fun _ => XS.astore X17.here hx rfl (hb hby at_76) rfl rfl (l' := #[.val (.long ql), .second, .val (.long qs), .second, .val (.long qo), .second, .val (.int md), .val (.int (1 : Int32)), .val (.ref b12), .val (.ref b15), .unset, .unset, .unset, .unset]) rfl) ?_
    show Go p e below s _ _ _ T17 (mkF m 78 #[.val (.long ql), .second, .val (.long qs), .second, .val (.long qo), .second, .val (.int md), .val (.int (1 : Int32)), .val (.ref b12), .val (.ref b15), .unset, .unset, .unset, .unset] [])
    refine Go.st (fun _ => XS.aload X17.here hx rfl (hb hby at_78) rfl rfl) ?_
    show Go p e below s _ _ _ T17 (mkF m 80 #[.val (.long ql), .second, .val (.long qs), .second, .val (.long qo), .second, .val (.int md), .val (.int (1 : Int32)), .val (.ref b12), .val (.ref b15), .unset, .unset, .unset, .unset] [(.ref b15)])
    obtain ⟨cq18, kq18, q18a, q18b, q18c⟩ := isOf hZ e17 p17_0
    obtain ⟨_, _, ⟨T18, L18, kc18, nc18⟩, -, X18, ⟨Lc18, hQ18, l18, y18, z18⟩, st18⟩ := X17.virtualBack hx (y := (⟨"com/example/plaingrant/plaingrant/store/AuditPages", "isDone", "()Z"⟩ : MethodName)) (z := (⟨"com/example/plaingrant/plaingrant/store/AuditPages", "isDone", "()Z"⟩ : MethodName)) hown (mvT hZ (hw _ (List.mem_of_getElem? (i := 92) rfl))) (mvT hZ (hw _ (List.mem_of_getElem? (i := 93) rfl))) (notFace_of_selects (args := #[]) (mvT hZ (hw _ (List.mem_of_getElem? (i := 95) rfl)))) (mvT hZ (hw _ (List.mem_of_getElem? (i := 95) rfl))) (mvT hZ (hw _ (List.mem_of_getElem? (i := 94) rfl))) (by decide) (backOf (W := 0) (rmDo l Z a0 hw [] b15 ql (0 : Int64) h17 n0 z17q p17_1 p17_2) hZ (hw _ (List.mem_of_getElem? (i := 96) rfl)) (hw _ (List.mem_of_getElem? (i := 85) rfl)) (by decide) (by decide)) q18a q18c (g := (mkF m 80 #[.val (.long ql), .second, .val (.long qs), .second, .val (.long qo), .second, .val (.int md), .val (.int (1 : Int32)), .val (.ref b12), .val (.ref b15), .unset, .unset, .unset, .unset] [(.ref b15)])) rfl (by rw [hml]; rfl) (Steps.refl _) (argsL := []) (rest := []) (lenOf pd_7 rfl) rfl (by show 2 * 0 + _ ≤ _; exact Nat.le_of_eq rfl) (hb hby at_80) (fun _ _ => ⟨rfl, e17, (by decide : 2 + 0 ≤ _), (by decide : 5 + 0 ≤ _)⟩)
    dsimp only [Pt.U, Pt.locs, Pt.cells, Pt.slots] at X18 l18 y18 z18 st18 hQ18
    subst l18 y18 z18
    obtain ⟨h18, e18⟩ : ∃ hh, T18.heap = hh := ⟨_, rfl⟩
    rw [e18] at hQ18
    obtain ⟨rfl, N18q, sm18⟩ := hQ18
    have N18 := Fr.app N17 N18q
    refine Go.st (fun _ kk => st18.trans kk) ?_
    rw [sm18] at e18
    show Go p e below s _ _ _ T18 (mkF m 83 #[.val (.long ql), .second, .val (.long qs), .second, .val (.long qo), .second, .val (.int md), .val (.int (1 : Int32)), .val (.ref b12), .val (.ref b15), .unset, .unset, .unset, .unset] [(.int (b2i (¬ ((0 : Int64) < ql))))])
    by_cases hc19 : (0 : Int64) < ql
    · rw [show (b2i (¬ ((0 : Int64) < ql))) = (0 : Int32) from b2i_neg (not_not_intro hc19)]
      show Go p e below s _ _ _ T18 (mkF m 83 #[.val (.long ql), .second, .val (.long qs), .second, .val (.long qo), .second, .val (.int md), .val (.int (1 : Int32)), .val (.ref b12), .val (.ref b15), .unset, .unset, .unset, .unset] [(.int (0 : Int32))])
      refine Go.st (fun _ => XS.istore X18.here hx rfl (hb hby at_83) rfl (l' := #[.val (.long ql), .second, .val (.long qs), .second, .val (.long qo), .second, .val (.int md), .val (.int (1 : Int32)), .val (.ref b12), .val (.ref b15), .val (.int (0 : Int32)), .unset, .unset, .unset]) rfl) ?_
      show Go p e below s _ _ _ T18 (mkF m 85 #[.val (.long ql), .second, .val (.long qs), .second, .val (.long qo), .second, .val (.int md), .val (.int (1 : Int32)), .val (.ref b12), .val (.ref b15), .val (.int (0 : Int32)), .unset, .unset, .unset] [])
      refine Go.st (fun _ => XS.iload X18.here hx rfl (hb hby at_85) rfl) ?_
      show Go p e below s _ _ _ T18 (mkF m 87 #[.val (.long ql), .second, .val (.long qs), .second, .val (.long qo), .second, .val (.int md), .val (.int (1 : Int32)), .val (.ref b12), .val (.ref b15), .val (.int (0 : Int32)), .unset, .unset, .unset] [(.int (1 : Int32))])
      refine Go.st (fun _ => XS.ifNo X18.here hx rfl (hb hby at_87) rfl ((if0 _ _).trans (feq (by decide : ¬ ((1 : Int32) = (0 : Int32)))).1)) ?_
      show Go p e below s _ _ _ T18 (mkF m 90 #[.val (.long ql), .second, .val (.long qs), .second, .val (.long qo), .second, .val (.int md), .val (.int (1 : Int32)), .val (.ref b12), .val (.ref b15), .val (.int (0 : Int32)), .unset, .unset, .unset] [])
      refine Go.st (fun _ => XS.aload X18.here hx rfl (hb hby at_90) rfl rfl) ?_
      show Go p e below s _ _ _ T18 (mkF m 92 #[.val (.long ql), .second, .val (.long qs), .second, .val (.long qo), .second, .val (.int md), .val (.int (1 : Int32)), .val (.ref b12), .val (.ref b15), .val (.int (0 : Int32)), .unset, .unset, .unset] [(.ref b15)])
      refine Go.st (fun _ => XS.aload X18.here hx rfl (hb hby at_92) rfl rfl) ?_
      show Go p e below s _ _ _ T18 (mkF m 94 #[.val (.long ql), .second, .val (.long qs), .second, .val (.long qo), .second, .val (.int md), .val (.int (1 : Int32)), .val (.ref b12), .val (.ref b15), .val (.int (0 : Int32)), .unset, .unset, .unset] [(.ref b12), (.ref b15)])
      have f21 := ((p13_0.ext E15).keep K17)
      have f22 := ((p13_3.ext E15).keep K17 (ninS ne_b12_b15 nin0))
      obtain ⟨cq20, kq20, q20a, q20b, q20c⟩ := isOf hZ e18 p17_0
      obtain ⟨_, _, ⟨T20, L20, kc20, nc20⟩, -, X20, ⟨Lc20, hQ20, l20, y20, z20⟩, st20⟩ := X18.virtualBack hx (y := (⟨"com/example/plaingrant/plaingrant/store/AuditPages", "gave", "(Ljava/util/List;)V"⟩ : MethodName)) (z := (⟨"com/example/plaingrant/plaingrant/store/AuditPages", "gave", "(Ljava/util/List;)V"⟩ : MethodName)) hown (mvT hZ (hw _ (List.mem_of_getElem? (i := 99) rfl))) (mvT hZ (hw _ (List.mem_of_getElem? (i := 100) rfl))) (notFace_of_selects (args := #[]) (mvT hZ (hw _ (List.mem_of_getElem? (i := 102) rfl)))) (mvT hZ (hw _ (List.mem_of_getElem? (i := 102) rfl))) (mvT hZ (hw _ (List.mem_of_getElem? (i := 101) rfl))) (by decide) (backOf (W := 0) (rmV0 l Z a0 hw [] b15 b12 ql (0 : Int64) h17 n0 z17q p17_0 p17_1 p17_2 f21 f22 gg15 ne_b12_b15) hZ (hw _ (List.mem_of_getElem? (i := 103) rfl)) (hw _ (List.mem_of_getElem? (i := 85) rfl)) (by decide) (by decide)) q20a q20c (g := (mkF m 94 #[.val (.long ql), .second, .val (.long qs), .second, .val (.long qo), .second, .val (.int md), .val (.int (1 : Int32)), .val (.ref b12), .val (.ref b15), .val (.int (0 : Int32)), .unset, .unset, .unset] [(.ref b12), (.ref b15)])) rfl (by rw [hml]; rfl) (Steps.refl _) (argsL := [(.ref b12)]) (rest := []) (lenOf pd_11 rfl) rfl (by show 2 * 0 + _ ≤ _; exact Nat.le_of_eq rfl) (hb hby at_94) (fun _ _ => ⟨rfl, e18, (by decide : 2 + 0 ≤ _), (by decide : 5 + 0 ≤ _)⟩)
      dsimp only [Pt.U, Pt.locs, Pt.cells, Pt.slots] at X20 l20 y20 z20 st20 hQ20
      subst l20 y20 z20
      obtain ⟨h20, e20⟩ : ∃ hh, T20.heap = hh := ⟨_, rfl⟩
      rw [e20] at hQ20
      obtain ⟨rfl, N20q, K20, p20_0, p20_1, p20_2⟩ := hQ20
      have N20 := Fr.app N18 N20q
      refine Go.st (fun _ kk => st20.trans kk) ?_
      have z20q : n0 ≤ h20.size := Nat.le_trans z17q K20.1
      have ns20 : ∀ x ∈ ([b15] : List Addr), ∀ cell : Cell, h17[x]? = some cell → cell.vm.isStatics = false := (allS p17_0.nostat all0)
      show Go p e below s _ _ _ T20 (mkF m 97 #[.val (.long ql), .second, .val (.long qs), .second, .val (.long qo), .second, .val (.int md), .val (.int (1 : Int32)), .val (.ref b12), .val (.ref b15), .val (.int (0 : Int32)), .unset, .unset, .unset] [])
      refine Go.st (fun _ => XS.aload X20.here hx rfl (hb hby at_97) rfl rfl) ?_
      show Go p e below s _ _ _ T20 (mkF m 99 #[.val (.long ql), .second, .val (.long qs), .second, .val (.long qo), .second, .val (.int md), .val (.int (1 : Int32)), .val (.ref b12), .val (.ref b15), .val (.int (0 : Int32)), .unset, .unset, .unset] [(.ref b15)])
      obtain ⟨cq23, kq23, q23a, q23b, q23c⟩ := isOf hZ e20 p20_0
      obtain ⟨_, _, ⟨T23, L23, kc23, nc23⟩, -, X23, ⟨Lc23, hQ23, l23, y23, z23⟩, st23⟩ := X20.virtualBack hx (y := (⟨"com/example/plaingrant/plaingrant/store/AuditPages", "isDone", "()Z"⟩ : MethodName)) (z := (⟨"com/example/plaingrant/plaingrant/store/AuditPages", "isDone", "()Z"⟩ : MethodName)) hown (mvT hZ (hw _ (List.mem_of_getElem? (i := 92) rfl))) (mvT hZ (hw _ (List.mem_of_getElem? (i := 93) rfl))) (notFace_of_selects (args := #[]) (mvT hZ (hw _ (List.mem_of_getElem? (i := 95) rfl)))) (mvT hZ (hw _ (List.mem_of_getElem? (i := 95) rfl))) (mvT hZ (hw _ (List.mem_of_getElem? (i := 94) rfl))) (by decide) (backOf (W := 0) (rmDo l Z a0 hw [] b15 ql ql h20 n0 z20q p20_1 p20_2) hZ (hw _ (List.mem_of_getElem? (i := 96) rfl)) (hw _ (List.mem_of_getElem? (i := 85) rfl)) (by decide) (by decide)) q23a q23c (g := (mkF m 99 #[.val (.long ql), .second, .val (.long qs), .second, .val (.long qo), .second, .val (.int md), .val (.int (1 : Int32)), .val (.ref b12), .val (.ref b15), .val (.int (0 : Int32)), .unset, .unset, .unset] [(.ref b15)])) rfl (by rw [hml]; rfl) (Steps.refl _) (argsL := []) (rest := []) (lenOf pd_7 rfl) rfl (by show 2 * 0 + _ ≤ _; exact Nat.le_of_eq rfl) (hb hby at_99) (fun _ _ => ⟨rfl, e20, (by decide : 2 + 0 ≤ _), (by decide : 5 + 0 ≤ _)⟩)
      dsimp only [Pt.U, Pt.locs, Pt.cells, Pt.slots] at X23 l23 y23 z23 st23 hQ23
      subst l23 y23 z23
      obtain ⟨h23, e23⟩ : ∃ hh, T23.heap = hh := ⟨_, rfl⟩
      rw [e23] at hQ23
      obtain ⟨rfl, N23q, sm23⟩ := hQ23
      have N23 := Fr.app N20 N23q
      refine Go.st (fun _ kk => st23.trans kk) ?_
      rw [sm23] at e23
      show Go p e below s _ _ _ T23 (mkF m 102 #[.val (.long ql), .second, .val (.long qs), .second, .val (.long qo), .second, .val (.int md), .val (.int (1 : Int32)), .val (.ref b12), .val (.ref b15), .val (.int (0 : Int32)), .unset, .unset, .unset] [(.int (b2i (¬ (ql < ql))))])
      rw [show (b2i (¬ (ql < ql))) = (1 : Int32) from b2i_pos (by first | exact own_irr | exact own_irrL : ¬ (ql < ql))]
      show Go p e below s _ _ _ T23 (mkF m 102 #[.val (.long ql), .second, .val (.long qs), .second, .val (.long qo), .second, .val (.int md), .val (.int (1 : Int32)), .val (.ref b12), .val (.ref b15), .val (.int (0 : Int32)), .unset, .unset, .unset] [(.int (1 : Int32))])
      refine Go.st (fun _ => XS.istore X23.here hx rfl (hb hby at_102) rfl (l' := #[.val (.long ql), .second, .val (.long qs), .second, .val (.long qo), .second, .val (.int md), .val (.int (1 : Int32)), .val (.ref b12), .val (.ref b15), .val (.int (0 : Int32)), .val (.int (1 : Int32)), .unset, .unset]) rfl) ?_
      show Go p e below s _ _ _ T23 (mkF m 104 #[.val (.long ql), .second, .val (.long qs), .second, .val (.long qo), .second, .val (.int md), .val (.int (1 : Int32)), .val (.ref b12), .val (.ref b15), .val (.int (0 : Int32)), .val (.int (1 : Int32)), .unset, .unset] [])
      refine Go.st (fun _ => XS.lloadN X23.here hx rfl (hb hby at_104) rfl) ?_
      show Go p e below s _ _ _ T23 (mkF m 105 #[.val (.long ql), .second, .val (.long qs), .second, .val (.long qo), .second, .val (.int md), .val (.int (1 : Int32)), .val (.ref b12), .val (.ref b15), .val (.int (0 : Int32)), .val (.int (1 : Int32)), .unset, .unset] [(.long ql)])
      refine Go.st (fun _ => XS.lconst X23.here hx rfl (hb hby at_105)) ?_
      show Go p e below s _ _ _ T23 (mkF m 106 #[.val (.long ql), .second, .val (.long qs), .second, .val (.long qo), .second, .val (.int md), .val (.int (1 : Int32)), .val (.ref b12), .val (.ref b15), .val (.int (0 : Int32)), .val (.int (1 : Int32)), .unset, .unset] [(.long (0 : Int64)), (.long ql)])
      refine Go.st (fun _ => XS.lcmp X23.here hx rfl (hb hby at_106) rfl) ?_
      show Go p e below s _ _ _ T23 (mkF m 107 #[.val (.long ql), .second, .val (.long qs), .second, .val (.long qo), .second, .val (.int md), .val (.int (1 : Int32)), .val (.ref b12), .val (.ref b15), .val (.int (0 : Int32)), .val (.int (1 : Int32)), .unset, .unset] [(.int (lcmpW ql (0 : Int64)))])
      refine Go.st (fun _ => XS.ifYes X23.here hx rfl (pc0 := 107) (pc' := 114) rfl (hb hby at_107) rfl ((if0 _ _).trans (tlt ((lw_gt ql (0 : Int64)).mpr hc19)).2.2.1) (by decide) (by decide)) ?_
      show Go p e below s _ _ _ T23 (mkF m 114 #[.val (.long ql), .second, .val (.long qs), .second, .val (.long qo), .second, .val (.int md), .val (.int (1 : Int32)), .val (.ref b12), .val (.ref b15), .val (.int (0 : Int32)), .val (.int (1 : Int32)), .unset, .unset] [])
      refine Go.st (fun _ => XS.iconst X23.here hx rfl (hb hby at_114)) ?_
      show Go p e below s _ _ _ T23 (mkF m 115 #[.val (.long ql), .second, .val (.long qs), .second, .val (.long qo), .second, .val (.int md), .val (.int (1 : Int32)), .val (.ref b12), .val (.ref b15), .val (.int (0 : Int32)), .val (.int (1 : Int32)), .unset, .unset] [(.int (0 : Int32))])
      refine Go.st (fun _ => XS.istore X23.here hx rfl (hb hby at_115) rfl (l' := #[.val (.long ql), .second, .val (.long qs), .second, .val (.long qo), .second, .val (.int md), .val (.int (1 : Int32)), .val (.ref b12), .val (.ref b15), .val (.int (0 : Int32)), .val (.int (1 : Int32)), .val (.int (0 : Int32)), .unset]) rfl) ?_
      show Go p e below s _ _ _ T23 (mkF m 117 #[.val (.long ql), .second, .val (.long qs), .second, .val (.long qo), .second, .val (.int md), .val (.int (1 : Int32)), .val (.ref b12), .val (.ref b15), .val (.int (0 : Int32)), .val (.int (1 : Int32)), .val (.int (0 : Int32)), .unset] [])
      refine Go.st (fun _ => XS.iload X23.here hx rfl (hb hby at_117) rfl) ?_
      show Go p e below s _ _ _ T23 (mkF m 119 #[.val (.long ql), .second, .val (.long qs), .second, .val (.long qo), .second, .val (.int md), .val (.int (1 : Int32)), .val (.ref b12), .val (.ref b15), .val (.int (0 : Int32)), .val (.int (1 : Int32)), .val (.int (0 : Int32)), .unset] [(.int (1 : Int32))])
      refine Go.st (fun _ => XS.ifYes X23.here hx rfl (pc0 := 119) (pc' := 129) rfl (hb hby at_119) rfl ((if0 _ _).trans (feq (by decide : ¬ ((1 : Int32) = (0 : Int32)))).2) (by decide) (by decide)) ?_
      show Go p e below s _ _ _ T23 (mkF m 129 #[.val (.long ql), .second, .val (.long qs), .second, .val (.long qo), .second, .val (.int md), .val (.int (1 : Int32)), .val (.ref b12), .val (.ref b15), .val (.int (0 : Int32)), .val (.int (1 : Int32)), .val (.int (0 : Int32)), .unset] [])
      refine Go.st (fun _ => XS.iload X23.here hx rfl (hb hby at_129) rfl) ?_
      show Go p e below s _ _ _ T23 (mkF m 131 #[.val (.long ql), .second, .val (.long qs), .second, .val (.long qo), .second, .val (.int md), .val (.int (1 : Int32)), .val (.ref b12), .val (.ref b15), .val (.int (0 : Int32)), .val (.int (1 : Int32)), .val (.int (0 : Int32)), .unset] [(.int (1 : Int32))])
      refine Go.st (fun _ => XS.iconst X23.here hx rfl (hb hby at_131)) ?_
      show Go p e below s _ _ _ T23 (mkF m 132 #[.val (.long ql), .second, .val (.long qs), .second, .val (.long qo), .second, .val (.int md), .val (.int (1 : Int32)), .val (.ref b12), .val (.ref b15), .val (.int (0 : Int32)), .val (.int (1 : Int32)), .val (.int (0 : Int32)), .unset] [(.int (1 : Int32)), (.int (1 : Int32))])
      refine Go.st (fun _ => XS.icmpNo X23.here hx rfl (hb hby at_132) rfl (teq (by decide : (1 : Int32) = (1 : Int32))).2) ?_
      show Go p e below s _ _ _ T23 (mkF m 135 #[.val (.long ql), .second, .val (.long qs), .second, .val (.long qo), .second, .val (.int md), .val (.int (1 : Int32)), .val (.ref b12), .val (.ref b15), .val (.int (0 : Int32)), .val (.int (1 : Int32)), .val (.int (0 : Int32)), .unset] [])
      refine Go.st (fun _ => XS.iconst X23.here hx rfl (hb hby at_135)) ?_
      show Go p e below s _ _ _ T23 (mkF m 136 #[.val (.long ql), .second, .val (.long qs), .second, .val (.long qo), .second, .val (.int md), .val (.int (1 : Int32)), .val (.ref b12), .val (.ref b15), .val (.int (0 : Int32)), .val (.int (1 : Int32)), .val (.int (0 : Int32)), .unset] [(.int (1 : Int32))])
      refine Go.st (fun _ => XS.istore X23.here hx rfl (hb hby at_136) rfl (l' := #[.val (.long ql), .second, .val (.long qs), .second, .val (.long qo), .second, .val (.int md), .val (.int (1 : Int32)), .val (.ref b12), .val (.ref b15), .val (.int (0 : Int32)), .val (.int (1 : Int32)), .val (.int (0 : Int32)), .val (.int (1 : Int32))]) rfl) ?_
      show Go p e below s _ _ _ T23 (mkF m 138 #[.val (.long ql), .second, .val (.long qs), .second, .val (.long qo), .second, .val (.int md), .val (.int (1 : Int32)), .val (.ref b12), .val (.ref b15), .val (.int (0 : Int32)), .val (.int (1 : Int32)), .val (.int (0 : Int32)), .val (.int (1 : Int32))] [])
      refine Go.st (fun _ => XS.goto X23.here hx rfl (pc0 := 138) (pc' := 154) rfl (hb hby at_138) (by decide) (by decide)) ?_
      show Go p e below s _ _ _ T23 (mkF m 154 #[.val (.long ql), .second, .val (.long qs), .second, .val (.long qo), .second, .val (.int md), .val (.int (1 : Int32)), .val (.ref b12), .val (.ref b15), .val (.int (0 : Int32)), .val (.int (1 : Int32)), .val (.int (0 : Int32)), .val (.int (1 : Int32))] [])
      refine Go.st (fun _ => XS.iload X23.here hx rfl (hb hby at_154) rfl) ?_
      show Go p e below s _ _ _ T23 (mkF m 156 #[.val (.long ql), .second, .val (.long qs), .second, .val (.long qo), .second, .val (.int md), .val (.int (1 : Int32)), .val (.ref b12), .val (.ref b15), .val (.int (0 : Int32)), .val (.int (1 : Int32)), .val (.int (0 : Int32)), .val (.int (1 : Int32))] [(.int (0 : Int32))])
      refine Go.st (fun _ => XS.iload X23.here hx rfl (hb hby at_156) rfl) ?_
      show Go p e below s _ _ _ T23 (mkF m 158 #[.val (.long ql), .second, .val (.long qs), .second, .val (.long qo), .second, .val (.int md), .val (.int (1 : Int32)), .val (.ref b12), .val (.ref b15), .val (.int (0 : Int32)), .val (.int (1 : Int32)), .val (.int (0 : Int32)), .val (.int (1 : Int32))] [(.int (0 : Int32)), (.int (0 : Int32))])
      refine Go.st (fun _ => XS.icmpNo X23.here hx rfl (hb hby at_158) rfl (teq (by decide : (0 : Int32) = (0 : Int32))).2) ?_
      show Go p e below s _ _ _ T23 (mkF m 161 #[.val (.long ql), .second, .val (.long qs), .second, .val (.long qo), .second, .val (.int md), .val (.int (1 : Int32)), .val (.ref b12), .val (.ref b15), .val (.int (0 : Int32)), .val (.int (1 : Int32)), .val (.int (0 : Int32)), .val (.int (1 : Int32))] [])
      refine Go.st (fun _ => XS.iload X23.here hx rfl (hb hby at_161) rfl) ?_
      show Go p e below s _ _ _ T23 (mkF m 163 #[.val (.long ql), .second, .val (.long qs), .second, .val (.long qo), .second, .val (.int md), .val (.int (1 : Int32)), .val (.ref b12), .val (.ref b15), .val (.int (0 : Int32)), .val (.int (1 : Int32)), .val (.int (0 : Int32)), .val (.int (1 : Int32))] [(.int (1 : Int32))])
      refine Go.st (fun _ => XS.iload X23.here hx rfl (hb hby at_163) rfl) ?_
      show Go p e below s _ _ _ T23 (mkF m 165 #[.val (.long ql), .second, .val (.long qs), .second, .val (.long qo), .second, .val (.int md), .val (.int (1 : Int32)), .val (.ref b12), .val (.ref b15), .val (.int (0 : Int32)), .val (.int (1 : Int32)), .val (.int (0 : Int32)), .val (.int (1 : Int32))] [(.int (1 : Int32)), (.int (1 : Int32))])
      refine Go.st (fun _ => XS.icmpNo X23.here hx rfl (hb hby at_165) rfl (teq (by decide : (1 : Int32) = (1 : Int32))).2) ?_
      show Go p e below s _ _ _ T23 (mkF m 168 #[.val (.long ql), .second, .val (.long qs), .second, .val (.long qo), .second, .val (.int md), .val (.int (1 : Int32)), .val (.ref b12), .val (.ref b15), .val (.int (0 : Int32)), .val (.int (1 : Int32)), .val (.int (0 : Int32)), .val (.int (1 : Int32))] [])
      refine Go.st (fun _ => XS.iconst X23.here hx rfl (hb hby at_168)) ?_
      show Go p e below s _ _ _ T23 (mkF m 169 #[.val (.long ql), .second, .val (.long qs), .second, .val (.long qo), .second, .val (.int md), .val (.int (1 : Int32)), .val (.ref b12), .val (.ref b15), .val (.int (0 : Int32)), .val (.int (1 : Int32)), .val (.int (0 : Int32)), .val (.int (1 : Int32))] [(.int (1 : Int32))])
      refine Go.st (fun _ => XS.goto X23.here hx rfl (pc0 := 169) (pc' := 173) rfl (hb hby at_169) (by decide) (by decide)) ?_
      show Go p e below s _ _ _ T23 (mkF m 173 #[.val (.long ql), .second, .val (.long qs), .second, .val (.long qo), .second, .val (.int md), .val (.int (1 : Int32)), .val (.ref b12), .val (.ref b15), .val (.int (0 : Int32)), .val (.int (1 : Int32)), .val (.int (0 : Int32)), .val (.int (1 : Int32))] [(.int (1 : Int32))])
      exact Go.retZ X23 hx hlk Bd.returns (hb hby at_173) rfl (by rw [e23]; exact ⟨rfl, N23⟩) (by decide) (by decide)
    · rw [show (b2i (¬ ((0 : Int64) < ql))) = (1 : Int32) from b2i_pos hc19]
      show Go p e below s _ _ _ T18 (mkF m 83 #[.val (.long ql), .second, .val (.long qs), .second, .val (.long qo), .second, .val (.int md), .val (.int (1 : Int32)), .val (.ref b12), .val (.ref b15), .unset, .unset, .unset, .unset] [(.int (1 : Int32))])
      refine Go.st (fun _ => XS.istore X18.here hx rfl (hb hby at_83) rfl (l' := #[.val (.long ql), .second, .val (.long qs), .second, .val (.long qo), .second, .val (.int md), .val (.int (1 : Int32)), .val (.ref b12), .val (.ref b15), .val (.int (1 : Int32)), .unset, .unset, .unset]) rfl) ?_
      show Go p e below s _ _ _ T18 (mkF m 85 #[.val (.long ql), .second, .val (.long qs), .second, .val (.long qo), .second, .val (.int md), .val (.int (1 : Int32)), .val (.ref b12), .val (.ref b15), .val (.int (1 : Int32)), .unset, .unset, .unset] [])
      refine Go.st (fun _ => XS.iload X18.here hx rfl (hb hby at_85) rfl) ?_
      show Go p e below s _ _ _ T18 (mkF m 87 #[.val (.long ql), .second, .val (.long qs), .second, .val (.long qo), .second, .val (.int md), .val (.int (1 : Int32)), .val (.ref b12), .val (.ref b15), .val (.int (1 : Int32)), .unset, .unset, .unset] [(.int (1 : Int32))])
      refine Go.st (fun _ => XS.ifNo X18.here hx rfl (hb hby at_87) rfl ((if0 _ _).trans (feq (by decide : ¬ ((1 : Int32) = (0 : Int32)))).1)) ?_
      show Go p e below s _ _ _ T18 (mkF m 90 #[.val (.long ql), .second, .val (.long qs), .second, .val (.long qo), .second, .val (.int md), .val (.int (1 : Int32)), .val (.ref b12), .val (.ref b15), .val (.int (1 : Int32)), .unset, .unset, .unset] [])
      refine Go.st (fun _ => XS.aload X18.here hx rfl (hb hby at_90) rfl rfl) ?_
      show Go p e below s _ _ _ T18 (mkF m 92 #[.val (.long ql), .second, .val (.long qs), .second, .val (.long qo), .second, .val (.int md), .val (.int (1 : Int32)), .val (.ref b12), .val (.ref b15), .val (.int (1 : Int32)), .unset, .unset, .unset] [(.ref b15)])
      refine Go.st (fun _ => XS.aload X18.here hx rfl (hb hby at_92) rfl rfl) ?_
      show Go p e below s _ _ _ T18 (mkF m 94 #[.val (.long ql), .second, .val (.long qs), .second, .val (.long qo), .second, .val (.int md), .val (.int (1 : Int32)), .val (.ref b12), .val (.ref b15), .val (.int (1 : Int32)), .unset, .unset, .unset] [(.ref b12), (.ref b15)])
      have f25 := ((p13_0.ext E15).keep K17)
      have f26 := ((p13_3.ext E15).keep K17 (ninS ne_b12_b15 nin0))
      obtain ⟨cq24, kq24, q24a, q24b, q24c⟩ := isOf hZ e18 p17_0
      obtain ⟨_, _, ⟨T24, L24, kc24, nc24⟩, -, X24, ⟨Lc24, hQ24, l24, y24, z24⟩, st24⟩ := X18.virtualBack hx (y := (⟨"com/example/plaingrant/plaingrant/store/AuditPages", "gave", "(Ljava/util/List;)V"⟩ : MethodName)) (z := (⟨"com/example/plaingrant/plaingrant/store/AuditPages", "gave", "(Ljava/util/List;)V"⟩ : MethodName)) hown (mvT hZ (hw _ (List.mem_of_getElem? (i := 99) rfl))) (mvT hZ (hw _ (List.mem_of_getElem? (i := 100) rfl))) (notFace_of_selects (args := #[]) (mvT hZ (hw _ (List.mem_of_getElem? (i := 102) rfl)))) (mvT hZ (hw _ (List.mem_of_getElem? (i := 102) rfl))) (mvT hZ (hw _ (List.mem_of_getElem? (i := 101) rfl))) (by decide) (backOf (W := 0) (rmV0 l Z a0 hw [] b15 b12 ql (0 : Int64) h17 n0 z17q p17_0 p17_1 p17_2 f25 f26 gg15 ne_b12_b15) hZ (hw _ (List.mem_of_getElem? (i := 103) rfl)) (hw _ (List.mem_of_getElem? (i := 85) rfl)) (by decide) (by decide)) q24a q24c (g := (mkF m 94 #[.val (.long ql), .second, .val (.long qs), .second, .val (.long qo), .second, .val (.int md), .val (.int (1 : Int32)), .val (.ref b12), .val (.ref b15), .val (.int (1 : Int32)), .unset, .unset, .unset] [(.ref b12), (.ref b15)])) rfl (by rw [hml]; rfl) (Steps.refl _) (argsL := [(.ref b12)]) (rest := []) (lenOf pd_11 rfl) rfl (by show 2 * 0 + _ ≤ _; exact Nat.le_of_eq rfl) (hb hby at_94) (fun _ _ => ⟨rfl, e18, (by decide : 2 + 0 ≤ _), (by decide : 5 + 0 ≤ _)⟩)
      dsimp only [Pt.U, Pt.locs, Pt.cells, Pt.slots] at X24 l24 y24 z24 st24 hQ24
      subst l24 y24 z24
      obtain ⟨h24, e24⟩ : ∃ hh, T24.heap = hh := ⟨_, rfl⟩
      rw [e24] at hQ24
      obtain ⟨rfl, N24q, K24, p24_0, p24_1, p24_2⟩ := hQ24
      have N24 := Fr.app N18 N24q
      refine Go.st (fun _ kk => st24.trans kk) ?_
      have z24q : n0 ≤ h24.size := Nat.le_trans z17q K24.1
      have ns24 : ∀ x ∈ ([b15] : List Addr), ∀ cell : Cell, h17[x]? = some cell → cell.vm.isStatics = false := (allS p17_0.nostat all0)
      show Go p e below s _ _ _ T24 (mkF m 97 #[.val (.long ql), .second, .val (.long qs), .second, .val (.long qo), .second, .val (.int md), .val (.int (1 : Int32)), .val (.ref b12), .val (.ref b15), .val (.int (1 : Int32)), .unset, .unset, .unset] [])
      refine Go.st (fun _ => XS.aload X24.here hx rfl (hb hby at_97) rfl rfl) ?_
      show Go p e below s _ _ _ T24 (mkF m 99 #[.val (.long ql), .second, .val (.long qs), .second, .val (.long qo), .second, .val (.int md), .val (.int (1 : Int32)), .val (.ref b12), .val (.ref b15), .val (.int (1 : Int32)), .unset, .unset, .unset] [(.ref b15)])
      obtain ⟨cq27, kq27, q27a, q27b, q27c⟩ := isOf hZ e24 p24_0
      obtain ⟨_, _, ⟨T27, L27, kc27, nc27⟩, -, X27, ⟨Lc27, hQ27, l27, y27, z27⟩, st27⟩ := X24.virtualBack hx (y := (⟨"com/example/plaingrant/plaingrant/store/AuditPages", "isDone", "()Z"⟩ : MethodName)) (z := (⟨"com/example/plaingrant/plaingrant/store/AuditPages", "isDone", "()Z"⟩ : MethodName)) hown (mvT hZ (hw _ (List.mem_of_getElem? (i := 92) rfl))) (mvT hZ (hw _ (List.mem_of_getElem? (i := 93) rfl))) (notFace_of_selects (args := #[]) (mvT hZ (hw _ (List.mem_of_getElem? (i := 95) rfl)))) (mvT hZ (hw _ (List.mem_of_getElem? (i := 95) rfl))) (mvT hZ (hw _ (List.mem_of_getElem? (i := 94) rfl))) (by decide) (backOf (W := 0) (rmDo l Z a0 hw [] b15 ql ql h24 n0 z24q p24_1 p24_2) hZ (hw _ (List.mem_of_getElem? (i := 96) rfl)) (hw _ (List.mem_of_getElem? (i := 85) rfl)) (by decide) (by decide)) q27a q27c (g := (mkF m 99 #[.val (.long ql), .second, .val (.long qs), .second, .val (.long qo), .second, .val (.int md), .val (.int (1 : Int32)), .val (.ref b12), .val (.ref b15), .val (.int (1 : Int32)), .unset, .unset, .unset] [(.ref b15)])) rfl (by rw [hml]; rfl) (Steps.refl _) (argsL := []) (rest := []) (lenOf pd_7 rfl) rfl (by show 2 * 0 + _ ≤ _; exact Nat.le_of_eq rfl) (hb hby at_99) (fun _ _ => ⟨rfl, e24, (by decide : 2 + 0 ≤ _), (by decide : 5 + 0 ≤ _)⟩)
      dsimp only [Pt.U, Pt.locs, Pt.cells, Pt.slots] at X27 l27 y27 z27 st27 hQ27
      subst l27 y27 z27
      obtain ⟨h27, e27⟩ : ∃ hh, T27.heap = hh := ⟨_, rfl⟩
      rw [e27] at hQ27
      obtain ⟨rfl, N27q, sm27⟩ := hQ27
      have N27 := Fr.app N24 N27q
      refine Go.st (fun _ kk => st27.trans kk) ?_
      rw [sm27] at e27
      show Go p e below s _ _ _ T27 (mkF m 102 #[.val (.long ql), .second, .val (.long qs), .second, .val (.long qo), .second, .val (.int md), .val (.int (1 : Int32)), .val (.ref b12), .val (.ref b15), .val (.int (1 : Int32)), .unset, .unset, .unset] [(.int (b2i (¬ (ql < ql))))])
      rw [show (b2i (¬ (ql < ql))) = (1 : Int32) from b2i_pos (by first | exact own_irr | exact own_irrL : ¬ (ql < ql))]
      show Go p e below s _ _ _ T27 (mkF m 102 #[.val (.long ql), .second, .val (.long qs), .second, .val (.long qo), .second, .val (.int md), .val (.int (1 : Int32)), .val (.ref b12), .val (.ref b15), .val (.int (1 : Int32)), .unset, .unset, .unset] [(.int (1 : Int32))])
      refine Go.st (fun _ => XS.istore X27.here hx rfl (hb hby at_102) rfl (l' := #[.val (.long ql), .second, .val (.long qs), .second, .val (.long qo), .second, .val (.int md), .val (.int (1 : Int32)), .val (.ref b12), .val (.ref b15), .val (.int (1 : Int32)), .val (.int (1 : Int32)), .unset, .unset]) rfl) ?_
      show Go p e below s _ _ _ T27 (mkF m 104 #[.val (.long ql), .second, .val (.long qs), .second, .val (.long qo), .second, .val (.int md), .val (.int (1 : Int32)), .val (.ref b12), .val (.ref b15), .val (.int (1 : Int32)), .val (.int (1 : Int32)), .unset, .unset] [])
      refine Go.st (fun _ => XS.lloadN X27.here hx rfl (hb hby at_104) rfl) ?_
      show Go p e below s _ _ _ T27 (mkF m 105 #[.val (.long ql), .second, .val (.long qs), .second, .val (.long qo), .second, .val (.int md), .val (.int (1 : Int32)), .val (.ref b12), .val (.ref b15), .val (.int (1 : Int32)), .val (.int (1 : Int32)), .unset, .unset] [(.long ql)])
      refine Go.st (fun _ => XS.lconst X27.here hx rfl (hb hby at_105)) ?_
      show Go p e below s _ _ _ T27 (mkF m 106 #[.val (.long ql), .second, .val (.long qs), .second, .val (.long qo), .second, .val (.int md), .val (.int (1 : Int32)), .val (.ref b12), .val (.ref b15), .val (.int (1 : Int32)), .val (.int (1 : Int32)), .unset, .unset] [(.long (0 : Int64)), (.long ql)])
      refine Go.st (fun _ => XS.lcmp X27.here hx rfl (hb hby at_106) rfl) ?_
      show Go p e below s _ _ _ T27 (mkF m 107 #[.val (.long ql), .second, .val (.long qs), .second, .val (.long qo), .second, .val (.int md), .val (.int (1 : Int32)), .val (.ref b12), .val (.ref b15), .val (.int (1 : Int32)), .val (.int (1 : Int32)), .unset, .unset] [(.int (lcmpW ql (0 : Int64)))])
      refine Go.st (fun _ => XS.ifNo X27.here hx rfl (hb hby at_107) rfl ((if0 _ _).trans (flt (fun qq => hc19 ((lw_gt ql (0 : Int64)).mp qq))).2.2.1)) ?_
      show Go p e below s _ _ _ T27 (mkF m 110 #[.val (.long ql), .second, .val (.long qs), .second, .val (.long qo), .second, .val (.int md), .val (.int (1 : Int32)), .val (.ref b12), .val (.ref b15), .val (.int (1 : Int32)), .val (.int (1 : Int32)), .unset, .unset] [])
      refine Go.st (fun _ => XS.iconst X27.here hx rfl (hb hby at_110)) ?_
      show Go p e below s _ _ _ T27 (mkF m 111 #[.val (.long ql), .second, .val (.long qs), .second, .val (.long qo), .second, .val (.int md), .val (.int (1 : Int32)), .val (.ref b12), .val (.ref b15), .val (.int (1 : Int32)), .val (.int (1 : Int32)), .unset, .unset] [(.int (1 : Int32))])
      refine Go.st (fun _ => XS.goto X27.here hx rfl (pc0 := 111) (pc' := 115) rfl (hb hby at_111) (by decide) (by decide)) ?_
      show Go p e below s _ _ _ T27 (mkF m 115 #[.val (.long ql), .second, .val (.long qs), .second, .val (.long qo), .second, .val (.int md), .val (.int (1 : Int32)), .val (.ref b12), .val (.ref b15), .val (.int (1 : Int32)), .val (.int (1 : Int32)), .unset, .unset] [(.int (1 : Int32))])
      refine Go.st (fun _ => XS.istore X27.here hx rfl (hb hby at_115) rfl (l' := #[.val (.long ql), .second, .val (.long qs), .second, .val (.long qo), .second, .val (.int md), .val (.int (1 : Int32)), .val (.ref b12), .val (.ref b15), .val (.int (1 : Int32)), .val (.int (1 : Int32)), .val (.int (1 : Int32)), .unset]) rfl) ?_
      show Go p e below s _ _ _ T27 (mkF m 117 #[.val (.long ql), .second, .val (.long qs), .second, .val (.long qo), .second, .val (.int md), .val (.int (1 : Int32)), .val (.ref b12), .val (.ref b15), .val (.int (1 : Int32)), .val (.int (1 : Int32)), .val (.int (1 : Int32)), .unset] [])
      refine Go.st (fun _ => XS.iload X27.here hx rfl (hb hby at_117) rfl) ?_
      show Go p e below s _ _ _ T27 (mkF m 119 #[.val (.long ql), .second, .val (.long qs), .second, .val (.long qo), .second, .val (.int md), .val (.int (1 : Int32)), .val (.ref b12), .val (.ref b15), .val (.int (1 : Int32)), .val (.int (1 : Int32)), .val (.int (1 : Int32)), .unset] [(.int (1 : Int32))])
      refine Go.st (fun _ => XS.ifYes X27.here hx rfl (pc0 := 119) (pc' := 129) rfl (hb hby at_119) rfl ((if0 _ _).trans (feq (by decide : ¬ ((1 : Int32) = (0 : Int32)))).2) (by decide) (by decide)) ?_
      show Go p e below s _ _ _ T27 (mkF m 129 #[.val (.long ql), .second, .val (.long qs), .second, .val (.long qo), .second, .val (.int md), .val (.int (1 : Int32)), .val (.ref b12), .val (.ref b15), .val (.int (1 : Int32)), .val (.int (1 : Int32)), .val (.int (1 : Int32)), .unset] [])
      refine Go.st (fun _ => XS.iload X27.here hx rfl (hb hby at_129) rfl) ?_
      show Go p e below s _ _ _ T27 (mkF m 131 #[.val (.long ql), .second, .val (.long qs), .second, .val (.long qo), .second, .val (.int md), .val (.int (1 : Int32)), .val (.ref b12), .val (.ref b15), .val (.int (1 : Int32)), .val (.int (1 : Int32)), .val (.int (1 : Int32)), .unset] [(.int (1 : Int32))])
      refine Go.st (fun _ => XS.iconst X27.here hx rfl (hb hby at_131)) ?_
      show Go p e below s _ _ _ T27 (mkF m 132 #[.val (.long ql), .second, .val (.long qs), .second, .val (.long qo), .second, .val (.int md), .val (.int (1 : Int32)), .val (.ref b12), .val (.ref b15), .val (.int (1 : Int32)), .val (.int (1 : Int32)), .val (.int (1 : Int32)), .unset] [(.int (1 : Int32)), (.int (1 : Int32))])
      refine Go.st (fun _ => XS.icmpNo X27.here hx rfl (hb hby at_132) rfl (teq (by decide : (1 : Int32) = (1 : Int32))).2) ?_
      show Go p e below s _ _ _ T27 (mkF m 135 #[.val (.long ql), .second, .val (.long qs), .second, .val (.long qo), .second, .val (.int md), .val (.int (1 : Int32)), .val (.ref b12), .val (.ref b15), .val (.int (1 : Int32)), .val (.int (1 : Int32)), .val (.int (1 : Int32)), .unset] [])
      refine Go.st (fun _ => XS.iconst X27.here hx rfl (hb hby at_135)) ?_
      show Go p e below s _ _ _ T27 (mkF m 136 #[.val (.long ql), .second, .val (.long qs), .second, .val (.long qo), .second, .val (.int md), .val (.int (1 : Int32)), .val (.ref b12), .val (.ref b15), .val (.int (1 : Int32)), .val (.int (1 : Int32)), .val (.int (1 : Int32)), .unset] [(.int (1 : Int32))])
      refine Go.st (fun _ => XS.istore X27.here hx rfl (hb hby at_136) rfl (l' := #[.val (.long ql), .second, .val (.long qs), .second, .val (.long qo), .second, .val (.int md), .val (.int (1 : Int32)), .val (.ref b12), .val (.ref b15), .val (.int (1 : Int32)), .val (.int (1 : Int32)), .val (.int (1 : Int32)), .val (.int (1 : Int32))]) rfl) ?_
      show Go p e below s _ _ _ T27 (mkF m 138 #[.val (.long ql), .second, .val (.long qs), .second, .val (.long qo), .second, .val (.int md), .val (.int (1 : Int32)), .val (.ref b12), .val (.ref b15), .val (.int (1 : Int32)), .val (.int (1 : Int32)), .val (.int (1 : Int32)), .val (.int (1 : Int32))] [])
      refine Go.st (fun _ => XS.goto X27.here hx rfl (pc0 := 138) (pc' := 154) rfl (hb hby at_138) (by decide) (by decide)) ?_
      show Go p e below s _ _ _ T27 (mkF m 154 #[.val (.long ql), .second, .val (.long qs), .second, .val (.long qo), .second, .val (.int md), .val (.int (1 : Int32)), .val (.ref b12), .val (.ref b15), .val (.int (1 : Int32)), .val (.int (1 : Int32)), .val (.int (1 : Int32)), .val (.int (1 : Int32))] [])
      refine Go.st (fun _ => XS.iload X27.here hx rfl (hb hby at_154) rfl) ?_
      show Go p e below s _ _ _ T27 (mkF m 156 #[.val (.long ql), .second, .val (.long qs), .second, .val (.long qo), .second, .val (.int md), .val (.int (1 : Int32)), .val (.ref b12), .val (.ref b15), .val (.int (1 : Int32)), .val (.int (1 : Int32)), .val (.int (1 : Int32)), .val (.int (1 : Int32))] [(.int (1 : Int32))])
      refine Go.st (fun _ => XS.iload X27.here hx rfl (hb hby at_156) rfl) ?_
      show Go p e below s _ _ _ T27 (mkF m 158 #[.val (.long ql), .second, .val (.long qs), .second, .val (.long qo), .second, .val (.int md), .val (.int (1 : Int32)), .val (.ref b12), .val (.ref b15), .val (.int (1 : Int32)), .val (.int (1 : Int32)), .val (.int (1 : Int32)), .val (.int (1 : Int32))] [(.int (1 : Int32)), (.int (1 : Int32))])
      refine Go.st (fun _ => XS.icmpNo X27.here hx rfl (hb hby at_158) rfl (teq (by decide : (1 : Int32) = (1 : Int32))).2) ?_
      show Go p e below s _ _ _ T27 (mkF m 161 #[.val (.long ql), .second, .val (.long qs), .second, .val (.long qo), .second, .val (.int md), .val (.int (1 : Int32)), .val (.ref b12), .val (.ref b15), .val (.int (1 : Int32)), .val (.int (1 : Int32)), .val (.int (1 : Int32)), .val (.int (1 : Int32))] [])
      refine Go.st (fun _ => XS.iload X27.here hx rfl (hb hby at_161) rfl) ?_
      show Go p e below s _ _ _ T27 (mkF m 163 #[.val (.long ql), .second, .val (.long qs), .second, .val (.long qo), .second, .val (.int md), .val (.int (1 : Int32)), .val (.ref b12), .val (.ref b15), .val (.int (1 : Int32)), .val (.int (1 : Int32)), .val (.int (1 : Int32)), .val (.int (1 : Int32))] [(.int (1 : Int32))])
      refine Go.st (fun _ => XS.iload X27.here hx rfl (hb hby at_163) rfl) ?_
      show Go p e below s _ _ _ T27 (mkF m 165 #[.val (.long ql), .second, .val (.long qs), .second, .val (.long qo), .second, .val (.int md), .val (.int (1 : Int32)), .val (.ref b12), .val (.ref b15), .val (.int (1 : Int32)), .val (.int (1 : Int32)), .val (.int (1 : Int32)), .val (.int (1 : Int32))] [(.int (1 : Int32)), (.int (1 : Int32))])
      refine Go.st (fun _ => XS.icmpNo X27.here hx rfl (hb hby at_165) rfl (teq (by decide : (1 : Int32) = (1 : Int32))).2) ?_
      show Go p e below s _ _ _ T27 (mkF m 168 #[.val (.long ql), .second, .val (.long qs), .second, .val (.long qo), .second, .val (.int md), .val (.int (1 : Int32)), .val (.ref b12), .val (.ref b15), .val (.int (1 : Int32)), .val (.int (1 : Int32)), .val (.int (1 : Int32)), .val (.int (1 : Int32))] [])
      refine Go.st (fun _ => XS.iconst X27.here hx rfl (hb hby at_168)) ?_
      show Go p e below s _ _ _ T27 (mkF m 169 #[.val (.long ql), .second, .val (.long qs), .second, .val (.long qo), .second, .val (.int md), .val (.int (1 : Int32)), .val (.ref b12), .val (.ref b15), .val (.int (1 : Int32)), .val (.int (1 : Int32)), .val (.int (1 : Int32)), .val (.int (1 : Int32))] [(.int (1 : Int32))])
      refine Go.st (fun _ => XS.goto X27.here hx rfl (pc0 := 169) (pc' := 173) rfl (hb hby at_169) (by decide) (by decide)) ?_
      show Go p e below s _ _ _ T27 (mkF m 173 #[.val (.long ql), .second, .val (.long qs), .second, .val (.long qo), .second, .val (.int md), .val (.int (1 : Int32)), .val (.ref b12), .val (.ref b15), .val (.int (1 : Int32)), .val (.int (1 : Int32)), .val (.int (1 : Int32)), .val (.int (1 : Int32))] [(.int (1 : Int32))])
      exact Go.retZ X27 hx hlk Bd.returns (hb hby at_173) rfl (by rw [e27]; exact ⟨rfl, N27⟩) (by decide) (by decide)
  · rw [show (md &&& (3 : Int32)) = (2 : Int32) from hd1]
    show Go p e below s _ _ _ s₁ (mkF m 4 #[.val (.long ql), .second, .val (.long qs), .second, .val (.long qo), .second, .val (.int md), .unset, .unset, .unset, .unset, .unset, .unset, .unset] [(.int (2 : Int32))])
    refine Go.st (fun _ => XS.istore X0.here hx rfl (hb hby at_4) rfl (l' := #[.val (.long ql), .second, .val (.long qs), .second, .val (.long qo), .second, .val (.int md), .val (.int (2 : Int32)), .unset, .unset, .unset, .unset, .unset, .unset]) rfl) ?_
    show Go p e below s _ _ _ s₁ (mkF m 6 #[.val (.long ql), .second, .val (.long qs), .second, .val (.long qo), .second, .val (.int md), .val (.int (2 : Int32)), .unset, .unset, .unset, .unset, .unset, .unset] [])
    obtain ⟨T28, h28, X28, e28, E28, A28, D28, -, st28⟩ := newO X0 hx hZ hown (hw _ (List.mem_of_getElem? (i := 0) rfl)) (hw _ (List.mem_of_getElem? (i := 1) rfl)) (hw _ (List.mem_of_getElem? (i := 2) rfl)) e0 (g := (mkF m 6 #[.val (.long ql), .second, .val (.long qs), .second, .val (.long qo), .second, .val (.int md), .val (.int (2 : Int32)), .unset, .unset, .unset, .unset, .unset, .unset] [])) rfl (hb hby at_6) (by decide) (by decide)
    obtain ⟨b28, g28⟩ : ∃ z, z = h0.size := ⟨_, rfl⟩
    rw [← g28] at A28 D28 st28
    refine Go.st st28 ?_
    have ne_u_b28 : u ≠ b28 := Nat.ne_of_lt (Nat.lt_of_lt_of_eq V_u.lt g28.symm)
    have gg28 : n0 ≤ b28 := Nat.le_trans Z0 (Nat.le_of_eq g28.symm)
    have z28 : n0 ≤ h28.size := Nat.le_trans Z0 E28.1
    have F_modCount_b28 : Fld Z h28 b28 "java/util/AbstractList" "modCount" "I" (.int (0 : Int32)) := D28 (Or.inl (hw _ (List.mem_of_getElem? (i := 22) rfl))) (ty := .int) (by decide)
    have F_elementData_b28 : Fld Z h28 b28 "java/util/ArrayList" "elementData" "[Ljava/lang/Object;" .null := D28 (Or.inl (hw _ (List.mem_of_getElem? (i := 25) rfl))) (ty := (.array (.object "java/lang/Object"))) (by decide)
    have F_size_b28 : Fld Z h28 b28 "java/util/ArrayList" "size" "I" (.int (0 : Int32)) := D28 (Or.inl (hw _ (List.mem_of_getElem? (i := 60) rfl))) (ty := .int) (by decide)
    show Go p e below s _ _ _ T28 (mkF m 9 #[.val (.long ql), .second, .val (.long qs), .second, .val (.long qo), .second, .val (.int md), .val (.int (2 : Int32)), .unset, .unset, .unset, .unset, .unset, .unset] [(.ref b28)])
    refine Go.st (fun _ => XS.dup X28.here hx rfl (hb hby at_9) rfl rfl) ?_
    show Go p e below s _ _ _ T28 (mkF m 10 #[.val (.long ql), .second, .val (.long qs), .second, .val (.long qo), .second, .val (.int md), .val (.int (2 : Int32)), .unset, .unset, .unset, .unset, .unset, .unset] [(.ref b28), (.ref b28)])
    have f30 := (S_DEFAULTCAPACITY_EMPTY_ELEMENTDATA.ext E28)
    obtain ⟨_, _, ⟨T29, L29, kc29, nc29⟩, -, X29, ⟨Lc29, hQ29, l29, y29, z29⟩, st29⟩ := X28.specialBack hx (y := (⟨"java/util/ArrayList", "<init>", "()V"⟩ : MethodName)) rfl hown (mvT hZ (hw _ (List.mem_of_getElem? (i := 3) rfl))) (mvT hZ (hw _ (List.mem_of_getElem? (i := 4) rfl))) (mvT hZ (hw _ (List.mem_of_getElem? (i := 5) rfl))) (by decide) (backOf (W := 1) (rmAl l Z a0 hw [] b28 u h28 n0 z28 A28 F_modCount_b28 F_elementData_b28 F_size_b28 f30 gg28) hZ (hw _ (List.mem_of_getElem? (i := 5) rfl)) (hw _ (List.mem_of_getElem? (i := 2) rfl)) (by decide) (by decide)) (g := (mkF m 10 #[.val (.long ql), .second, .val (.long qs), .second, .val (.long qo), .second, .val (.int md), .val (.int (2 : Int32)), .unset, .unset, .unset, .unset, .unset, .unset] [(.ref b28), (.ref b28)])) rfl (by rw [hml]; rfl) (Steps.refl _) (a := b28) (argsL := []) (rest := [(.ref b28)]) (lenOf pd_0 rfl) rfl (by show 2 * 0 + _ ≤ _; exact Nat.le_of_eq rfl) (hb hby at_10) (fun _ _ => ⟨rfl, e28, (by decide : 1 + 0 ≤ _), (by decide : 3 + 0 ≤ _)⟩)
    dsimp only [Pt.U, Pt.locs, Pt.cells, Pt.slots] at X29 l29 y29 z29 st29 hQ29
    subst l29 y29 z29
    obtain ⟨h29, e29⟩ : ∃ hh, T29.heap = hh := ⟨_, rfl⟩
    rw [e29] at hQ29
    obtain ⟨rfl, N29q, K29, p29_0, p29_1, p29_2, p29_3⟩ := hQ29
    have N29 := Fr.app N0 N29q
    refine Go.st (fun _ kk => st29.trans kk) ?_
    have z29q : n0 ≤ h29.size := Nat.le_trans z28 K29.1
    have ns29 : ∀ x ∈ ([b28] : List Addr), ∀ cell : Cell, h28[x]? = some cell → cell.vm.isStatics = false := (allS A28.nostat all0)
    show Go p e below s _ _ _ T29 (mkF m 13 #[.val (.long ql), .second, .val (.long qs), .second, .val (.long qo), .second, .val (.int md), .val (.int (2 : Int32)), .unset, .unset, .unset, .unset, .unset, .unset] [(.ref b28)])
    refine Go.st (fun _ => XS.astore X29.here hx rfl (hb hby at_13) rfl rfl (l' := #[.val (.long ql), .second, .val (.long qs), .second, .val (.long qo), .second, .val (.int md), .val (.int (2 : Int32)), .val (.ref b28), .unset, .unset, .unset, .unset, .unset]) rfl) ?_
    show Go p e below s _ _ _ T29 (mkF m 15 #[.val (.long ql), .second, .val (.long qs), .second, .val (.long qo), .second, .val (.int md), .val (.int (2 : Int32)), .val (.ref b28), .unset, .unset, .unset, .unset, .unset] [])
    refine Go.st (fun _ => XS.iload X29.here hx rfl (hb hby at_15) rfl) ?_
    show Go p e below s _ _ _ T29 (mkF m 17 #[.val (.long ql), .second, .val (.long qs), .second, .val (.long qo), .second, .val (.int md), .val (.int (2 : Int32)), .val (.ref b28), .unset, .unset, .unset, .unset, .unset] [(.int (2 : Int32))])
    refine Go.st (fun _ => XS.iconst X29.here hx rfl (hb hby at_17)) ?_
    show Go p e below s _ _ _ T29 (mkF m 18 #[.val (.long ql), .second, .val (.long qs), .second, .val (.long qo), .second, .val (.int md), .val (.int (2 : Int32)), .val (.ref b28), .unset, .unset, .unset, .unset, .unset] [(.int (3 : Int32)), (.int (2 : Int32))])
    refine Go.st (fun _ => XS.icmpYes X29.here hx rfl (pc0 := 18) (pc' := 42) rfl (hb hby at_18) rfl (feq (by decide : ¬ ((2 : Int32) = (3 : Int32)))).2 (by decide) (by decide)) ?_
    show Go p e below s _ _ _ T29 (mkF m 42 #[.val (.long ql), .second, .val (.long qs), .second, .val (.long qo), .second, .val (.int md), .val (.int (2 : Int32)), .val (.ref b28), .unset, .unset, .unset, .unset, .unset] [])
    refine Go.st (fun _ => XS.iload X29.here hx rfl (hb hby at_42) rfl) ?_
    show Go p e below s _ _ _ T29 (mkF m 44 #[.val (.long ql), .second, .val (.long qs), .second, .val (.long qo), .second, .val (.int md), .val (.int (2 : Int32)), .val (.ref b28), .unset, .unset, .unset, .unset, .unset] [(.int (2 : Int32))])
    refine Go.st (fun _ => XS.iconst X29.here hx rfl (hb hby at_44)) ?_
    show Go p e below s _ _ _ T29 (mkF m 45 #[.val (.long ql), .second, .val (.long qs), .second, .val (.long qo), .second, .val (.int md), .val (.int (2 : Int32)), .val (.ref b28), .unset, .unset, .unset, .unset, .unset] [(.int (2 : Int32)), (.int (2 : Int32))])
    refine Go.st (fun _ => XS.icmpNo X29.here hx rfl (hb hby at_45) rfl (flt (by decide : ¬ ((2 : Int32) < (2 : Int32)))).1) ?_
    show Go p e below s _ _ _ T29 (mkF m 48 #[.val (.long ql), .second, .val (.long qs), .second, .val (.long qo), .second, .val (.int md), .val (.int (2 : Int32)), .val (.ref b28), .unset, .unset, .unset, .unset, .unset] [])
    refine Go.st (fun _ => XS.aload X29.here hx rfl (hb hby at_48) rfl rfl) ?_
    show Go p e below s _ _ _ T29 (mkF m 50 #[.val (.long ql), .second, .val (.long qs), .second, .val (.long qo), .second, .val (.int md), .val (.int (2 : Int32)), .val (.ref b28), .unset, .unset, .unset, .unset, .unset] [(.ref b28)])
    obtain ⟨T31, h31, X31, e31, E31, A31, D31, -, st31⟩ := newO X29 hx hZ hown (hw _ (List.mem_of_getElem? (i := 26) rfl)) (hw _ (List.mem_of_getElem? (i := 27) rfl)) (hw _ (List.mem_of_getElem? (i := 28) rfl)) e29 (g := (mkF m 50 #[.val (.long ql), .second, .val (.long qs), .second, .val (.long qo), .second, .val (.int md), .val (.int (2 : Int32)), .val (.ref b28), .unset, .unset, .unset, .unset, .unset] [(.ref b28)])) rfl (hb hby at_50) (by decide) (by decide)
    obtain ⟨b31, g31⟩ : ∃ z, z = h29.size := ⟨_, rfl⟩
    rw [← g31] at A31 D31 st31
    refine Go.st st31 ?_
    have f32 := ((V_u.ext E28).keep K29 (ninS ne_u_b28 nin0))
    have ne_u_b31 : u ≠ b31 := Nat.ne_of_lt (Nat.lt_of_lt_of_eq f32.lt g31.symm)
    have ne_b28_b31 : b28 ≠ b31 := Nat.ne_of_lt (Nat.lt_of_lt_of_eq p29_0.lt g31.symm)
    have gg31 : n0 ≤ b31 := Nat.le_trans z29q (Nat.le_of_eq g31.symm)
    have z31 : n0 ≤ h31.size := Nat.le_trans z29q E31.1
    have F_sequence_b31 : Fld Z h31 b31 "com/example/plaingrant/plaingrant/store/AuditEntry" "sequence" "J" (.long (0 : Int64)) := D31 (Or.inr (hw _ (List.mem_of_getElem? (i := 39) rfl))) (ty := .long) (by decide)
    have F_time_b31 : Fld Z h31 b31 "com/example/plaingrant/plaingrant/store/AuditEntry" "time" "Ljava/lang/String;" .null := D31 (Or.inr (hw _ (List.mem_of_getElem? (i := 41) rfl))) (ty := (.object "java/lang/String")) (by decide)
    have F_actor_b31 : Fld Z h31 b31 "com/example/plaingrant/plaingrant/store/AuditEntry" "actor" "Ljava/lang/String;" .null := D31 (Or.inr (hw _ (List.mem_of_getElem? (i := 43) rfl))) (ty := (.object "java/lang/String")) (by decide)
    have F_required_b31 : Fld Z h31 b31 "com/example/plaingrant/plaingrant/store/AuditEntry" "required" "Ljava/lang/String;" .null := D31 (Or.inr (hw _ (List.mem_of_getElem? (i := 45) rfl))) (ty := (.object "java/lang/String")) (by decide)
    have F_change_b31 : Fld Z h31 b31 "com/example/plaingrant/plaingrant/store/AuditEntry" "change" "Ljava/lang/String;" .null := D31 (Or.inr (hw _ (List.mem_of_getElem? (i := 47) rfl))) (ty := (.object "java/lang/String")) (by decide)
    have F_outcome_b31 : Fld Z h31 b31 "com/example/plaingrant/plaingrant/store/AuditEntry" "outcome" "Lcom/example/plaingrant/plaingrant/store/AuditEntry$Outcome;" .null := D31 (Or.inr (hw _ (List.mem_of_getElem? (i := 49) rfl))) (ty := (.object "com/example/plaingrant/plaingrant/store/AuditEntry$Outcome")) (by decide)
    have F_hash_b31 : Fld Z h31 b31 "com/example/plaingrant/plaingrant/store/AuditEntry" "hash" "Ljava/lang/String;" .null := D31 (Or.inr (hw _ (List.mem_of_getElem? (i := 51) rfl))) (ty := (.object "java/lang/String")) (by decide)
    show Go p e below s _ _ _ T31 (mkF m 53 #[.val (.long ql), .second, .val (.long qs), .second, .val (.long qo), .second, .val (.int md), .val (.int (2 : Int32)), .val (.ref b28), .unset, .unset, .unset, .unset, .unset] [(.ref b31), (.ref b28)])
    refine Go.st (fun _ => XS.dup X31.here hx rfl (hb hby at_53) rfl rfl) ?_
    show Go p e below s _ _ _ T31 (mkF m 54 #[.val (.long ql), .second, .val (.long qs), .second, .val (.long qo), .second, .val (.int md), .val (.int (2 : Int32)), .val (.ref b28), .unset, .unset, .unset, .unset, .unset] [(.ref b31), (.ref b31), (.ref b28)])
    refine Go.st (fun _ => XS.lloadN X31.here hx rfl (hb hby at_54) rfl) ?_
    show Go p e below s _ _ _ T31 (mkF m 55 #[.val (.long ql), .second, .val (.long qs), .second, .val (.long qo), .second, .val (.int md), .val (.int (2 : Int32)), .val (.ref b28), .unset, .unset, .unset, .unset, .unset] [(.long qs), (.ref b31), (.ref b31), (.ref b28)])
    refine Go.st (fun _ => XS.aconstNull X31.here hx rfl (hb hby at_55)) ?_
    show Go p e below s _ _ _ T31 (mkF m 56 #[.val (.long ql), .second, .val (.long qs), .second, .val (.long qo), .second, .val (.int md), .val (.int (2 : Int32)), .val (.ref b28), .unset, .unset, .unset, .unset, .unset] [.null, (.long qs), (.ref b31), (.ref b31), (.ref b28)])
    refine Go.st (fun _ => XS.aconstNull X31.here hx rfl (hb hby at_56)) ?_
    show Go p e below s _ _ _ T31 (mkF m 57 #[.val (.long ql), .second, .val (.long qs), .second, .val (.long qo), .second, .val (.int md), .val (.int (2 : Int32)), .val (.ref b28), .unset, .unset, .unset, .unset, .unset] [.null, .null, (.long qs), (.ref b31), (.ref b31), (.ref b28)])
    refine Go.st (fun _ => XS.aconstNull X31.here hx rfl (hb hby at_57)) ?_
    show Go p e below s _ _ _ T31 (mkF m 58 #[.val (.long ql), .second, .val (.long qs), .second, .val (.long qo), .second, .val (.int md), .val (.int (2 : Int32)), .val (.ref b28), .unset, .unset, .unset, .unset, .unset] [.null, .null, .null, (.long qs), (.ref b31), (.ref b31), (.ref b28)])
    refine Go.st (fun _ => XS.aconstNull X31.here hx rfl (hb hby at_58)) ?_
    show Go p e below s _ _ _ T31 (mkF m 59 #[.val (.long ql), .second, .val (.long qs), .second, .val (.long qo), .second, .val (.int md), .val (.int (2 : Int32)), .val (.ref b28), .unset, .unset, .unset, .unset, .unset] [.null, .null, .null, .null, (.long qs), (.ref b31), (.ref b31), (.ref b28)])
    refine Go.st (fun _ => XS.aconstNull X31.here hx rfl (hb hby at_59)) ?_
    show Go p e below s _ _ _ T31 (mkF m 60 #[.val (.long ql), .second, .val (.long qs), .second, .val (.long qo), .second, .val (.int md), .val (.int (2 : Int32)), .val (.ref b28), .unset, .unset, .unset, .unset, .unset] [.null, .null, .null, .null, .null, (.long qs), (.ref b31), (.ref b31), (.ref b28)])
    refine Go.st (fun _ => XS.aconstNull X31.here hx rfl (hb hby at_60)) ?_
    show Go p e below s _ _ _ T31 (mkF m 61 #[.val (.long ql), .second, .val (.long qs), .second, .val (.long qo), .second, .val (.int md), .val (.int (2 : Int32)), .val (.ref b28), .unset, .unset, .unset, .unset, .unset] [.null, .null, .null, .null, .null, .null, (.long qs), (.ref b31), (.ref b31), (.ref b28)])
    obtain ⟨_, _, ⟨T33, L33, kc33, nc33⟩, -, X33, ⟨Lc33, hQ33, l33, y33, z33⟩, st33⟩ := X31.specialBack hx (y := (⟨"com/example/plaingrant/plaingrant/store/AuditEntry", "<init>", "(JLjava/lang/String;Ljava/lang/String;Ljava/lang/String;Ljava/lang/String;Lcom/example/plaingrant/plaingrant/store/AuditEntry$Outcome;Ljava/lang/String;)V"⟩ : MethodName)) rfl hown (mvT hZ (hw _ (List.mem_of_getElem? (i := 29) rfl))) (mvT hZ (hw _ (List.mem_of_getElem? (i := 30) rfl))) (mvT hZ (hw _ (List.mem_of_getElem? (i := 31) rfl))) (by decide) (backOf (W := 2) (rmEn l Z a0 hw [] b31 qs h31 n0 z31 A31 F_sequence_b31 F_time_b31 F_actor_b31 F_required_b31 F_change_b31 F_outcome_b31 F_hash_b31 gg31) hZ (hw _ (List.mem_of_getElem? (i := 31) rfl)) (hw _ (List.mem_of_getElem? (i := 28) rfl)) (by decide) (by decide)) (g := (mkF m 61 #[.val (.long ql), .second, .val (.long qs), .second, .val (.long qo), .second, .val (.int md), .val (.int (2 : Int32)), .val (.ref b28), .unset, .unset, .unset, .unset, .unset] [.null, .null, .null, .null, .null, .null, (.long qs), (.ref b31), (.ref b31), (.ref b28)])) rfl (by rw [hml]; rfl) (Steps.refl _) (a := b31) (argsL := [(.long qs), .null, .null, .null, .null, .null, .null]) (rest := [(.ref b31), (.ref b28)]) (lenOf pd_12 rfl) rfl (by show 2 * 0 + _ ≤ _; exact Nat.le_of_eq rfl) (hb hby at_61) (fun _ _ => ⟨rfl, e31, (by decide : 2 + 0 ≤ _), (by decide : 10 + 0 ≤ _)⟩)
    dsimp only [Pt.U, Pt.locs, Pt.cells, Pt.slots] at X33 l33 y33 z33 st33 hQ33
    subst l33 y33 z33
    obtain ⟨h33, e33⟩ : ∃ hh, T33.heap = hh := ⟨_, rfl⟩
    rw [e33] at hQ33
    obtain ⟨rfl, N33q, K33, p33_0, p33_1⟩ := hQ33
    have N33 := Fr.app N29 N33q
    refine Go.st (fun _ kk => st33.trans kk) ?_
    have z33q : n0 ≤ h33.size := Nat.le_trans z31 K33.1
    have ns33 : ∀ x ∈ ([b31] : List Addr), ∀ cell : Cell, h31[x]? = some cell → cell.vm.isStatics = false := (allS A31.nostat all0)
    show Go p e below s _ _ _ T33 (mkF m 64 #[.val (.long ql), .second, .val (.long qs), .second, .val (.long qo), .second, .val (.int md), .val (.int (2 : Int32)), .val (.ref b28), .unset, .unset, .unset, .unset, .unset] [(.ref b31), (.ref b28)])
    have f35 := ((p29_0.ext E31).keep K33)
    have f36 := ((p29_1.ext E31).keep K33 (ninS ne_b28_b31 nin0))
    have f37 := ((p29_3.ext E31).keep K33 (ninS ne_b28_b31 nin0))
    have f38 := ((p29_2.ext E31).keep K33 (ninS ne_b28_b31 nin0))
    have f39 := (own_sta_keep ((own_sta_keep f30 K29 ns29).ext E31) K33 ns33)
    have f40 := ((f32.ext E31).keep K33 (ninS ne_u_b31 nin0))
    obtain ⟨cq34, kq34, q34a, q34b, q34c⟩ := isOf hZ e33 f35
    obtain ⟨_, _, ⟨T34, L34, kc34, nc34⟩, -, X34, ⟨Lc34, hQ34, l34, y34, z34⟩, st34⟩ := X33.virtualBack hx (y := (⟨"java/util/ArrayList", "add", "(Ljava/lang/Object;)Z"⟩ : MethodName)) (z := (⟨"java/util/ArrayList", "add", "(Ljava/lang/Object;)Z"⟩ : MethodName)) hown (mvT hZ (hw _ (List.mem_of_getElem? (i := 52) rfl))) (mvT hZ (hw _ (List.mem_of_getElem? (i := 53) rfl))) (notFace_of_selects (args := #[]) (mvT hZ (hw _ (List.mem_of_getElem? (i := 55) rfl)))) (mvT hZ (hw _ (List.mem_of_getElem? (i := 55) rfl))) (mvT hZ (hw _ (List.mem_of_getElem? (i := 54) rfl))) (by decide) (backOf (W := 0) (rmAa l Z a0 hw [] b28 b31 u ku (0 : Int32) h33 n0 z33q f35 f36 f37 f38 f39 f40 gg28 ne_u_b28 p33_0) hZ (hw _ (List.mem_of_getElem? (i := 56) rfl)) (hw _ (List.mem_of_getElem? (i := 2) rfl)) (by decide) (by decide)) q34a q34c (g := (mkF m 64 #[.val (.long ql), .second, .val (.long qs), .second, .val (.long qo), .second, .val (.int md), .val (.int (2 : Int32)), .val (.ref b28), .unset, .unset, .unset, .unset, .unset] [(.ref b31), (.ref b28)])) rfl (by rw [hml]; rfl) (Steps.refl _) (argsL := [(.ref b31)]) (rest := []) (lenOf pd_13 rfl) rfl (by show 2 * 0 + _ ≤ _; exact Nat.le_of_eq rfl) (hb hby at_64) (fun _ _ => ⟨rfl, e33, (by decide : 2 + 1 ≤ _), (by decide : 10 + 10 ≤ _)⟩)
    dsimp only [Pt.U, Pt.locs, Pt.cells, Pt.slots] at X34 l34 y34 z34 st34 hQ34
    subst l34 y34 z34
    obtain ⟨h34, e34⟩ : ∃ hh, T34.heap = hh := ⟨_, rfl⟩
    rw [e34] at hQ34
    obtain ⟨t_34, kt_34, rfl, N34q, K34, p34_0, p34_1, p34_2, p34_3, p34_4, p34_5, p34_6, p34_7⟩ := hQ34
    have N34 := Fr.app N33 N34q
    refine Go.st (fun _ kk => st34.trans kk) ?_
    have ne_u_t_34 : u ≠ t_34 := Nat.ne_of_lt (Nat.lt_of_lt_of_le f40.lt p34_0)
    have ne_b28_t_34 : b28 ≠ t_34 := Nat.ne_of_lt (Nat.lt_of_lt_of_le f35.lt p34_0)
    have ne_b31_t_34 : b31 ≠ t_34 := Nat.ne_of_lt (Nat.lt_of_lt_of_le p33_0.lt p34_0)
    have z34q : n0 ≤ h34.size := Nat.le_trans z33q K34.1
    have ns34 : ∀ x ∈ ([b28] : List Addr), ∀ cell : Cell, h33[x]? = some cell → cell.vm.isStatics = false := (allS f35.nostat all0)
    rw [show ((0 : Int32) + (1 : Int32)) = (1 : Int32) from by decide] at p34_3
    show Go p e below s _ _ _ T34 (mkF m 67 #[.val (.long ql), .second, .val (.long qs), .second, .val (.long qo), .second, .val (.int md), .val (.int (2 : Int32)), .val (.ref b28), .unset, .unset, .unset, .unset, .unset] [(.int (1 : Int32))])
    refine Go.st (fun _ => XS.pop X34.here hx rfl (hb hby at_67) rfl rfl) ?_
    show Go p e below s _ _ _ T34 (mkF m 68 #[.val (.long ql), .second, .val (.long qs), .second, .val (.long qo), .second, .val (.int md), .val (.int (2 : Int32)), .val (.ref b28), .unset, .unset, .unset, .unset, .unset] [])
    obtain ⟨T41, h41, X41, e41, E41, A41, D41, -, st41⟩ := newO X34 hx hZ hown (hw _ (List.mem_of_getElem? (i := 83) rfl)) (hw _ (List.mem_of_getElem? (i := 84) rfl)) (hw _ (List.mem_of_getElem? (i := 85) rfl)) e34 (g := (mkF m 68 #[.val (.long ql), .second, .val (.long qs), .second, .val (.long qo), .second, .val (.int md), .val (.int (2 : Int32)), .val (.ref b28), .unset, .unset, .unset, .unset, .unset] [])) rfl (hb hby at_68) (by decide) (by decide)
    obtain ⟨b41, g41⟩ : ∃ z, z = h34.size := ⟨_, rfl⟩
    rw [← g41] at A41 D41 st41
    refine Go.st st41 ?_
    have f42 := (f40.keep K34 (ninS ne_u_b28 nin0))
    have ne_u_b41 : u ≠ b41 := Nat.ne_of_lt (Nat.lt_of_lt_of_eq f42.lt g41.symm)
    have ne_b28_b41 : b28 ≠ b41 := Nat.ne_of_lt (Nat.lt_of_lt_of_eq p34_2.lt g41.symm)
    have f43 := (p33_0.keep K34)
    have ne_b31_b41 : b31 ≠ b41 := Nat.ne_of_lt (Nat.lt_of_lt_of_eq f43.lt g41.symm)
    have ne_t_34_b41 : t_34 ≠ b41 := Nat.ne_of_lt (Nat.lt_of_lt_of_eq p34_6.lt g41.symm)
    have gg41 : n0 ≤ b41 := Nat.le_trans z34q (Nat.le_of_eq g41.symm)
    have z41 : n0 ≤ h41.size := Nat.le_trans z34q E41.1
    have F_mLast_b41 : Fld Z h41 b41 "com/example/plaingrant/plaingrant/store/AuditPages" "mLast" "J" (.long (0 : Int64)) := D41 (Or.inr (hw _ (List.mem_of_getElem? (i := 91) rfl))) (ty := .long) (by decide)
    have F_mGiven_b41 : Fld Z h41 b41 "com/example/plaingrant/plaingrant/store/AuditPages" "mGiven" "J" (.long (0 : Int64)) := D41 (Or.inl (hw _ (List.mem_of_getElem? (i := 98) rfl))) (ty := .long) (by decide)
    show Go p e below s _ _ _ T41 (mkF m 71 #[.val (.long ql), .second, .val (.long qs), .second, .val (.long qo), .second, .val (.int md), .val (.int (2 : Int32)), .val (.ref b28), .unset, .unset, .unset, .unset, .unset] [(.ref b41)])
    refine Go.st (fun _ => XS.dup X41.here hx rfl (hb hby at_71) rfl rfl) ?_
    show Go p e below s _ _ _ T41 (mkF m 72 #[.val (.long ql), .second, .val (.long qs), .second, .val (.long qo), .second, .val (.int md), .val (.int (2 : Int32)), .val (.ref b28), .unset, .unset, .unset, .unset, .unset] [(.ref b41), (.ref b41)])
    refine Go.st (fun _ => XS.lloadN X41.here hx rfl (hb hby at_72) rfl) ?_
    show Go p e below s _ _ _ T41 (mkF m 73 #[.val (.long ql), .second, .val (.long qs), .second, .val (.long qo), .second, .val (.int md), .val (.int (2 : Int32)), .val (.ref b28), .unset, .unset, .unset, .unset, .unset] [(.long ql), (.ref b41), (.ref b41)])
    obtain ⟨_, _, ⟨T44, L44, kc44, nc44⟩, -, X44, ⟨Lc44, hQ44, l44, y44, z44⟩, st44⟩ := X41.specialBack hx (y := (⟨"com/example/plaingrant/plaingrant/store/AuditPages", "<init>", "(J)V"⟩ : MethodName)) rfl hown (mvT hZ (hw _ (List.mem_of_getElem? (i := 86) rfl))) (mvT hZ (hw _ (List.mem_of_getElem? (i := 87) rfl))) (mvT hZ (hw _ (List.mem_of_getElem? (i := 88) rfl))) (by decide) (backOf (W := 1) (rmPi l Z a0 hw [] b41 ql h41 n0 z41 A41 F_mLast_b41 F_mGiven_b41 gg41) hZ (hw _ (List.mem_of_getElem? (i := 88) rfl)) (hw _ (List.mem_of_getElem? (i := 85) rfl)) (by decide) (by decide)) (g := (mkF m 73 #[.val (.long ql), .second, .val (.long qs), .second, .val (.long qo), .second, .val (.int md), .val (.int (2 : Int32)), .val (.ref b28), .unset, .unset, .unset, .unset, .unset] [(.long ql), (.ref b41), (.ref b41)])) rfl (by rw [hml]; rfl) (Steps.refl _) (a := b41) (argsL := [(.long ql)]) (rest := [(.ref b41)]) (lenOf pd_10 rfl) rfl (by show 2 * 0 + _ ≤ _; exact Nat.le_of_eq rfl) (hb hby at_73) (fun _ _ => ⟨rfl, e41, (by decide : 4 + 0 ≤ _), (by decide : 22 + 0 ≤ _)⟩)
    dsimp only [Pt.U, Pt.locs, Pt.cells, Pt.slots] at X44 l44 y44 z44 st44 hQ44
    subst l44 y44 z44
    obtain ⟨h44, e44⟩ : ∃ hh, T44.heap = hh := ⟨_, rfl⟩
    rw [e44] at hQ44
    obtain ⟨rfl, N44q, K44, p44_0, p44_1, p44_2⟩ := hQ44
    have N44 := Fr.app N34 N44q
    refine Go.st (fun _ kk => st44.trans kk) ?_
    have z44q : n0 ≤ h44.size := Nat.le_trans z41 K44.1
    have ns44 : ∀ x ∈ ([b41] : List Addr), ∀ cell : Cell, h41[x]? = some cell → cell.vm.isStatics = false := (allS A41.nostat all0)
    show Go p e below s _ _ _ T44 (mkF m 76 #[.val (.long ql), .second, .val (.long qs), .second, .val (.long qo), .second, .val (.int md), .val (.int (2 : Int32)), .val (.ref b28), .unset, .unset, .unset, .unset, .unset] [(.ref b41)])
    refine Go.st (fun _ => XS.astore X44.here hx rfl (hb hby at_76) rfl rfl (l' := #[.val (.long ql), .second, .val (.long qs), .second, .val (.long qo), .second, .val (.int md), .val (.int (2 : Int32)), .val (.ref b28), .val (.ref b41), .unset, .unset, .unset, .unset]) rfl) ?_
    show Go p e below s _ _ _ T44 (mkF m 78 #[.val (.long ql), .second, .val (.long qs), .second, .val (.long qo), .second, .val (.int md), .val (.int (2 : Int32)), .val (.ref b28), .val (.ref b41), .unset, .unset, .unset, .unset] [])
    refine Go.st (fun _ => XS.aload X44.here hx rfl (hb hby at_78) rfl rfl) ?_
    show Go p e below s _ _ _ T44 (mkF m 80 #[.val (.long ql), .second, .val (.long qs), .second, .val (.long qo), .second, .val (.int md), .val (.int (2 : Int32)), .val (.ref b28), .val (.ref b41), .unset, .unset, .unset, .unset] [(.ref b41)])
    obtain ⟨cq45, kq45, q45a, q45b, q45c⟩ := isOf hZ e44 p44_0
    obtain ⟨_, _, ⟨T45, L45, kc45, nc45⟩, -, X45, ⟨Lc45, hQ45, l45, y45, z45⟩, st45⟩ := X44.virtualBack hx (y := (⟨"com/example/plaingrant/plaingrant/store/AuditPages", "isDone", "()Z"⟩ : MethodName)) (z := (⟨"com/example/plaingrant/plaingrant/store/AuditPages", "isDone", "()Z"⟩ : MethodName)) hown (mvT hZ (hw _ (List.mem_of_getElem? (i := 92) rfl))) (mvT hZ (hw _ (List.mem_of_getElem? (i := 93) rfl))) (notFace_of_selects (args := #[]) (mvT hZ (hw _ (List.mem_of_getElem? (i := 95) rfl)))) (mvT hZ (hw _ (List.mem_of_getElem? (i := 95) rfl))) (mvT hZ (hw _ (List.mem_of_getElem? (i := 94) rfl))) (by decide) (backOf (W := 0) (rmDo l Z a0 hw [] b41 ql (0 : Int64) h44 n0 z44q p44_1 p44_2) hZ (hw _ (List.mem_of_getElem? (i := 96) rfl)) (hw _ (List.mem_of_getElem? (i := 85) rfl)) (by decide) (by decide)) q45a q45c (g := (mkF m 80 #[.val (.long ql), .second, .val (.long qs), .second, .val (.long qo), .second, .val (.int md), .val (.int (2 : Int32)), .val (.ref b28), .val (.ref b41), .unset, .unset, .unset, .unset] [(.ref b41)])) rfl (by rw [hml]; rfl) (Steps.refl _) (argsL := []) (rest := []) (lenOf pd_7 rfl) rfl (by show 2 * 0 + _ ≤ _; exact Nat.le_of_eq rfl) (hb hby at_80) (fun _ _ => ⟨rfl, e44, (by decide : 4 + 0 ≤ _), (by decide : 22 + 0 ≤ _)⟩)
    dsimp only [Pt.U, Pt.locs, Pt.cells, Pt.slots] at X45 l45 y45 z45 st45 hQ45
    subst l45 y45 z45
    obtain ⟨h45, e45⟩ : ∃ hh, T45.heap = hh := ⟨_, rfl⟩
    rw [e45] at hQ45
    obtain ⟨rfl, N45q, sm45⟩ := hQ45
    have N45 := Fr.app N44 N45q
    refine Go.st (fun _ kk => st45.trans kk) ?_
    rw [sm45] at e45
    show Go p e below s _ _ _ T45 (mkF m 83 #[.val (.long ql), .second, .val (.long qs), .second, .val (.long qo), .second, .val (.int md), .val (.int (2 : Int32)), .val (.ref b28), .val (.ref b41), .unset, .unset, .unset, .unset] [(.int (b2i (¬ ((0 : Int64) < ql))))])
    by_cases hc46 : (0 : Int64) < ql
    · rw [show (b2i (¬ ((0 : Int64) < ql))) = (0 : Int32) from b2i_neg (not_not_intro hc46)]
      show Go p e below s _ _ _ T45 (mkF m 83 #[.val (.long ql), .second, .val (.long qs), .second, .val (.long qo), .second, .val (.int md), .val (.int (2 : Int32)), .val (.ref b28), .val (.ref b41), .unset, .unset, .unset, .unset] [(.int (0 : Int32))])
      refine Go.st (fun _ => XS.istore X45.here hx rfl (hb hby at_83) rfl (l' := #[.val (.long ql), .second, .val (.long qs), .second, .val (.long qo), .second, .val (.int md), .val (.int (2 : Int32)), .val (.ref b28), .val (.ref b41), .val (.int (0 : Int32)), .unset, .unset, .unset]) rfl) ?_
      show Go p e below s _ _ _ T45 (mkF m 85 #[.val (.long ql), .second, .val (.long qs), .second, .val (.long qo), .second, .val (.int md), .val (.int (2 : Int32)), .val (.ref b28), .val (.ref b41), .val (.int (0 : Int32)), .unset, .unset, .unset] [])
      refine Go.st (fun _ => XS.iload X45.here hx rfl (hb hby at_85) rfl) ?_
      show Go p e below s _ _ _ T45 (mkF m 87 #[.val (.long ql), .second, .val (.long qs), .second, .val (.long qo), .second, .val (.int md), .val (.int (2 : Int32)), .val (.ref b28), .val (.ref b41), .val (.int (0 : Int32)), .unset, .unset, .unset] [(.int (2 : Int32))])
      refine Go.st (fun _ => XS.ifNo X45.here hx rfl (hb hby at_87) rfl ((if0 _ _).trans (feq (by decide : ¬ ((2 : Int32) = (0 : Int32)))).1)) ?_
      show Go p e below s _ _ _ T45 (mkF m 90 #[.val (.long ql), .second, .val (.long qs), .second, .val (.long qo), .second, .val (.int md), .val (.int (2 : Int32)), .val (.ref b28), .val (.ref b41), .val (.int (0 : Int32)), .unset, .unset, .unset] [])
      refine Go.st (fun _ => XS.aload X45.here hx rfl (hb hby at_90) rfl rfl) ?_
      show Go p e below s _ _ _ T45 (mkF m 92 #[.val (.long ql), .second, .val (.long qs), .second, .val (.long qo), .second, .val (.int md), .val (.int (2 : Int32)), .val (.ref b28), .val (.ref b41), .val (.int (0 : Int32)), .unset, .unset, .unset] [(.ref b41)])
      refine Go.st (fun _ => XS.aload X45.here hx rfl (hb hby at_92) rfl rfl) ?_
      show Go p e below s _ _ _ T45 (mkF m 94 #[.val (.long ql), .second, .val (.long qs), .second, .val (.long qo), .second, .val (.int md), .val (.int (2 : Int32)), .val (.ref b28), .val (.ref b41), .val (.int (0 : Int32)), .unset, .unset, .unset] [(.ref b28), (.ref b41)])
      have f48 := ((p34_2.ext E41).keep K44)
      have f49 := ((p34_4.ext E41).keep K44 (ninS ne_b28_b41 nin0))
      have f50 := ((p34_5.ext E41).keep K44 (ninS ne_b28_b41 nin0))
      have f51 := ((p34_6.ext E41).keep K44 (ninS ne_t_34_b41 nin0))
      have f52 := ((f43.ext E41).keep K44)
      have f53 := (((p33_1.keep K34 (ninS (Ne.symm ne_b28_b31) nin0)).ext E41).keep K44 (ninS ne_b31_b41 nin0))
      obtain ⟨cq47, kq47, q47a, q47b, q47c⟩ := isOf hZ e45 p44_0
      obtain ⟨_, _, ⟨T47, L47, kc47, nc47⟩, -, X47, ⟨Lc47, hQ47, l47, y47, z47⟩, st47⟩ := X45.virtualBack hx (y := (⟨"com/example/plaingrant/plaingrant/store/AuditPages", "gave", "(Ljava/util/List;)V"⟩ : MethodName)) (z := (⟨"com/example/plaingrant/plaingrant/store/AuditPages", "gave", "(Ljava/util/List;)V"⟩ : MethodName)) hown (mvT hZ (hw _ (List.mem_of_getElem? (i := 99) rfl))) (mvT hZ (hw _ (List.mem_of_getElem? (i := 100) rfl))) (notFace_of_selects (args := #[]) (mvT hZ (hw _ (List.mem_of_getElem? (i := 102) rfl)))) (mvT hZ (hw _ (List.mem_of_getElem? (i := 102) rfl))) (mvT hZ (hw _ (List.mem_of_getElem? (i := 101) rfl))) (by decide) (backOf (W := 0) (rmV1 l Z a0 hw [] b41 b28 ql (0 : Int64) t_34 kt_34 b31 qs h44 n0 z44q p44_0 p44_1 p44_2 f48 f49 f50 f51 f52 f53 gg41 ne_b28_b41 ne_b31_b41 ne_t_34_b41) hZ (hw _ (List.mem_of_getElem? (i := 103) rfl)) (hw _ (List.mem_of_getElem? (i := 85) rfl)) (by decide) (by decide)) q47a q47c (g := (mkF m 94 #[.val (.long ql), .second, .val (.long qs), .second, .val (.long qo), .second, .val (.int md), .val (.int (2 : Int32)), .val (.ref b28), .val (.ref b41), .val (.int (0 : Int32)), .unset, .unset, .unset] [(.ref b28), (.ref b41)])) rfl (by rw [hml]; rfl) (Steps.refl _) (argsL := [(.ref b28)]) (rest := []) (lenOf pd_11 rfl) rfl (by show 2 * 0 + _ ≤ _; exact Nat.le_of_eq rfl) (hb hby at_94) (fun _ _ => ⟨rfl, e45, (by decide : 4 + 0 ≤ _), (by decide : 22 + 0 ≤ _)⟩)
      dsimp only [Pt.U, Pt.locs, Pt.cells, Pt.slots] at X47 l47 y47 z47 st47 hQ47
      subst l47 y47 z47
      obtain ⟨h47, e47⟩ : ∃ hh, T47.heap = hh := ⟨_, rfl⟩
      rw [e47] at hQ47
      obtain ⟨rfl, N47q, K47, p47_0, p47_1, p47_2⟩ := hQ47
      have N47 := Fr.app N45 N47q
      refine Go.st (fun _ kk => st47.trans kk) ?_
      have z47q : n0 ≤ h47.size := Nat.le_trans z44q K47.1
      have ns47 : ∀ x ∈ ([b41] : List Addr), ∀ cell : Cell, h44[x]? = some cell → cell.vm.isStatics = false := (allS p44_0.nostat all0)
      show Go p e below s _ _ _ T47 (mkF m 97 #[.val (.long ql), .second, .val (.long qs), .second, .val (.long qo), .second, .val (.int md), .val (.int (2 : Int32)), .val (.ref b28), .val (.ref b41), .val (.int (0 : Int32)), .unset, .unset, .unset] [])
      refine Go.st (fun _ => XS.aload X47.here hx rfl (hb hby at_97) rfl rfl) ?_
      show Go p e below s _ _ _ T47 (mkF m 99 #[.val (.long ql), .second, .val (.long qs), .second, .val (.long qo), .second, .val (.int md), .val (.int (2 : Int32)), .val (.ref b28), .val (.ref b41), .val (.int (0 : Int32)), .unset, .unset, .unset] [(.ref b41)])
      obtain ⟨cq54, kq54, q54a, q54b, q54c⟩ := isOf hZ e47 p47_0
      obtain ⟨_, _, ⟨T54, L54, kc54, nc54⟩, -, X54, ⟨Lc54, hQ54, l54, y54, z54⟩, st54⟩ := X47.virtualBack hx (y := (⟨"com/example/plaingrant/plaingrant/store/AuditPages", "isDone", "()Z"⟩ : MethodName)) (z := (⟨"com/example/plaingrant/plaingrant/store/AuditPages", "isDone", "()Z"⟩ : MethodName)) hown (mvT hZ (hw _ (List.mem_of_getElem? (i := 92) rfl))) (mvT hZ (hw _ (List.mem_of_getElem? (i := 93) rfl))) (notFace_of_selects (args := #[]) (mvT hZ (hw _ (List.mem_of_getElem? (i := 95) rfl)))) (mvT hZ (hw _ (List.mem_of_getElem? (i := 95) rfl))) (mvT hZ (hw _ (List.mem_of_getElem? (i := 94) rfl))) (by decide) (backOf (W := 0) (rmDo l Z a0 hw [] b41 ql qs h47 n0 z47q p47_1 p47_2) hZ (hw _ (List.mem_of_getElem? (i := 96) rfl)) (hw _ (List.mem_of_getElem? (i := 85) rfl)) (by decide) (by decide)) q54a q54c (g := (mkF m 99 #[.val (.long ql), .second, .val (.long qs), .second, .val (.long qo), .second, .val (.int md), .val (.int (2 : Int32)), .val (.ref b28), .val (.ref b41), .val (.int (0 : Int32)), .unset, .unset, .unset] [(.ref b41)])) rfl (by rw [hml]; rfl) (Steps.refl _) (argsL := []) (rest := []) (lenOf pd_7 rfl) rfl (by show 2 * 0 + _ ≤ _; exact Nat.le_of_eq rfl) (hb hby at_99) (fun _ _ => ⟨rfl, e47, (by decide : 4 + 0 ≤ _), (by decide : 22 + 0 ≤ _)⟩)
      dsimp only [Pt.U, Pt.locs, Pt.cells, Pt.slots] at X54 l54 y54 z54 st54 hQ54
      subst l54 y54 z54
      obtain ⟨h54, e54⟩ : ∃ hh, T54.heap = hh := ⟨_, rfl⟩
      rw [e54] at hQ54
      obtain ⟨rfl, N54q, sm54⟩ := hQ54
      have N54 := Fr.app N47 N54q
      refine Go.st (fun _ kk => st54.trans kk) ?_
      rw [sm54] at e54
      show Go p e below s _ _ _ T54 (mkF m 102 #[.val (.long ql), .second, .val (.long qs), .second, .val (.long qo), .second, .val (.int md), .val (.int (2 : Int32)), .val (.ref b28), .val (.ref b41), .val (.int (0 : Int32)), .unset, .unset, .unset] [(.int (b2i (¬ (qs < ql))))])
      by_cases hc55 : qs < ql
      · rw [show (b2i (¬ (qs < ql))) = (0 : Int32) from b2i_neg (not_not_intro hc55)]
        show Go p e below s _ _ _ T54 (mkF m 102 #[.val (.long ql), .second, .val (.long qs), .second, .val (.long qo), .second, .val (.int md), .val (.int (2 : Int32)), .val (.ref b28), .val (.ref b41), .val (.int (0 : Int32)), .unset, .unset, .unset] [(.int (0 : Int32))])
        refine Go.st (fun _ => XS.istore X54.here hx rfl (hb hby at_102) rfl (l' := #[.val (.long ql), .second, .val (.long qs), .second, .val (.long qo), .second, .val (.int md), .val (.int (2 : Int32)), .val (.ref b28), .val (.ref b41), .val (.int (0 : Int32)), .val (.int (0 : Int32)), .unset, .unset]) rfl) ?_
        show Go p e below s _ _ _ T54 (mkF m 104 #[.val (.long ql), .second, .val (.long qs), .second, .val (.long qo), .second, .val (.int md), .val (.int (2 : Int32)), .val (.ref b28), .val (.ref b41), .val (.int (0 : Int32)), .val (.int (0 : Int32)), .unset, .unset] [])
        refine Go.st (fun _ => XS.lloadN X54.here hx rfl (hb hby at_104) rfl) ?_
        show Go p e below s _ _ _ T54 (mkF m 105 #[.val (.long ql), .second, .val (.long qs), .second, .val (.long qo), .second, .val (.int md), .val (.int (2 : Int32)), .val (.ref b28), .val (.ref b41), .val (.int (0 : Int32)), .val (.int (0 : Int32)), .unset, .unset] [(.long ql)])
        refine Go.st (fun _ => XS.lconst X54.here hx rfl (hb hby at_105)) ?_
        show Go p e below s _ _ _ T54 (mkF m 106 #[.val (.long ql), .second, .val (.long qs), .second, .val (.long qo), .second, .val (.int md), .val (.int (2 : Int32)), .val (.ref b28), .val (.ref b41), .val (.int (0 : Int32)), .val (.int (0 : Int32)), .unset, .unset] [(.long (0 : Int64)), (.long ql)])
        refine Go.st (fun _ => XS.lcmp X54.here hx rfl (hb hby at_106) rfl) ?_
        show Go p e below s _ _ _ T54 (mkF m 107 #[.val (.long ql), .second, .val (.long qs), .second, .val (.long qo), .second, .val (.int md), .val (.int (2 : Int32)), .val (.ref b28), .val (.ref b41), .val (.int (0 : Int32)), .val (.int (0 : Int32)), .unset, .unset] [(.int (lcmpW ql (0 : Int64)))])
        refine Go.st (fun _ => XS.ifYes X54.here hx rfl (pc0 := 107) (pc' := 114) rfl (hb hby at_107) rfl ((if0 _ _).trans (tlt ((lw_gt ql (0 : Int64)).mpr hc46)).2.2.1) (by decide) (by decide)) ?_
        show Go p e below s _ _ _ T54 (mkF m 114 #[.val (.long ql), .second, .val (.long qs), .second, .val (.long qo), .second, .val (.int md), .val (.int (2 : Int32)), .val (.ref b28), .val (.ref b41), .val (.int (0 : Int32)), .val (.int (0 : Int32)), .unset, .unset] [])
        refine Go.st (fun _ => XS.iconst X54.here hx rfl (hb hby at_114)) ?_
        show Go p e below s _ _ _ T54 (mkF m 115 #[.val (.long ql), .second, .val (.long qs), .second, .val (.long qo), .second, .val (.int md), .val (.int (2 : Int32)), .val (.ref b28), .val (.ref b41), .val (.int (0 : Int32)), .val (.int (0 : Int32)), .unset, .unset] [(.int (0 : Int32))])
        refine Go.st (fun _ => XS.istore X54.here hx rfl (hb hby at_115) rfl (l' := #[.val (.long ql), .second, .val (.long qs), .second, .val (.long qo), .second, .val (.int md), .val (.int (2 : Int32)), .val (.ref b28), .val (.ref b41), .val (.int (0 : Int32)), .val (.int (0 : Int32)), .val (.int (0 : Int32)), .unset]) rfl) ?_
        show Go p e below s _ _ _ T54 (mkF m 117 #[.val (.long ql), .second, .val (.long qs), .second, .val (.long qo), .second, .val (.int md), .val (.int (2 : Int32)), .val (.ref b28), .val (.ref b41), .val (.int (0 : Int32)), .val (.int (0 : Int32)), .val (.int (0 : Int32)), .unset] [])
        refine Go.st (fun _ => XS.iload X54.here hx rfl (hb hby at_117) rfl) ?_
        show Go p e below s _ _ _ T54 (mkF m 119 #[.val (.long ql), .second, .val (.long qs), .second, .val (.long qo), .second, .val (.int md), .val (.int (2 : Int32)), .val (.ref b28), .val (.ref b41), .val (.int (0 : Int32)), .val (.int (0 : Int32)), .val (.int (0 : Int32)), .unset] [(.int (2 : Int32))])
        refine Go.st (fun _ => XS.ifYes X54.here hx rfl (pc0 := 119) (pc' := 129) rfl (hb hby at_119) rfl ((if0 _ _).trans (feq (by decide : ¬ ((2 : Int32) = (0 : Int32)))).2) (by decide) (by decide)) ?_
        show Go p e below s _ _ _ T54 (mkF m 129 #[.val (.long ql), .second, .val (.long qs), .second, .val (.long qo), .second, .val (.int md), .val (.int (2 : Int32)), .val (.ref b28), .val (.ref b41), .val (.int (0 : Int32)), .val (.int (0 : Int32)), .val (.int (0 : Int32)), .unset] [])
        refine Go.st (fun _ => XS.iload X54.here hx rfl (hb hby at_129) rfl) ?_
        show Go p e below s _ _ _ T54 (mkF m 131 #[.val (.long ql), .second, .val (.long qs), .second, .val (.long qo), .second, .val (.int md), .val (.int (2 : Int32)), .val (.ref b28), .val (.ref b41), .val (.int (0 : Int32)), .val (.int (0 : Int32)), .val (.int (0 : Int32)), .unset] [(.int (2 : Int32))])
        refine Go.st (fun _ => XS.iconst X54.here hx rfl (hb hby at_131)) ?_
        show Go p e below s _ _ _ T54 (mkF m 132 #[.val (.long ql), .second, .val (.long qs), .second, .val (.long qo), .second, .val (.int md), .val (.int (2 : Int32)), .val (.ref b28), .val (.ref b41), .val (.int (0 : Int32)), .val (.int (0 : Int32)), .val (.int (0 : Int32)), .unset] [(.int (1 : Int32)), (.int (2 : Int32))])
        refine Go.st (fun _ => XS.icmpYes X54.here hx rfl (pc0 := 132) (pc' := 141) rfl (hb hby at_132) rfl (feq (by decide : ¬ ((2 : Int32) = (1 : Int32)))).2 (by decide) (by decide)) ?_
        show Go p e below s _ _ _ T54 (mkF m 141 #[.val (.long ql), .second, .val (.long qs), .second, .val (.long qo), .second, .val (.int md), .val (.int (2 : Int32)), .val (.ref b28), .val (.ref b41), .val (.int (0 : Int32)), .val (.int (0 : Int32)), .val (.int (0 : Int32)), .unset] [])
        refine Go.st (fun _ => XS.lloadN X54.here hx rfl (hb hby at_141) rfl) ?_
        show Go p e below s _ _ _ T54 (mkF m 142 #[.val (.long ql), .second, .val (.long qs), .second, .val (.long qo), .second, .val (.int md), .val (.int (2 : Int32)), .val (.ref b28), .val (.ref b41), .val (.int (0 : Int32)), .val (.int (0 : Int32)), .val (.int (0 : Int32)), .unset] [(.long qs)])
        refine Go.st (fun _ => XS.lloadN X54.here hx rfl (hb hby at_142) rfl) ?_
        show Go p e below s _ _ _ T54 (mkF m 143 #[.val (.long ql), .second, .val (.long qs), .second, .val (.long qo), .second, .val (.int md), .val (.int (2 : Int32)), .val (.ref b28), .val (.ref b41), .val (.int (0 : Int32)), .val (.int (0 : Int32)), .val (.int (0 : Int32)), .unset] [(.long ql), (.long qs)])
        refine Go.st (fun _ => XS.lcmp X54.here hx rfl (hb hby at_143) rfl) ?_
        show Go p e below s _ _ _ T54 (mkF m 144 #[.val (.long ql), .second, .val (.long qs), .second, .val (.long qo), .second, .val (.int md), .val (.int (2 : Int32)), .val (.ref b28), .val (.ref b41), .val (.int (0 : Int32)), .val (.int (0 : Int32)), .val (.int (0 : Int32)), .unset] [(.int (lcmpW qs ql))])
        refine Go.st (fun _ => XS.ifYes X54.here hx rfl (pc0 := 144) (pc' := 151) rfl (hb hby at_144) rfl ((if0 _ _).trans (tlt ((lw_lt qs ql).mpr hc55)).1) (by decide) (by decide)) ?_
        show Go p e below s _ _ _ T54 (mkF m 151 #[.val (.long ql), .second, .val (.long qs), .second, .val (.long qo), .second, .val (.int md), .val (.int (2 : Int32)), .val (.ref b28), .val (.ref b41), .val (.int (0 : Int32)), .val (.int (0 : Int32)), .val (.int (0 : Int32)), .unset] [])
        refine Go.st (fun _ => XS.iconst X54.here hx rfl (hb hby at_151)) ?_
        show Go p e below s _ _ _ T54 (mkF m 152 #[.val (.long ql), .second, .val (.long qs), .second, .val (.long qo), .second, .val (.int md), .val (.int (2 : Int32)), .val (.ref b28), .val (.ref b41), .val (.int (0 : Int32)), .val (.int (0 : Int32)), .val (.int (0 : Int32)), .unset] [(.int (0 : Int32))])
        refine Go.st (fun _ => XS.istore X54.here hx rfl (hb hby at_152) rfl (l' := #[.val (.long ql), .second, .val (.long qs), .second, .val (.long qo), .second, .val (.int md), .val (.int (2 : Int32)), .val (.ref b28), .val (.ref b41), .val (.int (0 : Int32)), .val (.int (0 : Int32)), .val (.int (0 : Int32)), .val (.int (0 : Int32))]) rfl) ?_
        show Go p e below s _ _ _ T54 (mkF m 154 #[.val (.long ql), .second, .val (.long qs), .second, .val (.long qo), .second, .val (.int md), .val (.int (2 : Int32)), .val (.ref b28), .val (.ref b41), .val (.int (0 : Int32)), .val (.int (0 : Int32)), .val (.int (0 : Int32)), .val (.int (0 : Int32))] [])
        refine Go.st (fun _ => XS.iload X54.here hx rfl (hb hby at_154) rfl) ?_
        show Go p e below s _ _ _ T54 (mkF m 156 #[.val (.long ql), .second, .val (.long qs), .second, .val (.long qo), .second, .val (.int md), .val (.int (2 : Int32)), .val (.ref b28), .val (.ref b41), .val (.int (0 : Int32)), .val (.int (0 : Int32)), .val (.int (0 : Int32)), .val (.int (0 : Int32))] [(.int (0 : Int32))])
        refine Go.st (fun _ => XS.iload X54.here hx rfl (hb hby at_156) rfl) ?_
        show Go p e below s _ _ _ T54 (mkF m 158 #[.val (.long ql), .second, .val (.long qs), .second, .val (.long qo), .second, .val (.int md), .val (.int (2 : Int32)), .val (.ref b28), .val (.ref b41), .val (.int (0 : Int32)), .val (.int (0 : Int32)), .val (.int (0 : Int32)), .val (.int (0 : Int32))] [(.int (0 : Int32)), (.int (0 : Int32))])
        refine Go.st (fun _ => XS.icmpNo X54.here hx rfl (hb hby at_158) rfl (teq (by decide : (0 : Int32) = (0 : Int32))).2) ?_
        show Go p e below s _ _ _ T54 (mkF m 161 #[.val (.long ql), .second, .val (.long qs), .second, .val (.long qo), .second, .val (.int md), .val (.int (2 : Int32)), .val (.ref b28), .val (.ref b41), .val (.int (0 : Int32)), .val (.int (0 : Int32)), .val (.int (0 : Int32)), .val (.int (0 : Int32))] [])
        refine Go.st (fun _ => XS.iload X54.here hx rfl (hb hby at_161) rfl) ?_
        show Go p e below s _ _ _ T54 (mkF m 163 #[.val (.long ql), .second, .val (.long qs), .second, .val (.long qo), .second, .val (.int md), .val (.int (2 : Int32)), .val (.ref b28), .val (.ref b41), .val (.int (0 : Int32)), .val (.int (0 : Int32)), .val (.int (0 : Int32)), .val (.int (0 : Int32))] [(.int (0 : Int32))])
        refine Go.st (fun _ => XS.iload X54.here hx rfl (hb hby at_163) rfl) ?_
        show Go p e below s _ _ _ T54 (mkF m 165 #[.val (.long ql), .second, .val (.long qs), .second, .val (.long qo), .second, .val (.int md), .val (.int (2 : Int32)), .val (.ref b28), .val (.ref b41), .val (.int (0 : Int32)), .val (.int (0 : Int32)), .val (.int (0 : Int32)), .val (.int (0 : Int32))] [(.int (0 : Int32)), (.int (0 : Int32))])
        refine Go.st (fun _ => XS.icmpNo X54.here hx rfl (hb hby at_165) rfl (teq (by decide : (0 : Int32) = (0 : Int32))).2) ?_
        show Go p e below s _ _ _ T54 (mkF m 168 #[.val (.long ql), .second, .val (.long qs), .second, .val (.long qo), .second, .val (.int md), .val (.int (2 : Int32)), .val (.ref b28), .val (.ref b41), .val (.int (0 : Int32)), .val (.int (0 : Int32)), .val (.int (0 : Int32)), .val (.int (0 : Int32))] [])
        refine Go.st (fun _ => XS.iconst X54.here hx rfl (hb hby at_168)) ?_
        show Go p e below s _ _ _ T54 (mkF m 169 #[.val (.long ql), .second, .val (.long qs), .second, .val (.long qo), .second, .val (.int md), .val (.int (2 : Int32)), .val (.ref b28), .val (.ref b41), .val (.int (0 : Int32)), .val (.int (0 : Int32)), .val (.int (0 : Int32)), .val (.int (0 : Int32))] [(.int (1 : Int32))])
        refine Go.st (fun _ => XS.goto X54.here hx rfl (pc0 := 169) (pc' := 173) rfl (hb hby at_169) (by decide) (by decide)) ?_
        show Go p e below s _ _ _ T54 (mkF m 173 #[.val (.long ql), .second, .val (.long qs), .second, .val (.long qo), .second, .val (.int md), .val (.int (2 : Int32)), .val (.ref b28), .val (.ref b41), .val (.int (0 : Int32)), .val (.int (0 : Int32)), .val (.int (0 : Int32)), .val (.int (0 : Int32))] [(.int (1 : Int32))])
        exact Go.retZ X54 hx hlk Bd.returns (hb hby at_173) rfl (by rw [e54]; exact ⟨rfl, N54⟩) (by decide) (by decide)
      · rw [show (b2i (¬ (qs < ql))) = (1 : Int32) from b2i_pos hc55]
        show Go p e below s _ _ _ T54 (mkF m 102 #[.val (.long ql), .second, .val (.long qs), .second, .val (.long qo), .second, .val (.int md), .val (.int (2 : Int32)), .val (.ref b28), .val (.ref b41), .val (.int (0 : Int32)), .unset, .unset, .unset] [(.int (1 : Int32))])
        refine Go.st (fun _ => XS.istore X54.here hx rfl (hb hby at_102) rfl (l' := #[.val (.long ql), .second, .val (.long qs), .second, .val (.long qo), .second, .val (.int md), .val (.int (2 : Int32)), .val (.ref b28), .val (.ref b41), .val (.int (0 : Int32)), .val (.int (1 : Int32)), .unset, .unset]) rfl) ?_
        show Go p e below s _ _ _ T54 (mkF m 104 #[.val (.long ql), .second, .val (.long qs), .second, .val (.long qo), .second, .val (.int md), .val (.int (2 : Int32)), .val (.ref b28), .val (.ref b41), .val (.int (0 : Int32)), .val (.int (1 : Int32)), .unset, .unset] [])
        refine Go.st (fun _ => XS.lloadN X54.here hx rfl (hb hby at_104) rfl) ?_
        show Go p e below s _ _ _ T54 (mkF m 105 #[.val (.long ql), .second, .val (.long qs), .second, .val (.long qo), .second, .val (.int md), .val (.int (2 : Int32)), .val (.ref b28), .val (.ref b41), .val (.int (0 : Int32)), .val (.int (1 : Int32)), .unset, .unset] [(.long ql)])
        refine Go.st (fun _ => XS.lconst X54.here hx rfl (hb hby at_105)) ?_
        show Go p e below s _ _ _ T54 (mkF m 106 #[.val (.long ql), .second, .val (.long qs), .second, .val (.long qo), .second, .val (.int md), .val (.int (2 : Int32)), .val (.ref b28), .val (.ref b41), .val (.int (0 : Int32)), .val (.int (1 : Int32)), .unset, .unset] [(.long (0 : Int64)), (.long ql)])
        refine Go.st (fun _ => XS.lcmp X54.here hx rfl (hb hby at_106) rfl) ?_
        show Go p e below s _ _ _ T54 (mkF m 107 #[.val (.long ql), .second, .val (.long qs), .second, .val (.long qo), .second, .val (.int md), .val (.int (2 : Int32)), .val (.ref b28), .val (.ref b41), .val (.int (0 : Int32)), .val (.int (1 : Int32)), .unset, .unset] [(.int (lcmpW ql (0 : Int64)))])
        refine Go.st (fun _ => XS.ifYes X54.here hx rfl (pc0 := 107) (pc' := 114) rfl (hb hby at_107) rfl ((if0 _ _).trans (tlt ((lw_gt ql (0 : Int64)).mpr hc46)).2.2.1) (by decide) (by decide)) ?_
        show Go p e below s _ _ _ T54 (mkF m 114 #[.val (.long ql), .second, .val (.long qs), .second, .val (.long qo), .second, .val (.int md), .val (.int (2 : Int32)), .val (.ref b28), .val (.ref b41), .val (.int (0 : Int32)), .val (.int (1 : Int32)), .unset, .unset] [])
        refine Go.st (fun _ => XS.iconst X54.here hx rfl (hb hby at_114)) ?_
        show Go p e below s _ _ _ T54 (mkF m 115 #[.val (.long ql), .second, .val (.long qs), .second, .val (.long qo), .second, .val (.int md), .val (.int (2 : Int32)), .val (.ref b28), .val (.ref b41), .val (.int (0 : Int32)), .val (.int (1 : Int32)), .unset, .unset] [(.int (0 : Int32))])
        refine Go.st (fun _ => XS.istore X54.here hx rfl (hb hby at_115) rfl (l' := #[.val (.long ql), .second, .val (.long qs), .second, .val (.long qo), .second, .val (.int md), .val (.int (2 : Int32)), .val (.ref b28), .val (.ref b41), .val (.int (0 : Int32)), .val (.int (1 : Int32)), .val (.int (0 : Int32)), .unset]) rfl) ?_
        show Go p e below s _ _ _ T54 (mkF m 117 #[.val (.long ql), .second, .val (.long qs), .second, .val (.long qo), .second, .val (.int md), .val (.int (2 : Int32)), .val (.ref b28), .val (.ref b41), .val (.int (0 : Int32)), .val (.int (1 : Int32)), .val (.int (0 : Int32)), .unset] [])
        refine Go.st (fun _ => XS.iload X54.here hx rfl (hb hby at_117) rfl) ?_
        show Go p e below s _ _ _ T54 (mkF m 119 #[.val (.long ql), .second, .val (.long qs), .second, .val (.long qo), .second, .val (.int md), .val (.int (2 : Int32)), .val (.ref b28), .val (.ref b41), .val (.int (0 : Int32)), .val (.int (1 : Int32)), .val (.int (0 : Int32)), .unset] [(.int (2 : Int32))])
        refine Go.st (fun _ => XS.ifYes X54.here hx rfl (pc0 := 119) (pc' := 129) rfl (hb hby at_119) rfl ((if0 _ _).trans (feq (by decide : ¬ ((2 : Int32) = (0 : Int32)))).2) (by decide) (by decide)) ?_
        show Go p e below s _ _ _ T54 (mkF m 129 #[.val (.long ql), .second, .val (.long qs), .second, .val (.long qo), .second, .val (.int md), .val (.int (2 : Int32)), .val (.ref b28), .val (.ref b41), .val (.int (0 : Int32)), .val (.int (1 : Int32)), .val (.int (0 : Int32)), .unset] [])
        refine Go.st (fun _ => XS.iload X54.here hx rfl (hb hby at_129) rfl) ?_
        show Go p e below s _ _ _ T54 (mkF m 131 #[.val (.long ql), .second, .val (.long qs), .second, .val (.long qo), .second, .val (.int md), .val (.int (2 : Int32)), .val (.ref b28), .val (.ref b41), .val (.int (0 : Int32)), .val (.int (1 : Int32)), .val (.int (0 : Int32)), .unset] [(.int (2 : Int32))])
        refine Go.st (fun _ => XS.iconst X54.here hx rfl (hb hby at_131)) ?_
        show Go p e below s _ _ _ T54 (mkF m 132 #[.val (.long ql), .second, .val (.long qs), .second, .val (.long qo), .second, .val (.int md), .val (.int (2 : Int32)), .val (.ref b28), .val (.ref b41), .val (.int (0 : Int32)), .val (.int (1 : Int32)), .val (.int (0 : Int32)), .unset] [(.int (1 : Int32)), (.int (2 : Int32))])
        refine Go.st (fun _ => XS.icmpYes X54.here hx rfl (pc0 := 132) (pc' := 141) rfl (hb hby at_132) rfl (feq (by decide : ¬ ((2 : Int32) = (1 : Int32)))).2 (by decide) (by decide)) ?_
        show Go p e below s _ _ _ T54 (mkF m 141 #[.val (.long ql), .second, .val (.long qs), .second, .val (.long qo), .second, .val (.int md), .val (.int (2 : Int32)), .val (.ref b28), .val (.ref b41), .val (.int (0 : Int32)), .val (.int (1 : Int32)), .val (.int (0 : Int32)), .unset] [])
        refine Go.st (fun _ => XS.lloadN X54.here hx rfl (hb hby at_141) rfl) ?_
        show Go p e below s _ _ _ T54 (mkF m 142 #[.val (.long ql), .second, .val (.long qs), .second, .val (.long qo), .second, .val (.int md), .val (.int (2 : Int32)), .val (.ref b28), .val (.ref b41), .val (.int (0 : Int32)), .val (.int (1 : Int32)), .val (.int (0 : Int32)), .unset] [(.long qs)])
        refine Go.st (fun _ => XS.lloadN X54.here hx rfl (hb hby at_142) rfl) ?_
        show Go p e below s _ _ _ T54 (mkF m 143 #[.val (.long ql), .second, .val (.long qs), .second, .val (.long qo), .second, .val (.int md), .val (.int (2 : Int32)), .val (.ref b28), .val (.ref b41), .val (.int (0 : Int32)), .val (.int (1 : Int32)), .val (.int (0 : Int32)), .unset] [(.long ql), (.long qs)])
        refine Go.st (fun _ => XS.lcmp X54.here hx rfl (hb hby at_143) rfl) ?_
        show Go p e below s _ _ _ T54 (mkF m 144 #[.val (.long ql), .second, .val (.long qs), .second, .val (.long qo), .second, .val (.int md), .val (.int (2 : Int32)), .val (.ref b28), .val (.ref b41), .val (.int (0 : Int32)), .val (.int (1 : Int32)), .val (.int (0 : Int32)), .unset] [(.int (lcmpW qs ql))])
        refine Go.st (fun _ => XS.ifNo X54.here hx rfl (hb hby at_144) rfl ((if0 _ _).trans (flt (fun qq => hc55 ((lw_lt qs ql).mp qq))).1)) ?_
        show Go p e below s _ _ _ T54 (mkF m 147 #[.val (.long ql), .second, .val (.long qs), .second, .val (.long qo), .second, .val (.int md), .val (.int (2 : Int32)), .val (.ref b28), .val (.ref b41), .val (.int (0 : Int32)), .val (.int (1 : Int32)), .val (.int (0 : Int32)), .unset] [])
        refine Go.st (fun _ => XS.iconst X54.here hx rfl (hb hby at_147)) ?_
        show Go p e below s _ _ _ T54 (mkF m 148 #[.val (.long ql), .second, .val (.long qs), .second, .val (.long qo), .second, .val (.int md), .val (.int (2 : Int32)), .val (.ref b28), .val (.ref b41), .val (.int (0 : Int32)), .val (.int (1 : Int32)), .val (.int (0 : Int32)), .unset] [(.int (1 : Int32))])
        refine Go.st (fun _ => XS.goto X54.here hx rfl (pc0 := 148) (pc' := 152) rfl (hb hby at_148) (by decide) (by decide)) ?_
        show Go p e below s _ _ _ T54 (mkF m 152 #[.val (.long ql), .second, .val (.long qs), .second, .val (.long qo), .second, .val (.int md), .val (.int (2 : Int32)), .val (.ref b28), .val (.ref b41), .val (.int (0 : Int32)), .val (.int (1 : Int32)), .val (.int (0 : Int32)), .unset] [(.int (1 : Int32))])
        refine Go.st (fun _ => XS.istore X54.here hx rfl (hb hby at_152) rfl (l' := #[.val (.long ql), .second, .val (.long qs), .second, .val (.long qo), .second, .val (.int md), .val (.int (2 : Int32)), .val (.ref b28), .val (.ref b41), .val (.int (0 : Int32)), .val (.int (1 : Int32)), .val (.int (0 : Int32)), .val (.int (1 : Int32))]) rfl) ?_
        show Go p e below s _ _ _ T54 (mkF m 154 #[.val (.long ql), .second, .val (.long qs), .second, .val (.long qo), .second, .val (.int md), .val (.int (2 : Int32)), .val (.ref b28), .val (.ref b41), .val (.int (0 : Int32)), .val (.int (1 : Int32)), .val (.int (0 : Int32)), .val (.int (1 : Int32))] [])
        refine Go.st (fun _ => XS.iload X54.here hx rfl (hb hby at_154) rfl) ?_
        show Go p e below s _ _ _ T54 (mkF m 156 #[.val (.long ql), .second, .val (.long qs), .second, .val (.long qo), .second, .val (.int md), .val (.int (2 : Int32)), .val (.ref b28), .val (.ref b41), .val (.int (0 : Int32)), .val (.int (1 : Int32)), .val (.int (0 : Int32)), .val (.int (1 : Int32))] [(.int (0 : Int32))])
        refine Go.st (fun _ => XS.iload X54.here hx rfl (hb hby at_156) rfl) ?_
        show Go p e below s _ _ _ T54 (mkF m 158 #[.val (.long ql), .second, .val (.long qs), .second, .val (.long qo), .second, .val (.int md), .val (.int (2 : Int32)), .val (.ref b28), .val (.ref b41), .val (.int (0 : Int32)), .val (.int (1 : Int32)), .val (.int (0 : Int32)), .val (.int (1 : Int32))] [(.int (0 : Int32)), (.int (0 : Int32))])
        refine Go.st (fun _ => XS.icmpNo X54.here hx rfl (hb hby at_158) rfl (teq (by decide : (0 : Int32) = (0 : Int32))).2) ?_
        show Go p e below s _ _ _ T54 (mkF m 161 #[.val (.long ql), .second, .val (.long qs), .second, .val (.long qo), .second, .val (.int md), .val (.int (2 : Int32)), .val (.ref b28), .val (.ref b41), .val (.int (0 : Int32)), .val (.int (1 : Int32)), .val (.int (0 : Int32)), .val (.int (1 : Int32))] [])
        refine Go.st (fun _ => XS.iload X54.here hx rfl (hb hby at_161) rfl) ?_
        show Go p e below s _ _ _ T54 (mkF m 163 #[.val (.long ql), .second, .val (.long qs), .second, .val (.long qo), .second, .val (.int md), .val (.int (2 : Int32)), .val (.ref b28), .val (.ref b41), .val (.int (0 : Int32)), .val (.int (1 : Int32)), .val (.int (0 : Int32)), .val (.int (1 : Int32))] [(.int (1 : Int32))])
        refine Go.st (fun _ => XS.iload X54.here hx rfl (hb hby at_163) rfl) ?_
        show Go p e below s _ _ _ T54 (mkF m 165 #[.val (.long ql), .second, .val (.long qs), .second, .val (.long qo), .second, .val (.int md), .val (.int (2 : Int32)), .val (.ref b28), .val (.ref b41), .val (.int (0 : Int32)), .val (.int (1 : Int32)), .val (.int (0 : Int32)), .val (.int (1 : Int32))] [(.int (1 : Int32)), (.int (1 : Int32))])
        refine Go.st (fun _ => XS.icmpNo X54.here hx rfl (hb hby at_165) rfl (teq (by decide : (1 : Int32) = (1 : Int32))).2) ?_
        show Go p e below s _ _ _ T54 (mkF m 168 #[.val (.long ql), .second, .val (.long qs), .second, .val (.long qo), .second, .val (.int md), .val (.int (2 : Int32)), .val (.ref b28), .val (.ref b41), .val (.int (0 : Int32)), .val (.int (1 : Int32)), .val (.int (0 : Int32)), .val (.int (1 : Int32))] [])
        refine Go.st (fun _ => XS.iconst X54.here hx rfl (hb hby at_168)) ?_
        show Go p e below s _ _ _ T54 (mkF m 169 #[.val (.long ql), .second, .val (.long qs), .second, .val (.long qo), .second, .val (.int md), .val (.int (2 : Int32)), .val (.ref b28), .val (.ref b41), .val (.int (0 : Int32)), .val (.int (1 : Int32)), .val (.int (0 : Int32)), .val (.int (1 : Int32))] [(.int (1 : Int32))])
        refine Go.st (fun _ => XS.goto X54.here hx rfl (pc0 := 169) (pc' := 173) rfl (hb hby at_169) (by decide) (by decide)) ?_
        show Go p e below s _ _ _ T54 (mkF m 173 #[.val (.long ql), .second, .val (.long qs), .second, .val (.long qo), .second, .val (.int md), .val (.int (2 : Int32)), .val (.ref b28), .val (.ref b41), .val (.int (0 : Int32)), .val (.int (1 : Int32)), .val (.int (0 : Int32)), .val (.int (1 : Int32))] [(.int (1 : Int32))])
        exact Go.retZ X54 hx hlk Bd.returns (hb hby at_173) rfl (by rw [e54]; exact ⟨rfl, N54⟩) (by decide) (by decide)
    · rw [show (b2i (¬ ((0 : Int64) < ql))) = (1 : Int32) from b2i_pos hc46]
      show Go p e below s _ _ _ T45 (mkF m 83 #[.val (.long ql), .second, .val (.long qs), .second, .val (.long qo), .second, .val (.int md), .val (.int (2 : Int32)), .val (.ref b28), .val (.ref b41), .unset, .unset, .unset, .unset] [(.int (1 : Int32))])
      refine Go.st (fun _ => XS.istore X45.here hx rfl (hb hby at_83) rfl (l' := #[.val (.long ql), .second, .val (.long qs), .second, .val (.long qo), .second, .val (.int md), .val (.int (2 : Int32)), .val (.ref b28), .val (.ref b41), .val (.int (1 : Int32)), .unset, .unset, .unset]) rfl) ?_
      show Go p e below s _ _ _ T45 (mkF m 85 #[.val (.long ql), .second, .val (.long qs), .second, .val (.long qo), .second, .val (.int md), .val (.int (2 : Int32)), .val (.ref b28), .val (.ref b41), .val (.int (1 : Int32)), .unset, .unset, .unset] [])
      refine Go.st (fun _ => XS.iload X45.here hx rfl (hb hby at_85) rfl) ?_
      show Go p e below s _ _ _ T45 (mkF m 87 #[.val (.long ql), .second, .val (.long qs), .second, .val (.long qo), .second, .val (.int md), .val (.int (2 : Int32)), .val (.ref b28), .val (.ref b41), .val (.int (1 : Int32)), .unset, .unset, .unset] [(.int (2 : Int32))])
      refine Go.st (fun _ => XS.ifNo X45.here hx rfl (hb hby at_87) rfl ((if0 _ _).trans (feq (by decide : ¬ ((2 : Int32) = (0 : Int32)))).1)) ?_
      show Go p e below s _ _ _ T45 (mkF m 90 #[.val (.long ql), .second, .val (.long qs), .second, .val (.long qo), .second, .val (.int md), .val (.int (2 : Int32)), .val (.ref b28), .val (.ref b41), .val (.int (1 : Int32)), .unset, .unset, .unset] [])
      refine Go.st (fun _ => XS.aload X45.here hx rfl (hb hby at_90) rfl rfl) ?_
      show Go p e below s _ _ _ T45 (mkF m 92 #[.val (.long ql), .second, .val (.long qs), .second, .val (.long qo), .second, .val (.int md), .val (.int (2 : Int32)), .val (.ref b28), .val (.ref b41), .val (.int (1 : Int32)), .unset, .unset, .unset] [(.ref b41)])
      refine Go.st (fun _ => XS.aload X45.here hx rfl (hb hby at_92) rfl rfl) ?_
      show Go p e below s _ _ _ T45 (mkF m 94 #[.val (.long ql), .second, .val (.long qs), .second, .val (.long qo), .second, .val (.int md), .val (.int (2 : Int32)), .val (.ref b28), .val (.ref b41), .val (.int (1 : Int32)), .unset, .unset, .unset] [(.ref b28), (.ref b41)])
      have f57 := ((p34_2.ext E41).keep K44)
      have f58 := ((p34_4.ext E41).keep K44 (ninS ne_b28_b41 nin0))
      have f59 := ((p34_5.ext E41).keep K44 (ninS ne_b28_b41 nin0))
      have f60 := ((p34_6.ext E41).keep K44 (ninS ne_t_34_b41 nin0))
      have f61 := ((f43.ext E41).keep K44)
      have f62 := (((p33_1.keep K34 (ninS (Ne.symm ne_b28_b31) nin0)).ext E41).keep K44 (ninS ne_b31_b41 nin0))
      obtain ⟨cq56, kq56, q56a, q56b, q56c⟩ := isOf hZ e45 p44_0
      obtain ⟨_, _, ⟨T56, L56, kc56, nc56⟩, -, X56, ⟨Lc56, hQ56, l56, y56, z56⟩, st56⟩ := X45.virtualBack hx (y := (⟨"com/example/plaingrant/plaingrant/store/AuditPages", "gave", "(Ljava/util/List;)V"⟩ : MethodName)) (z := (⟨"com/example/plaingrant/plaingrant/store/AuditPages", "gave", "(Ljava/util/List;)V"⟩ : MethodName)) hown (mvT hZ (hw _ (List.mem_of_getElem? (i := 99) rfl))) (mvT hZ (hw _ (List.mem_of_getElem? (i := 100) rfl))) (notFace_of_selects (args := #[]) (mvT hZ (hw _ (List.mem_of_getElem? (i := 102) rfl)))) (mvT hZ (hw _ (List.mem_of_getElem? (i := 102) rfl))) (mvT hZ (hw _ (List.mem_of_getElem? (i := 101) rfl))) (by decide) (backOf (W := 0) (rmV1 l Z a0 hw [] b41 b28 ql (0 : Int64) t_34 kt_34 b31 qs h44 n0 z44q p44_0 p44_1 p44_2 f57 f58 f59 f60 f61 f62 gg41 ne_b28_b41 ne_b31_b41 ne_t_34_b41) hZ (hw _ (List.mem_of_getElem? (i := 103) rfl)) (hw _ (List.mem_of_getElem? (i := 85) rfl)) (by decide) (by decide)) q56a q56c (g := (mkF m 94 #[.val (.long ql), .second, .val (.long qs), .second, .val (.long qo), .second, .val (.int md), .val (.int (2 : Int32)), .val (.ref b28), .val (.ref b41), .val (.int (1 : Int32)), .unset, .unset, .unset] [(.ref b28), (.ref b41)])) rfl (by rw [hml]; rfl) (Steps.refl _) (argsL := [(.ref b28)]) (rest := []) (lenOf pd_11 rfl) rfl (by show 2 * 0 + _ ≤ _; exact Nat.le_of_eq rfl) (hb hby at_94) (fun _ _ => ⟨rfl, e45, (by decide : 4 + 0 ≤ _), (by decide : 22 + 0 ≤ _)⟩)
      dsimp only [Pt.U, Pt.locs, Pt.cells, Pt.slots] at X56 l56 y56 z56 st56 hQ56
      subst l56 y56 z56
      obtain ⟨h56, e56⟩ : ∃ hh, T56.heap = hh := ⟨_, rfl⟩
      rw [e56] at hQ56
      obtain ⟨rfl, N56q, K56, p56_0, p56_1, p56_2⟩ := hQ56
      have N56 := Fr.app N45 N56q
      refine Go.st (fun _ kk => st56.trans kk) ?_
      have z56q : n0 ≤ h56.size := Nat.le_trans z44q K56.1
      have ns56 : ∀ x ∈ ([b41] : List Addr), ∀ cell : Cell, h44[x]? = some cell → cell.vm.isStatics = false := (allS p44_0.nostat all0)
      show Go p e below s _ _ _ T56 (mkF m 97 #[.val (.long ql), .second, .val (.long qs), .second, .val (.long qo), .second, .val (.int md), .val (.int (2 : Int32)), .val (.ref b28), .val (.ref b41), .val (.int (1 : Int32)), .unset, .unset, .unset] [])
      refine Go.st (fun _ => XS.aload X56.here hx rfl (hb hby at_97) rfl rfl) ?_
      show Go p e below s _ _ _ T56 (mkF m 99 #[.val (.long ql), .second, .val (.long qs), .second, .val (.long qo), .second, .val (.int md), .val (.int (2 : Int32)), .val (.ref b28), .val (.ref b41), .val (.int (1 : Int32)), .unset, .unset, .unset] [(.ref b41)])
      obtain ⟨cq63, kq63, q63a, q63b, q63c⟩ := isOf hZ e56 p56_0
      obtain ⟨_, _, ⟨T63, L63, kc63, nc63⟩, -, X63, ⟨Lc63, hQ63, l63, y63, z63⟩, st63⟩ := X56.virtualBack hx (y := (⟨"com/example/plaingrant/plaingrant/store/AuditPages", "isDone", "()Z"⟩ : MethodName)) (z := (⟨"com/example/plaingrant/plaingrant/store/AuditPages", "isDone", "()Z"⟩ : MethodName)) hown (mvT hZ (hw _ (List.mem_of_getElem? (i := 92) rfl))) (mvT hZ (hw _ (List.mem_of_getElem? (i := 93) rfl))) (notFace_of_selects (args := #[]) (mvT hZ (hw _ (List.mem_of_getElem? (i := 95) rfl)))) (mvT hZ (hw _ (List.mem_of_getElem? (i := 95) rfl))) (mvT hZ (hw _ (List.mem_of_getElem? (i := 94) rfl))) (by decide) (backOf (W := 0) (rmDo l Z a0 hw [] b41 ql qs h56 n0 z56q p56_1 p56_2) hZ (hw _ (List.mem_of_getElem? (i := 96) rfl)) (hw _ (List.mem_of_getElem? (i := 85) rfl)) (by decide) (by decide)) q63a q63c (g := (mkF m 99 #[.val (.long ql), .second, .val (.long qs), .second, .val (.long qo), .second, .val (.int md), .val (.int (2 : Int32)), .val (.ref b28), .val (.ref b41), .val (.int (1 : Int32)), .unset, .unset, .unset] [(.ref b41)])) rfl (by rw [hml]; rfl) (Steps.refl _) (argsL := []) (rest := []) (lenOf pd_7 rfl) rfl (by show 2 * 0 + _ ≤ _; exact Nat.le_of_eq rfl) (hb hby at_99) (fun _ _ => ⟨rfl, e56, (by decide : 4 + 0 ≤ _), (by decide : 22 + 0 ≤ _)⟩)
      dsimp only [Pt.U, Pt.locs, Pt.cells, Pt.slots] at X63 l63 y63 z63 st63 hQ63
      subst l63 y63 z63
      obtain ⟨h63, e63⟩ : ∃ hh, T63.heap = hh := ⟨_, rfl⟩
      rw [e63] at hQ63
      obtain ⟨rfl, N63q, sm63⟩ := hQ63
      have N63 := Fr.app N56 N63q
      refine Go.st (fun _ kk => st63.trans kk) ?_
      rw [sm63] at e63
      show Go p e below s _ _ _ T63 (mkF m 102 #[.val (.long ql), .second, .val (.long qs), .second, .val (.long qo), .second, .val (.int md), .val (.int (2 : Int32)), .val (.ref b28), .val (.ref b41), .val (.int (1 : Int32)), .unset, .unset, .unset] [(.int (b2i (¬ (qs < ql))))])
      by_cases hc64 : qs < ql
      · rw [show (b2i (¬ (qs < ql))) = (0 : Int32) from b2i_neg (not_not_intro hc64)]
        show Go p e below s _ _ _ T63 (mkF m 102 #[.val (.long ql), .second, .val (.long qs), .second, .val (.long qo), .second, .val (.int md), .val (.int (2 : Int32)), .val (.ref b28), .val (.ref b41), .val (.int (1 : Int32)), .unset, .unset, .unset] [(.int (0 : Int32))])
        refine Go.st (fun _ => XS.istore X63.here hx rfl (hb hby at_102) rfl (l' := #[.val (.long ql), .second, .val (.long qs), .second, .val (.long qo), .second, .val (.int md), .val (.int (2 : Int32)), .val (.ref b28), .val (.ref b41), .val (.int (1 : Int32)), .val (.int (0 : Int32)), .unset, .unset]) rfl) ?_
        show Go p e below s _ _ _ T63 (mkF m 104 #[.val (.long ql), .second, .val (.long qs), .second, .val (.long qo), .second, .val (.int md), .val (.int (2 : Int32)), .val (.ref b28), .val (.ref b41), .val (.int (1 : Int32)), .val (.int (0 : Int32)), .unset, .unset] [])
        refine Go.st (fun _ => XS.lloadN X63.here hx rfl (hb hby at_104) rfl) ?_
        show Go p e below s _ _ _ T63 (mkF m 105 #[.val (.long ql), .second, .val (.long qs), .second, .val (.long qo), .second, .val (.int md), .val (.int (2 : Int32)), .val (.ref b28), .val (.ref b41), .val (.int (1 : Int32)), .val (.int (0 : Int32)), .unset, .unset] [(.long ql)])
        refine Go.st (fun _ => XS.lconst X63.here hx rfl (hb hby at_105)) ?_
        show Go p e below s _ _ _ T63 (mkF m 106 #[.val (.long ql), .second, .val (.long qs), .second, .val (.long qo), .second, .val (.int md), .val (.int (2 : Int32)), .val (.ref b28), .val (.ref b41), .val (.int (1 : Int32)), .val (.int (0 : Int32)), .unset, .unset] [(.long (0 : Int64)), (.long ql)])
        refine Go.st (fun _ => XS.lcmp X63.here hx rfl (hb hby at_106) rfl) ?_
        show Go p e below s _ _ _ T63 (mkF m 107 #[.val (.long ql), .second, .val (.long qs), .second, .val (.long qo), .second, .val (.int md), .val (.int (2 : Int32)), .val (.ref b28), .val (.ref b41), .val (.int (1 : Int32)), .val (.int (0 : Int32)), .unset, .unset] [(.int (lcmpW ql (0 : Int64)))])
        refine Go.st (fun _ => XS.ifNo X63.here hx rfl (hb hby at_107) rfl ((if0 _ _).trans (flt (fun qq => hc46 ((lw_gt ql (0 : Int64)).mp qq))).2.2.1)) ?_
        show Go p e below s _ _ _ T63 (mkF m 110 #[.val (.long ql), .second, .val (.long qs), .second, .val (.long qo), .second, .val (.int md), .val (.int (2 : Int32)), .val (.ref b28), .val (.ref b41), .val (.int (1 : Int32)), .val (.int (0 : Int32)), .unset, .unset] [])
        refine Go.st (fun _ => XS.iconst X63.here hx rfl (hb hby at_110)) ?_
        show Go p e below s _ _ _ T63 (mkF m 111 #[.val (.long ql), .second, .val (.long qs), .second, .val (.long qo), .second, .val (.int md), .val (.int (2 : Int32)), .val (.ref b28), .val (.ref b41), .val (.int (1 : Int32)), .val (.int (0 : Int32)), .unset, .unset] [(.int (1 : Int32))])
        refine Go.st (fun _ => XS.goto X63.here hx rfl (pc0 := 111) (pc' := 115) rfl (hb hby at_111) (by decide) (by decide)) ?_
        show Go p e below s _ _ _ T63 (mkF m 115 #[.val (.long ql), .second, .val (.long qs), .second, .val (.long qo), .second, .val (.int md), .val (.int (2 : Int32)), .val (.ref b28), .val (.ref b41), .val (.int (1 : Int32)), .val (.int (0 : Int32)), .unset, .unset] [(.int (1 : Int32))])
        refine Go.st (fun _ => XS.istore X63.here hx rfl (hb hby at_115) rfl (l' := #[.val (.long ql), .second, .val (.long qs), .second, .val (.long qo), .second, .val (.int md), .val (.int (2 : Int32)), .val (.ref b28), .val (.ref b41), .val (.int (1 : Int32)), .val (.int (0 : Int32)), .val (.int (1 : Int32)), .unset]) rfl) ?_
        show Go p e below s _ _ _ T63 (mkF m 117 #[.val (.long ql), .second, .val (.long qs), .second, .val (.long qo), .second, .val (.int md), .val (.int (2 : Int32)), .val (.ref b28), .val (.ref b41), .val (.int (1 : Int32)), .val (.int (0 : Int32)), .val (.int (1 : Int32)), .unset] [])
        refine Go.st (fun _ => XS.iload X63.here hx rfl (hb hby at_117) rfl) ?_
        show Go p e below s _ _ _ T63 (mkF m 119 #[.val (.long ql), .second, .val (.long qs), .second, .val (.long qo), .second, .val (.int md), .val (.int (2 : Int32)), .val (.ref b28), .val (.ref b41), .val (.int (1 : Int32)), .val (.int (0 : Int32)), .val (.int (1 : Int32)), .unset] [(.int (2 : Int32))])
        refine Go.st (fun _ => XS.ifYes X63.here hx rfl (pc0 := 119) (pc' := 129) rfl (hb hby at_119) rfl ((if0 _ _).trans (feq (by decide : ¬ ((2 : Int32) = (0 : Int32)))).2) (by decide) (by decide)) ?_
        show Go p e below s _ _ _ T63 (mkF m 129 #[.val (.long ql), .second, .val (.long qs), .second, .val (.long qo), .second, .val (.int md), .val (.int (2 : Int32)), .val (.ref b28), .val (.ref b41), .val (.int (1 : Int32)), .val (.int (0 : Int32)), .val (.int (1 : Int32)), .unset] [])
        refine Go.st (fun _ => XS.iload X63.here hx rfl (hb hby at_129) rfl) ?_
        show Go p e below s _ _ _ T63 (mkF m 131 #[.val (.long ql), .second, .val (.long qs), .second, .val (.long qo), .second, .val (.int md), .val (.int (2 : Int32)), .val (.ref b28), .val (.ref b41), .val (.int (1 : Int32)), .val (.int (0 : Int32)), .val (.int (1 : Int32)), .unset] [(.int (2 : Int32))])
        refine Go.st (fun _ => XS.iconst X63.here hx rfl (hb hby at_131)) ?_
        show Go p e below s _ _ _ T63 (mkF m 132 #[.val (.long ql), .second, .val (.long qs), .second, .val (.long qo), .second, .val (.int md), .val (.int (2 : Int32)), .val (.ref b28), .val (.ref b41), .val (.int (1 : Int32)), .val (.int (0 : Int32)), .val (.int (1 : Int32)), .unset] [(.int (1 : Int32)), (.int (2 : Int32))])
        refine Go.st (fun _ => XS.icmpYes X63.here hx rfl (pc0 := 132) (pc' := 141) rfl (hb hby at_132) rfl (feq (by decide : ¬ ((2 : Int32) = (1 : Int32)))).2 (by decide) (by decide)) ?_
        show Go p e below s _ _ _ T63 (mkF m 141 #[.val (.long ql), .second, .val (.long qs), .second, .val (.long qo), .second, .val (.int md), .val (.int (2 : Int32)), .val (.ref b28), .val (.ref b41), .val (.int (1 : Int32)), .val (.int (0 : Int32)), .val (.int (1 : Int32)), .unset] [])
        refine Go.st (fun _ => XS.lloadN X63.here hx rfl (hb hby at_141) rfl) ?_
        show Go p e below s _ _ _ T63 (mkF m 142 #[.val (.long ql), .second, .val (.long qs), .second, .val (.long qo), .second, .val (.int md), .val (.int (2 : Int32)), .val (.ref b28), .val (.ref b41), .val (.int (1 : Int32)), .val (.int (0 : Int32)), .val (.int (1 : Int32)), .unset] [(.long qs)])
        refine Go.st (fun _ => XS.lloadN X63.here hx rfl (hb hby at_142) rfl) ?_
        show Go p e below s _ _ _ T63 (mkF m 143 #[.val (.long ql), .second, .val (.long qs), .second, .val (.long qo), .second, .val (.int md), .val (.int (2 : Int32)), .val (.ref b28), .val (.ref b41), .val (.int (1 : Int32)), .val (.int (0 : Int32)), .val (.int (1 : Int32)), .unset] [(.long ql), (.long qs)])
        refine Go.st (fun _ => XS.lcmp X63.here hx rfl (hb hby at_143) rfl) ?_
        show Go p e below s _ _ _ T63 (mkF m 144 #[.val (.long ql), .second, .val (.long qs), .second, .val (.long qo), .second, .val (.int md), .val (.int (2 : Int32)), .val (.ref b28), .val (.ref b41), .val (.int (1 : Int32)), .val (.int (0 : Int32)), .val (.int (1 : Int32)), .unset] [(.int (lcmpW qs ql))])
        refine Go.st (fun _ => XS.ifYes X63.here hx rfl (pc0 := 144) (pc' := 151) rfl (hb hby at_144) rfl ((if0 _ _).trans (tlt ((lw_lt qs ql).mpr hc64)).1) (by decide) (by decide)) ?_
        show Go p e below s _ _ _ T63 (mkF m 151 #[.val (.long ql), .second, .val (.long qs), .second, .val (.long qo), .second, .val (.int md), .val (.int (2 : Int32)), .val (.ref b28), .val (.ref b41), .val (.int (1 : Int32)), .val (.int (0 : Int32)), .val (.int (1 : Int32)), .unset] [])
        refine Go.st (fun _ => XS.iconst X63.here hx rfl (hb hby at_151)) ?_
        show Go p e below s _ _ _ T63 (mkF m 152 #[.val (.long ql), .second, .val (.long qs), .second, .val (.long qo), .second, .val (.int md), .val (.int (2 : Int32)), .val (.ref b28), .val (.ref b41), .val (.int (1 : Int32)), .val (.int (0 : Int32)), .val (.int (1 : Int32)), .unset] [(.int (0 : Int32))])
        refine Go.st (fun _ => XS.istore X63.here hx rfl (hb hby at_152) rfl (l' := #[.val (.long ql), .second, .val (.long qs), .second, .val (.long qo), .second, .val (.int md), .val (.int (2 : Int32)), .val (.ref b28), .val (.ref b41), .val (.int (1 : Int32)), .val (.int (0 : Int32)), .val (.int (1 : Int32)), .val (.int (0 : Int32))]) rfl) ?_
        show Go p e below s _ _ _ T63 (mkF m 154 #[.val (.long ql), .second, .val (.long qs), .second, .val (.long qo), .second, .val (.int md), .val (.int (2 : Int32)), .val (.ref b28), .val (.ref b41), .val (.int (1 : Int32)), .val (.int (0 : Int32)), .val (.int (1 : Int32)), .val (.int (0 : Int32))] [])
        refine Go.st (fun _ => XS.iload X63.here hx rfl (hb hby at_154) rfl) ?_
        show Go p e below s _ _ _ T63 (mkF m 156 #[.val (.long ql), .second, .val (.long qs), .second, .val (.long qo), .second, .val (.int md), .val (.int (2 : Int32)), .val (.ref b28), .val (.ref b41), .val (.int (1 : Int32)), .val (.int (0 : Int32)), .val (.int (1 : Int32)), .val (.int (0 : Int32))] [(.int (1 : Int32))])
        refine Go.st (fun _ => XS.iload X63.here hx rfl (hb hby at_156) rfl) ?_
        show Go p e below s _ _ _ T63 (mkF m 158 #[.val (.long ql), .second, .val (.long qs), .second, .val (.long qo), .second, .val (.int md), .val (.int (2 : Int32)), .val (.ref b28), .val (.ref b41), .val (.int (1 : Int32)), .val (.int (0 : Int32)), .val (.int (1 : Int32)), .val (.int (0 : Int32))] [(.int (1 : Int32)), (.int (1 : Int32))])
        refine Go.st (fun _ => XS.icmpNo X63.here hx rfl (hb hby at_158) rfl (teq (by decide : (1 : Int32) = (1 : Int32))).2) ?_
        show Go p e below s _ _ _ T63 (mkF m 161 #[.val (.long ql), .second, .val (.long qs), .second, .val (.long qo), .second, .val (.int md), .val (.int (2 : Int32)), .val (.ref b28), .val (.ref b41), .val (.int (1 : Int32)), .val (.int (0 : Int32)), .val (.int (1 : Int32)), .val (.int (0 : Int32))] [])
        refine Go.st (fun _ => XS.iload X63.here hx rfl (hb hby at_161) rfl) ?_
        show Go p e below s _ _ _ T63 (mkF m 163 #[.val (.long ql), .second, .val (.long qs), .second, .val (.long qo), .second, .val (.int md), .val (.int (2 : Int32)), .val (.ref b28), .val (.ref b41), .val (.int (1 : Int32)), .val (.int (0 : Int32)), .val (.int (1 : Int32)), .val (.int (0 : Int32))] [(.int (0 : Int32))])
        refine Go.st (fun _ => XS.iload X63.here hx rfl (hb hby at_163) rfl) ?_
        show Go p e below s _ _ _ T63 (mkF m 165 #[.val (.long ql), .second, .val (.long qs), .second, .val (.long qo), .second, .val (.int md), .val (.int (2 : Int32)), .val (.ref b28), .val (.ref b41), .val (.int (1 : Int32)), .val (.int (0 : Int32)), .val (.int (1 : Int32)), .val (.int (0 : Int32))] [(.int (0 : Int32)), (.int (0 : Int32))])
        refine Go.st (fun _ => XS.icmpNo X63.here hx rfl (hb hby at_165) rfl (teq (by decide : (0 : Int32) = (0 : Int32))).2) ?_
        show Go p e below s _ _ _ T63 (mkF m 168 #[.val (.long ql), .second, .val (.long qs), .second, .val (.long qo), .second, .val (.int md), .val (.int (2 : Int32)), .val (.ref b28), .val (.ref b41), .val (.int (1 : Int32)), .val (.int (0 : Int32)), .val (.int (1 : Int32)), .val (.int (0 : Int32))] [])
        refine Go.st (fun _ => XS.iconst X63.here hx rfl (hb hby at_168)) ?_
        show Go p e below s _ _ _ T63 (mkF m 169 #[.val (.long ql), .second, .val (.long qs), .second, .val (.long qo), .second, .val (.int md), .val (.int (2 : Int32)), .val (.ref b28), .val (.ref b41), .val (.int (1 : Int32)), .val (.int (0 : Int32)), .val (.int (1 : Int32)), .val (.int (0 : Int32))] [(.int (1 : Int32))])
        refine Go.st (fun _ => XS.goto X63.here hx rfl (pc0 := 169) (pc' := 173) rfl (hb hby at_169) (by decide) (by decide)) ?_
        show Go p e below s _ _ _ T63 (mkF m 173 #[.val (.long ql), .second, .val (.long qs), .second, .val (.long qo), .second, .val (.int md), .val (.int (2 : Int32)), .val (.ref b28), .val (.ref b41), .val (.int (1 : Int32)), .val (.int (0 : Int32)), .val (.int (1 : Int32)), .val (.int (0 : Int32))] [(.int (1 : Int32))])
        exact Go.retZ X63 hx hlk Bd.returns (hb hby at_173) rfl (by rw [e63]; exact ⟨rfl, N63⟩) (by decide) (by decide)
      · rw [show (b2i (¬ (qs < ql))) = (1 : Int32) from b2i_pos hc64]
        show Go p e below s _ _ _ T63 (mkF m 102 #[.val (.long ql), .second, .val (.long qs), .second, .val (.long qo), .second, .val (.int md), .val (.int (2 : Int32)), .val (.ref b28), .val (.ref b41), .val (.int (1 : Int32)), .unset, .unset, .unset] [(.int (1 : Int32))])
        refine Go.st (fun _ => XS.istore X63.here hx rfl (hb hby at_102) rfl (l' := #[.val (.long ql), .second, .val (.long qs), .second, .val (.long qo), .second, .val (.int md), .val (.int (2 : Int32)), .val (.ref b28), .val (.ref b41), .val (.int (1 : Int32)), .val (.int (1 : Int32)), .unset, .unset]) rfl) ?_
        show Go p e below s _ _ _ T63 (mkF m 104 #[.val (.long ql), .second, .val (.long qs), .second, .val (.long qo), .second, .val (.int md), .val (.int (2 : Int32)), .val (.ref b28), .val (.ref b41), .val (.int (1 : Int32)), .val (.int (1 : Int32)), .unset, .unset] [])
        refine Go.st (fun _ => XS.lloadN X63.here hx rfl (hb hby at_104) rfl) ?_
        show Go p e below s _ _ _ T63 (mkF m 105 #[.val (.long ql), .second, .val (.long qs), .second, .val (.long qo), .second, .val (.int md), .val (.int (2 : Int32)), .val (.ref b28), .val (.ref b41), .val (.int (1 : Int32)), .val (.int (1 : Int32)), .unset, .unset] [(.long ql)])
        refine Go.st (fun _ => XS.lconst X63.here hx rfl (hb hby at_105)) ?_
        show Go p e below s _ _ _ T63 (mkF m 106 #[.val (.long ql), .second, .val (.long qs), .second, .val (.long qo), .second, .val (.int md), .val (.int (2 : Int32)), .val (.ref b28), .val (.ref b41), .val (.int (1 : Int32)), .val (.int (1 : Int32)), .unset, .unset] [(.long (0 : Int64)), (.long ql)])
        refine Go.st (fun _ => XS.lcmp X63.here hx rfl (hb hby at_106) rfl) ?_
        show Go p e below s _ _ _ T63 (mkF m 107 #[.val (.long ql), .second, .val (.long qs), .second, .val (.long qo), .second, .val (.int md), .val (.int (2 : Int32)), .val (.ref b28), .val (.ref b41), .val (.int (1 : Int32)), .val (.int (1 : Int32)), .unset, .unset] [(.int (lcmpW ql (0 : Int64)))])
        refine Go.st (fun _ => XS.ifNo X63.here hx rfl (hb hby at_107) rfl ((if0 _ _).trans (flt (fun qq => hc46 ((lw_gt ql (0 : Int64)).mp qq))).2.2.1)) ?_
        show Go p e below s _ _ _ T63 (mkF m 110 #[.val (.long ql), .second, .val (.long qs), .second, .val (.long qo), .second, .val (.int md), .val (.int (2 : Int32)), .val (.ref b28), .val (.ref b41), .val (.int (1 : Int32)), .val (.int (1 : Int32)), .unset, .unset] [])
        refine Go.st (fun _ => XS.iconst X63.here hx rfl (hb hby at_110)) ?_
        show Go p e below s _ _ _ T63 (mkF m 111 #[.val (.long ql), .second, .val (.long qs), .second, .val (.long qo), .second, .val (.int md), .val (.int (2 : Int32)), .val (.ref b28), .val (.ref b41), .val (.int (1 : Int32)), .val (.int (1 : Int32)), .unset, .unset] [(.int (1 : Int32))])
        refine Go.st (fun _ => XS.goto X63.here hx rfl (pc0 := 111) (pc' := 115) rfl (hb hby at_111) (by decide) (by decide)) ?_
        show Go p e below s _ _ _ T63 (mkF m 115 #[.val (.long ql), .second, .val (.long qs), .second, .val (.long qo), .second, .val (.int md), .val (.int (2 : Int32)), .val (.ref b28), .val (.ref b41), .val (.int (1 : Int32)), .val (.int (1 : Int32)), .unset, .unset] [(.int (1 : Int32))])
        refine Go.st (fun _ => XS.istore X63.here hx rfl (hb hby at_115) rfl (l' := #[.val (.long ql), .second, .val (.long qs), .second, .val (.long qo), .second, .val (.int md), .val (.int (2 : Int32)), .val (.ref b28), .val (.ref b41), .val (.int (1 : Int32)), .val (.int (1 : Int32)), .val (.int (1 : Int32)), .unset]) rfl) ?_
        show Go p e below s _ _ _ T63 (mkF m 117 #[.val (.long ql), .second, .val (.long qs), .second, .val (.long qo), .second, .val (.int md), .val (.int (2 : Int32)), .val (.ref b28), .val (.ref b41), .val (.int (1 : Int32)), .val (.int (1 : Int32)), .val (.int (1 : Int32)), .unset] [])
        refine Go.st (fun _ => XS.iload X63.here hx rfl (hb hby at_117) rfl) ?_
        show Go p e below s _ _ _ T63 (mkF m 119 #[.val (.long ql), .second, .val (.long qs), .second, .val (.long qo), .second, .val (.int md), .val (.int (2 : Int32)), .val (.ref b28), .val (.ref b41), .val (.int (1 : Int32)), .val (.int (1 : Int32)), .val (.int (1 : Int32)), .unset] [(.int (2 : Int32))])
        refine Go.st (fun _ => XS.ifYes X63.here hx rfl (pc0 := 119) (pc' := 129) rfl (hb hby at_119) rfl ((if0 _ _).trans (feq (by decide : ¬ ((2 : Int32) = (0 : Int32)))).2) (by decide) (by decide)) ?_
        show Go p e below s _ _ _ T63 (mkF m 129 #[.val (.long ql), .second, .val (.long qs), .second, .val (.long qo), .second, .val (.int md), .val (.int (2 : Int32)), .val (.ref b28), .val (.ref b41), .val (.int (1 : Int32)), .val (.int (1 : Int32)), .val (.int (1 : Int32)), .unset] [])
        refine Go.st (fun _ => XS.iload X63.here hx rfl (hb hby at_129) rfl) ?_
        show Go p e below s _ _ _ T63 (mkF m 131 #[.val (.long ql), .second, .val (.long qs), .second, .val (.long qo), .second, .val (.int md), .val (.int (2 : Int32)), .val (.ref b28), .val (.ref b41), .val (.int (1 : Int32)), .val (.int (1 : Int32)), .val (.int (1 : Int32)), .unset] [(.int (2 : Int32))])
        refine Go.st (fun _ => XS.iconst X63.here hx rfl (hb hby at_131)) ?_
        show Go p e below s _ _ _ T63 (mkF m 132 #[.val (.long ql), .second, .val (.long qs), .second, .val (.long qo), .second, .val (.int md), .val (.int (2 : Int32)), .val (.ref b28), .val (.ref b41), .val (.int (1 : Int32)), .val (.int (1 : Int32)), .val (.int (1 : Int32)), .unset] [(.int (1 : Int32)), (.int (2 : Int32))])
        refine Go.st (fun _ => XS.icmpYes X63.here hx rfl (pc0 := 132) (pc' := 141) rfl (hb hby at_132) rfl (feq (by decide : ¬ ((2 : Int32) = (1 : Int32)))).2 (by decide) (by decide)) ?_
        show Go p e below s _ _ _ T63 (mkF m 141 #[.val (.long ql), .second, .val (.long qs), .second, .val (.long qo), .second, .val (.int md), .val (.int (2 : Int32)), .val (.ref b28), .val (.ref b41), .val (.int (1 : Int32)), .val (.int (1 : Int32)), .val (.int (1 : Int32)), .unset] [])
        refine Go.st (fun _ => XS.lloadN X63.here hx rfl (hb hby at_141) rfl) ?_
        show Go p e below s _ _ _ T63 (mkF m 142 #[.val (.long ql), .second, .val (.long qs), .second, .val (.long qo), .second, .val (.int md), .val (.int (2 : Int32)), .val (.ref b28), .val (.ref b41), .val (.int (1 : Int32)), .val (.int (1 : Int32)), .val (.int (1 : Int32)), .unset] [(.long qs)])
        refine Go.st (fun _ => XS.lloadN X63.here hx rfl (hb hby at_142) rfl) ?_
        show Go p e below s _ _ _ T63 (mkF m 143 #[.val (.long ql), .second, .val (.long qs), .second, .val (.long qo), .second, .val (.int md), .val (.int (2 : Int32)), .val (.ref b28), .val (.ref b41), .val (.int (1 : Int32)), .val (.int (1 : Int32)), .val (.int (1 : Int32)), .unset] [(.long ql), (.long qs)])
        refine Go.st (fun _ => XS.lcmp X63.here hx rfl (hb hby at_143) rfl) ?_
        show Go p e below s _ _ _ T63 (mkF m 144 #[.val (.long ql), .second, .val (.long qs), .second, .val (.long qo), .second, .val (.int md), .val (.int (2 : Int32)), .val (.ref b28), .val (.ref b41), .val (.int (1 : Int32)), .val (.int (1 : Int32)), .val (.int (1 : Int32)), .unset] [(.int (lcmpW qs ql))])
        refine Go.st (fun _ => XS.ifNo X63.here hx rfl (hb hby at_144) rfl ((if0 _ _).trans (flt (fun qq => hc64 ((lw_lt qs ql).mp qq))).1)) ?_
        show Go p e below s _ _ _ T63 (mkF m 147 #[.val (.long ql), .second, .val (.long qs), .second, .val (.long qo), .second, .val (.int md), .val (.int (2 : Int32)), .val (.ref b28), .val (.ref b41), .val (.int (1 : Int32)), .val (.int (1 : Int32)), .val (.int (1 : Int32)), .unset] [])
        refine Go.st (fun _ => XS.iconst X63.here hx rfl (hb hby at_147)) ?_
        show Go p e below s _ _ _ T63 (mkF m 148 #[.val (.long ql), .second, .val (.long qs), .second, .val (.long qo), .second, .val (.int md), .val (.int (2 : Int32)), .val (.ref b28), .val (.ref b41), .val (.int (1 : Int32)), .val (.int (1 : Int32)), .val (.int (1 : Int32)), .unset] [(.int (1 : Int32))])
        refine Go.st (fun _ => XS.goto X63.here hx rfl (pc0 := 148) (pc' := 152) rfl (hb hby at_148) (by decide) (by decide)) ?_
        show Go p e below s _ _ _ T63 (mkF m 152 #[.val (.long ql), .second, .val (.long qs), .second, .val (.long qo), .second, .val (.int md), .val (.int (2 : Int32)), .val (.ref b28), .val (.ref b41), .val (.int (1 : Int32)), .val (.int (1 : Int32)), .val (.int (1 : Int32)), .unset] [(.int (1 : Int32))])
        refine Go.st (fun _ => XS.istore X63.here hx rfl (hb hby at_152) rfl (l' := #[.val (.long ql), .second, .val (.long qs), .second, .val (.long qo), .second, .val (.int md), .val (.int (2 : Int32)), .val (.ref b28), .val (.ref b41), .val (.int (1 : Int32)), .val (.int (1 : Int32)), .val (.int (1 : Int32)), .val (.int (1 : Int32))]) rfl) ?_
        show Go p e below s _ _ _ T63 (mkF m 154 #[.val (.long ql), .second, .val (.long qs), .second, .val (.long qo), .second, .val (.int md), .val (.int (2 : Int32)), .val (.ref b28), .val (.ref b41), .val (.int (1 : Int32)), .val (.int (1 : Int32)), .val (.int (1 : Int32)), .val (.int (1 : Int32))] [])
        refine Go.st (fun _ => XS.iload X63.here hx rfl (hb hby at_154) rfl) ?_
        show Go p e below s _ _ _ T63 (mkF m 156 #[.val (.long ql), .second, .val (.long qs), .second, .val (.long qo), .second, .val (.int md), .val (.int (2 : Int32)), .val (.ref b28), .val (.ref b41), .val (.int (1 : Int32)), .val (.int (1 : Int32)), .val (.int (1 : Int32)), .val (.int (1 : Int32))] [(.int (1 : Int32))])
        refine Go.st (fun _ => XS.iload X63.here hx rfl (hb hby at_156) rfl) ?_
        show Go p e below s _ _ _ T63 (mkF m 158 #[.val (.long ql), .second, .val (.long qs), .second, .val (.long qo), .second, .val (.int md), .val (.int (2 : Int32)), .val (.ref b28), .val (.ref b41), .val (.int (1 : Int32)), .val (.int (1 : Int32)), .val (.int (1 : Int32)), .val (.int (1 : Int32))] [(.int (1 : Int32)), (.int (1 : Int32))])
        refine Go.st (fun _ => XS.icmpNo X63.here hx rfl (hb hby at_158) rfl (teq (by decide : (1 : Int32) = (1 : Int32))).2) ?_
        show Go p e below s _ _ _ T63 (mkF m 161 #[.val (.long ql), .second, .val (.long qs), .second, .val (.long qo), .second, .val (.int md), .val (.int (2 : Int32)), .val (.ref b28), .val (.ref b41), .val (.int (1 : Int32)), .val (.int (1 : Int32)), .val (.int (1 : Int32)), .val (.int (1 : Int32))] [])
        refine Go.st (fun _ => XS.iload X63.here hx rfl (hb hby at_161) rfl) ?_
        show Go p e below s _ _ _ T63 (mkF m 163 #[.val (.long ql), .second, .val (.long qs), .second, .val (.long qo), .second, .val (.int md), .val (.int (2 : Int32)), .val (.ref b28), .val (.ref b41), .val (.int (1 : Int32)), .val (.int (1 : Int32)), .val (.int (1 : Int32)), .val (.int (1 : Int32))] [(.int (1 : Int32))])
        refine Go.st (fun _ => XS.iload X63.here hx rfl (hb hby at_163) rfl) ?_
        show Go p e below s _ _ _ T63 (mkF m 165 #[.val (.long ql), .second, .val (.long qs), .second, .val (.long qo), .second, .val (.int md), .val (.int (2 : Int32)), .val (.ref b28), .val (.ref b41), .val (.int (1 : Int32)), .val (.int (1 : Int32)), .val (.int (1 : Int32)), .val (.int (1 : Int32))] [(.int (1 : Int32)), (.int (1 : Int32))])
        refine Go.st (fun _ => XS.icmpNo X63.here hx rfl (hb hby at_165) rfl (teq (by decide : (1 : Int32) = (1 : Int32))).2) ?_
        show Go p e below s _ _ _ T63 (mkF m 168 #[.val (.long ql), .second, .val (.long qs), .second, .val (.long qo), .second, .val (.int md), .val (.int (2 : Int32)), .val (.ref b28), .val (.ref b41), .val (.int (1 : Int32)), .val (.int (1 : Int32)), .val (.int (1 : Int32)), .val (.int (1 : Int32))] [])
        refine Go.st (fun _ => XS.iconst X63.here hx rfl (hb hby at_168)) ?_
        show Go p e below s _ _ _ T63 (mkF m 169 #[.val (.long ql), .second, .val (.long qs), .second, .val (.long qo), .second, .val (.int md), .val (.int (2 : Int32)), .val (.ref b28), .val (.ref b41), .val (.int (1 : Int32)), .val (.int (1 : Int32)), .val (.int (1 : Int32)), .val (.int (1 : Int32))] [(.int (1 : Int32))])
        refine Go.st (fun _ => XS.goto X63.here hx rfl (pc0 := 169) (pc' := 173) rfl (hb hby at_169) (by decide) (by decide)) ?_
        show Go p e below s _ _ _ T63 (mkF m 173 #[.val (.long ql), .second, .val (.long qs), .second, .val (.long qo), .second, .val (.int md), .val (.int (2 : Int32)), .val (.ref b28), .val (.ref b41), .val (.int (1 : Int32)), .val (.int (1 : Int32)), .val (.int (1 : Int32)), .val (.int (1 : Int32))] [(.int (1 : Int32))])
        exact Go.retZ X63 hx hlk Bd.returns (hb hby at_173) rfl (by rw [e63]; exact ⟨rfl, N63⟩) (by decide) (by decide)
  · rw [show (md &&& (3 : Int32)) = (3 : Int32) from hd1]
    show Go p e below s _ _ _ s₁ (mkF m 4 #[.val (.long ql), .second, .val (.long qs), .second, .val (.long qo), .second, .val (.int md), .unset, .unset, .unset, .unset, .unset, .unset, .unset] [(.int (3 : Int32))])
    refine Go.st (fun _ => XS.istore X0.here hx rfl (hb hby at_4) rfl (l' := #[.val (.long ql), .second, .val (.long qs), .second, .val (.long qo), .second, .val (.int md), .val (.int (3 : Int32)), .unset, .unset, .unset, .unset, .unset, .unset]) rfl) ?_
    show Go p e below s _ _ _ s₁ (mkF m 6 #[.val (.long ql), .second, .val (.long qs), .second, .val (.long qo), .second, .val (.int md), .val (.int (3 : Int32)), .unset, .unset, .unset, .unset, .unset, .unset] [])
    obtain ⟨T65, h65, X65, e65, E65, A65, D65, -, st65⟩ := newO X0 hx hZ hown (hw _ (List.mem_of_getElem? (i := 0) rfl)) (hw _ (List.mem_of_getElem? (i := 1) rfl)) (hw _ (List.mem_of_getElem? (i := 2) rfl)) e0 (g := (mkF m 6 #[.val (.long ql), .second, .val (.long qs), .second, .val (.long qo), .second, .val (.int md), .val (.int (3 : Int32)), .unset, .unset, .unset, .unset, .unset, .unset] [])) rfl (hb hby at_6) (by decide) (by decide)
    obtain ⟨b65, g65⟩ : ∃ z, z = h0.size := ⟨_, rfl⟩
    rw [← g65] at A65 D65 st65
    refine Go.st st65 ?_
    have ne_u_b65 : u ≠ b65 := Nat.ne_of_lt (Nat.lt_of_lt_of_eq V_u.lt g65.symm)
    have gg65 : n0 ≤ b65 := Nat.le_trans Z0 (Nat.le_of_eq g65.symm)
    have z65 : n0 ≤ h65.size := Nat.le_trans Z0 E65.1
    have F_modCount_b65 : Fld Z h65 b65 "java/util/AbstractList" "modCount" "I" (.int (0 : Int32)) := D65 (Or.inl (hw _ (List.mem_of_getElem? (i := 22) rfl))) (ty := .int) (by decide)
    have F_elementData_b65 : Fld Z h65 b65 "java/util/ArrayList" "elementData" "[Ljava/lang/Object;" .null := D65 (Or.inl (hw _ (List.mem_of_getElem? (i := 25) rfl))) (ty := (.array (.object "java/lang/Object"))) (by decide)
    have F_size_b65 : Fld Z h65 b65 "java/util/ArrayList" "size" "I" (.int (0 : Int32)) := D65 (Or.inl (hw _ (List.mem_of_getElem? (i := 60) rfl))) (ty := .int) (by decide)
    show Go p e below s _ _ _ T65 (mkF m 9 #[.val (.long ql), .second, .val (.long qs), .second, .val (.long qo), .second, .val (.int md), .val (.int (3 : Int32)), .unset, .unset, .unset, .unset, .unset, .unset] [(.ref b65)])
    refine Go.st (fun _ => XS.dup X65.here hx rfl (hb hby at_9) rfl rfl) ?_
    show Go p e below s _ _ _ T65 (mkF m 10 #[.val (.long ql), .second, .val (.long qs), .second, .val (.long qo), .second, .val (.int md), .val (.int (3 : Int32)), .unset, .unset, .unset, .unset, .unset, .unset] [(.ref b65), (.ref b65)])
    have f67 := (S_DEFAULTCAPACITY_EMPTY_ELEMENTDATA.ext E65)
    obtain ⟨_, _, ⟨T66, L66, kc66, nc66⟩, -, X66, ⟨Lc66, hQ66, l66, y66, z66⟩, st66⟩ := X65.specialBack hx (y := (⟨"java/util/ArrayList", "<init>", "()V"⟩ : MethodName)) rfl hown (mvT hZ (hw _ (List.mem_of_getElem? (i := 3) rfl))) (mvT hZ (hw _ (List.mem_of_getElem? (i := 4) rfl))) (mvT hZ (hw _ (List.mem_of_getElem? (i := 5) rfl))) (by decide) (backOf (W := 1) (rmAl l Z a0 hw [] b65 u h65 n0 z65 A65 F_modCount_b65 F_elementData_b65 F_size_b65 f67 gg65) hZ (hw _ (List.mem_of_getElem? (i := 5) rfl)) (hw _ (List.mem_of_getElem? (i := 2) rfl)) (by decide) (by decide)) (g := (mkF m 10 #[.val (.long ql), .second, .val (.long qs), .second, .val (.long qo), .second, .val (.int md), .val (.int (3 : Int32)), .unset, .unset, .unset, .unset, .unset, .unset] [(.ref b65), (.ref b65)])) rfl (by rw [hml]; rfl) (Steps.refl _) (a := b65) (argsL := []) (rest := [(.ref b65)]) (lenOf pd_0 rfl) rfl (by show 2 * 0 + _ ≤ _; exact Nat.le_of_eq rfl) (hb hby at_10) (fun _ _ => ⟨rfl, e65, (by decide : 1 + 0 ≤ _), (by decide : 3 + 0 ≤ _)⟩)
    dsimp only [Pt.U, Pt.locs, Pt.cells, Pt.slots] at X66 l66 y66 z66 st66 hQ66
    subst l66 y66 z66
    obtain ⟨h66, e66⟩ : ∃ hh, T66.heap = hh := ⟨_, rfl⟩
    rw [e66] at hQ66
    obtain ⟨rfl, N66q, K66, p66_0, p66_1, p66_2, p66_3⟩ := hQ66
    have N66 := Fr.app N0 N66q
    refine Go.st (fun _ kk => st66.trans kk) ?_
    have z66q : n0 ≤ h66.size := Nat.le_trans z65 K66.1
    have ns66 : ∀ x ∈ ([b65] : List Addr), ∀ cell : Cell, h65[x]? = some cell → cell.vm.isStatics = false := (allS A65.nostat all0)
    show Go p e below s _ _ _ T66 (mkF m 13 #[.val (.long ql), .second, .val (.long qs), .second, .val (.long qo), .second, .val (.int md), .val (.int (3 : Int32)), .unset, .unset, .unset, .unset, .unset, .unset] [(.ref b65)])
    refine Go.st (fun _ => XS.astore X66.here hx rfl (hb hby at_13) rfl rfl (l' := #[.val (.long ql), .second, .val (.long qs), .second, .val (.long qo), .second, .val (.int md), .val (.int (3 : Int32)), .val (.ref b65), .unset, .unset, .unset, .unset, .unset]) rfl) ?_
    show Go p e below s _ _ _ T66 (mkF m 15 #[.val (.long ql), .second, .val (.long qs), .second, .val (.long qo), .second, .val (.int md), .val (.int (3 : Int32)), .val (.ref b65), .unset, .unset, .unset, .unset, .unset] [])
    refine Go.st (fun _ => XS.iload X66.here hx rfl (hb hby at_15) rfl) ?_
    show Go p e below s _ _ _ T66 (mkF m 17 #[.val (.long ql), .second, .val (.long qs), .second, .val (.long qo), .second, .val (.int md), .val (.int (3 : Int32)), .val (.ref b65), .unset, .unset, .unset, .unset, .unset] [(.int (3 : Int32))])
    refine Go.st (fun _ => XS.iconst X66.here hx rfl (hb hby at_17)) ?_
    show Go p e below s _ _ _ T66 (mkF m 18 #[.val (.long ql), .second, .val (.long qs), .second, .val (.long qo), .second, .val (.int md), .val (.int (3 : Int32)), .val (.ref b65), .unset, .unset, .unset, .unset, .unset] [(.int (3 : Int32)), (.int (3 : Int32))])
    refine Go.st (fun _ => XS.icmpNo X66.here hx rfl (hb hby at_18) rfl (teq (by decide : (3 : Int32) = (3 : Int32))).2) ?_
    show Go p e below s _ _ _ T66 (mkF m 21 #[.val (.long ql), .second, .val (.long qs), .second, .val (.long qo), .second, .val (.int md), .val (.int (3 : Int32)), .val (.ref b65), .unset, .unset, .unset, .unset, .unset] [])
    refine Go.st (fun _ => XS.aload X66.here hx rfl (hb hby at_21) rfl rfl) ?_
    show Go p e below s _ _ _ T66 (mkF m 23 #[.val (.long ql), .second, .val (.long qs), .second, .val (.long qo), .second, .val (.int md), .val (.int (3 : Int32)), .val (.ref b65), .unset, .unset, .unset, .unset, .unset] [(.ref b65)])
    obtain ⟨T68, h68, X68, e68, E68, A68, D68, -, st68⟩ := newO X66 hx hZ hown (hw _ (List.mem_of_getElem? (i := 26) rfl)) (hw _ (List.mem_of_getElem? (i := 27) rfl)) (hw _ (List.mem_of_getElem? (i := 28) rfl)) e66 (g := (mkF m 23 #[.val (.long ql), .second, .val (.long qs), .second, .val (.long qo), .second, .val (.int md), .val (.int (3 : Int32)), .val (.ref b65), .unset, .unset, .unset, .unset, .unset] [(.ref b65)])) rfl (hb hby at_23) (by decide) (by decide)
    obtain ⟨b68, g68⟩ : ∃ z, z = h66.size := ⟨_, rfl⟩
    rw [← g68] at A68 D68 st68
    refine Go.st st68 ?_
    have f69 := ((V_u.ext E65).keep K66 (ninS ne_u_b65 nin0))
    have ne_u_b68 : u ≠ b68 := Nat.ne_of_lt (Nat.lt_of_lt_of_eq f69.lt g68.symm)
    have ne_b65_b68 : b65 ≠ b68 := Nat.ne_of_lt (Nat.lt_of_lt_of_eq p66_0.lt g68.symm)
    have gg68 : n0 ≤ b68 := Nat.le_trans z66q (Nat.le_of_eq g68.symm)
    have z68 : n0 ≤ h68.size := Nat.le_trans z66q E68.1
    have F_sequence_b68 : Fld Z h68 b68 "com/example/plaingrant/plaingrant/store/AuditEntry" "sequence" "J" (.long (0 : Int64)) := D68 (Or.inr (hw _ (List.mem_of_getElem? (i := 39) rfl))) (ty := .long) (by decide)
    have F_time_b68 : Fld Z h68 b68 "com/example/plaingrant/plaingrant/store/AuditEntry" "time" "Ljava/lang/String;" .null := D68 (Or.inr (hw _ (List.mem_of_getElem? (i := 41) rfl))) (ty := (.object "java/lang/String")) (by decide)
    have F_actor_b68 : Fld Z h68 b68 "com/example/plaingrant/plaingrant/store/AuditEntry" "actor" "Ljava/lang/String;" .null := D68 (Or.inr (hw _ (List.mem_of_getElem? (i := 43) rfl))) (ty := (.object "java/lang/String")) (by decide)
    have F_required_b68 : Fld Z h68 b68 "com/example/plaingrant/plaingrant/store/AuditEntry" "required" "Ljava/lang/String;" .null := D68 (Or.inr (hw _ (List.mem_of_getElem? (i := 45) rfl))) (ty := (.object "java/lang/String")) (by decide)
    have F_change_b68 : Fld Z h68 b68 "com/example/plaingrant/plaingrant/store/AuditEntry" "change" "Ljava/lang/String;" .null := D68 (Or.inr (hw _ (List.mem_of_getElem? (i := 47) rfl))) (ty := (.object "java/lang/String")) (by decide)
    have F_outcome_b68 : Fld Z h68 b68 "com/example/plaingrant/plaingrant/store/AuditEntry" "outcome" "Lcom/example/plaingrant/plaingrant/store/AuditEntry$Outcome;" .null := D68 (Or.inr (hw _ (List.mem_of_getElem? (i := 49) rfl))) (ty := (.object "com/example/plaingrant/plaingrant/store/AuditEntry$Outcome")) (by decide)
    have F_hash_b68 : Fld Z h68 b68 "com/example/plaingrant/plaingrant/store/AuditEntry" "hash" "Ljava/lang/String;" .null := D68 (Or.inr (hw _ (List.mem_of_getElem? (i := 51) rfl))) (ty := (.object "java/lang/String")) (by decide)
    show Go p e below s _ _ _ T68 (mkF m 26 #[.val (.long ql), .second, .val (.long qs), .second, .val (.long qo), .second, .val (.int md), .val (.int (3 : Int32)), .val (.ref b65), .unset, .unset, .unset, .unset, .unset] [(.ref b68), (.ref b65)])
    refine Go.st (fun _ => XS.dup X68.here hx rfl (hb hby at_26) rfl rfl) ?_
    show Go p e below s _ _ _ T68 (mkF m 27 #[.val (.long ql), .second, .val (.long qs), .second, .val (.long qo), .second, .val (.int md), .val (.int (3 : Int32)), .val (.ref b65), .unset, .unset, .unset, .unset, .unset] [(.ref b68), (.ref b68), (.ref b65)])
    refine Go.st (fun _ => XS.lload X68.here hx rfl (hb hby at_27) rfl) ?_
    show Go p e below s _ _ _ T68 (mkF m 29 #[.val (.long ql), .second, .val (.long qs), .second, .val (.long qo), .second, .val (.int md), .val (.int (3 : Int32)), .val (.ref b65), .unset, .unset, .unset, .unset, .unset] [(.long qo), (.ref b68), (.ref b68), (.ref b65)])
    refine Go.st (fun _ => XS.aconstNull X68.here hx rfl (hb hby at_29)) ?_
    show Go p e below s _ _ _ T68 (mkF m 30 #[.val (.long ql), .second, .val (.long qs), .second, .val (.long qo), .second, .val (.int md), .val (.int (3 : Int32)), .val (.ref b65), .unset, .unset, .unset, .unset, .unset] [.null, (.long qo), (.ref b68), (.ref b68), (.ref b65)])
    refine Go.st (fun _ => XS.aconstNull X68.here hx rfl (hb hby at_30)) ?_
    show Go p e below s _ _ _ T68 (mkF m 31 #[.val (.long ql), .second, .val (.long qs), .second, .val (.long qo), .second, .val (.int md), .val (.int (3 : Int32)), .val (.ref b65), .unset, .unset, .unset, .unset, .unset] [.null, .null, (.long qo), (.ref b68), (.ref b68), (.ref b65)])
    refine Go.st (fun _ => XS.aconstNull X68.here hx rfl (hb hby at_31)) ?_
    show Go p e below s _ _ _ T68 (mkF m 32 #[.val (.long ql), .second, .val (.long qs), .second, .val (.long qo), .second, .val (.int md), .val (.int (3 : Int32)), .val (.ref b65), .unset, .unset, .unset, .unset, .unset] [.null, .null, .null, (.long qo), (.ref b68), (.ref b68), (.ref b65)])
    refine Go.st (fun _ => XS.aconstNull X68.here hx rfl (hb hby at_32)) ?_
    show Go p e below s _ _ _ T68 (mkF m 33 #[.val (.long ql), .second, .val (.long qs), .second, .val (.long qo), .second, .val (.int md), .val (.int (3 : Int32)), .val (.ref b65), .unset, .unset, .unset, .unset, .unset] [.null, .null, .null, .null, (.long qo), (.ref b68), (.ref b68), (.ref b65)])
    refine Go.st (fun _ => XS.aconstNull X68.here hx rfl (hb hby at_33)) ?_
    show Go p e below s _ _ _ T68 (mkF m 34 #[.val (.long ql), .second, .val (.long qs), .second, .val (.long qo), .second, .val (.int md), .val (.int (3 : Int32)), .val (.ref b65), .unset, .unset, .unset, .unset, .unset] [.null, .null, .null, .null, .null, (.long qo), (.ref b68), (.ref b68), (.ref b65)])
    refine Go.st (fun _ => XS.aconstNull X68.here hx rfl (hb hby at_34)) ?_
    show Go p e below s _ _ _ T68 (mkF m 35 #[.val (.long ql), .second, .val (.long qs), .second, .val (.long qo), .second, .val (.int md), .val (.int (3 : Int32)), .val (.ref b65), .unset, .unset, .unset, .unset, .unset] [.null, .null, .null, .null, .null, .null, (.long qo), (.ref b68), (.ref b68), (.ref b65)])
    obtain ⟨_, _, ⟨T70, L70, kc70, nc70⟩, -, X70, ⟨Lc70, hQ70, l70, y70, z70⟩, st70⟩ := X68.specialBack hx (y := (⟨"com/example/plaingrant/plaingrant/store/AuditEntry", "<init>", "(JLjava/lang/String;Ljava/lang/String;Ljava/lang/String;Ljava/lang/String;Lcom/example/plaingrant/plaingrant/store/AuditEntry$Outcome;Ljava/lang/String;)V"⟩ : MethodName)) rfl hown (mvT hZ (hw _ (List.mem_of_getElem? (i := 29) rfl))) (mvT hZ (hw _ (List.mem_of_getElem? (i := 30) rfl))) (mvT hZ (hw _ (List.mem_of_getElem? (i := 31) rfl))) (by decide) (backOf (W := 2) (rmEn l Z a0 hw [] b68 qo h68 n0 z68 A68 F_sequence_b68 F_time_b68 F_actor_b68 F_required_b68 F_change_b68 F_outcome_b68 F_hash_b68 gg68) hZ (hw _ (List.mem_of_getElem? (i := 31) rfl)) (hw _ (List.mem_of_getElem? (i := 28) rfl)) (by decide) (by decide)) (g := (mkF m 35 #[.val (.long ql), .second, .val (.long qs), .second, .val (.long qo), .second, .val (.int md), .val (.int (3 : Int32)), .val (.ref b65), .unset, .unset, .unset, .unset, .unset] [.null, .null, .null, .null, .null, .null, (.long qo), (.ref b68), (.ref b68), (.ref b65)])) rfl (by rw [hml]; rfl) (Steps.refl _) (a := b68) (argsL := [(.long qo), .null, .null, .null, .null, .null, .null]) (rest := [(.ref b68), (.ref b65)]) (lenOf pd_12 rfl) rfl (by show 2 * 0 + _ ≤ _; exact Nat.le_of_eq rfl) (hb hby at_35) (fun _ _ => ⟨rfl, e68, (by decide : 2 + 0 ≤ _), (by decide : 10 + 0 ≤ _)⟩)
    dsimp only [Pt.U, Pt.locs, Pt.cells, Pt.slots] at X70 l70 y70 z70 st70 hQ70
    subst l70 y70 z70
    obtain ⟨h70, e70⟩ : ∃ hh, T70.heap = hh := ⟨_, rfl⟩
    rw [e70] at hQ70
    obtain ⟨rfl, N70q, K70, p70_0, p70_1⟩ := hQ70
    have N70 := Fr.app N66 N70q
    refine Go.st (fun _ kk => st70.trans kk) ?_
    have z70q : n0 ≤ h70.size := Nat.le_trans z68 K70.1
    have ns70 : ∀ x ∈ ([b68] : List Addr), ∀ cell : Cell, h68[x]? = some cell → cell.vm.isStatics = false := (allS A68.nostat all0)
    show Go p e below s _ _ _ T70 (mkF m 38 #[.val (.long ql), .second, .val (.long qs), .second, .val (.long qo), .second, .val (.int md), .val (.int (3 : Int32)), .val (.ref b65), .unset, .unset, .unset, .unset, .unset] [(.ref b68), (.ref b65)])
    have f72 := ((p66_0.ext E68).keep K70)
    have f73 := ((p66_1.ext E68).keep K70 (ninS ne_b65_b68 nin0))
    have f74 := ((p66_3.ext E68).keep K70 (ninS ne_b65_b68 nin0))
    have f75 := ((p66_2.ext E68).keep K70 (ninS ne_b65_b68 nin0))
    have f76 := (own_sta_keep ((own_sta_keep f67 K66 ns66).ext E68) K70 ns70)
    have f77 := ((f69.ext E68).keep K70 (ninS ne_u_b68 nin0))
    obtain ⟨cq71, kq71, q71a, q71b, q71c⟩ := isOf hZ e70 f72
    obtain ⟨_, _, ⟨T71, L71, kc71, nc71⟩, -, X71, ⟨Lc71, hQ71, l71, y71, z71⟩, st71⟩ := X70.virtualBack hx (y := (⟨"java/util/ArrayList", "add", "(Ljava/lang/Object;)Z"⟩ : MethodName)) (z := (⟨"java/util/ArrayList", "add", "(Ljava/lang/Object;)Z"⟩ : MethodName)) hown (mvT hZ (hw _ (List.mem_of_getElem? (i := 52) rfl))) (mvT hZ (hw _ (List.mem_of_getElem? (i := 53) rfl))) (notFace_of_selects (args := #[]) (mvT hZ (hw _ (List.mem_of_getElem? (i := 55) rfl)))) (mvT hZ (hw _ (List.mem_of_getElem? (i := 55) rfl))) (mvT hZ (hw _ (List.mem_of_getElem? (i := 54) rfl))) (by decide) (backOf (W := 0) (rmAa l Z a0 hw [] b65 b68 u ku (0 : Int32) h70 n0 z70q f72 f73 f74 f75 f76 f77 gg65 ne_u_b65 p70_0) hZ (hw _ (List.mem_of_getElem? (i := 56) rfl)) (hw _ (List.mem_of_getElem? (i := 2) rfl)) (by decide) (by decide)) q71a q71c (g := (mkF m 38 #[.val (.long ql), .second, .val (.long qs), .second, .val (.long qo), .second, .val (.int md), .val (.int (3 : Int32)), .val (.ref b65), .unset, .unset, .unset, .unset, .unset] [(.ref b68), (.ref b65)])) rfl (by rw [hml]; rfl) (Steps.refl _) (argsL := [(.ref b68)]) (rest := []) (lenOf pd_13 rfl) rfl (by show 2 * 0 + _ ≤ _; exact Nat.le_of_eq rfl) (hb hby at_38) (fun _ _ => ⟨rfl, e70, (by decide : 2 + 1 ≤ _), (by decide : 10 + 10 ≤ _)⟩)
    dsimp only [Pt.U, Pt.locs, Pt.cells, Pt.slots] at X71 l71 y71 z71 st71 hQ71
    subst l71 y71 z71
    obtain ⟨h71, e71⟩ : ∃ hh, T71.heap = hh := ⟨_, rfl⟩
    rw [e71] at hQ71
    obtain ⟨t_71, kt_71, rfl, N71q, K71, p71_0, p71_1, p71_2, p71_3, p71_4, p71_5, p71_6, p71_7⟩ := hQ71
    have N71 := Fr.app N70 N71q
    refine Go.st (fun _ kk => st71.trans kk) ?_
    have ne_u_t_71 : u ≠ t_71 := Nat.ne_of_lt (Nat.lt_of_lt_of_le f77.lt p71_0)
    have ne_b65_t_71 : b65 ≠ t_71 := Nat.ne_of_lt (Nat.lt_of_lt_of_le f72.lt p71_0)
    have ne_b68_t_71 : b68 ≠ t_71 := Nat.ne_of_lt (Nat.lt_of_lt_of_le p70_0.lt p71_0)
    have z71q : n0 ≤ h71.size := Nat.le_trans z70q K71.1
    have ns71 : ∀ x ∈ ([b65] : List Addr), ∀ cell : Cell, h70[x]? = some cell → cell.vm.isStatics = false := (allS f72.nostat all0)
    rw [show ((0 : Int32) + (1 : Int32)) = (1 : Int32) from by decide] at p71_3
    show Go p e below s _ _ _ T71 (mkF m 41 #[.val (.long ql), .second, .val (.long qs), .second, .val (.long qo), .second, .val (.int md), .val (.int (3 : Int32)), .val (.ref b65), .unset, .unset, .unset, .unset, .unset] [(.int (1 : Int32))])
    refine Go.st (fun _ => XS.pop X71.here hx rfl (hb hby at_41) rfl rfl) ?_
    show Go p e below s _ _ _ T71 (mkF m 42 #[.val (.long ql), .second, .val (.long qs), .second, .val (.long qo), .second, .val (.int md), .val (.int (3 : Int32)), .val (.ref b65), .unset, .unset, .unset, .unset, .unset] [])
    refine Go.st (fun _ => XS.iload X71.here hx rfl (hb hby at_42) rfl) ?_
    show Go p e below s _ _ _ T71 (mkF m 44 #[.val (.long ql), .second, .val (.long qs), .second, .val (.long qo), .second, .val (.int md), .val (.int (3 : Int32)), .val (.ref b65), .unset, .unset, .unset, .unset, .unset] [(.int (3 : Int32))])
    refine Go.st (fun _ => XS.iconst X71.here hx rfl (hb hby at_44)) ?_
    show Go p e below s _ _ _ T71 (mkF m 45 #[.val (.long ql), .second, .val (.long qs), .second, .val (.long qo), .second, .val (.int md), .val (.int (3 : Int32)), .val (.ref b65), .unset, .unset, .unset, .unset, .unset] [(.int (2 : Int32)), (.int (3 : Int32))])
    refine Go.st (fun _ => XS.icmpNo X71.here hx rfl (hb hby at_45) rfl (flt (by decide : ¬ ((3 : Int32) < (2 : Int32)))).1) ?_
    show Go p e below s _ _ _ T71 (mkF m 48 #[.val (.long ql), .second, .val (.long qs), .second, .val (.long qo), .second, .val (.int md), .val (.int (3 : Int32)), .val (.ref b65), .unset, .unset, .unset, .unset, .unset] [])
    refine Go.st (fun _ => XS.aload X71.here hx rfl (hb hby at_48) rfl rfl) ?_
    show Go p e below s _ _ _ T71 (mkF m 50 #[.val (.long ql), .second, .val (.long qs), .second, .val (.long qo), .second, .val (.int md), .val (.int (3 : Int32)), .val (.ref b65), .unset, .unset, .unset, .unset, .unset] [(.ref b65)])
    obtain ⟨T78, h78, X78, e78, E78, A78, D78, -, st78⟩ := newO X71 hx hZ hown (hw _ (List.mem_of_getElem? (i := 26) rfl)) (hw _ (List.mem_of_getElem? (i := 27) rfl)) (hw _ (List.mem_of_getElem? (i := 28) rfl)) e71 (g := (mkF m 50 #[.val (.long ql), .second, .val (.long qs), .second, .val (.long qo), .second, .val (.int md), .val (.int (3 : Int32)), .val (.ref b65), .unset, .unset, .unset, .unset, .unset] [(.ref b65)])) rfl (hb hby at_50) (by decide) (by decide)
    obtain ⟨b78, g78⟩ : ∃ z, z = h71.size := ⟨_, rfl⟩
    rw [← g78] at A78 D78 st78
    refine Go.st st78 ?_
    have f79 := (f77.keep K71 (ninS ne_u_b65 nin0))
    have ne_u_b78 : u ≠ b78 := Nat.ne_of_lt (Nat.lt_of_lt_of_eq f79.lt g78.symm)
    have ne_b65_b78 : b65 ≠ b78 := Nat.ne_of_lt (Nat.lt_of_lt_of_eq p71_2.lt g78.symm)
    have f80 := (p70_0.keep K71)
    have ne_b68_b78 : b68 ≠ b78 := Nat.ne_of_lt (Nat.lt_of_lt_of_eq f80.lt g78.symm)
    have ne_t_71_b78 : t_71 ≠ b78 := Nat.ne_of_lt (Nat.lt_of_lt_of_eq p71_6.lt g78.symm)
    have gg78 : n0 ≤ b78 := Nat.le_trans z71q (Nat.le_of_eq g78.symm)
    have z78 : n0 ≤ h78.size := Nat.le_trans z71q E78.1
    have F_sequence_b78 : Fld Z h78 b78 "com/example/plaingrant/plaingrant/store/AuditEntry" "sequence" "J" (.long (0 : Int64)) := D78 (Or.inr (hw _ (List.mem_of_getElem? (i := 39) rfl))) (ty := .long) (by decide)
    have F_time_b78 : Fld Z h78 b78 "com/example/plaingrant/plaingrant/store/AuditEntry" "time" "Ljava/lang/String;" .null := D78 (Or.inr (hw _ (List.mem_of_getElem? (i := 41) rfl))) (ty := (.object "java/lang/String")) (by decide)
    have F_actor_b78 : Fld Z h78 b78 "com/example/plaingrant/plaingrant/store/AuditEntry" "actor" "Ljava/lang/String;" .null := D78 (Or.inr (hw _ (List.mem_of_getElem? (i := 43) rfl))) (ty := (.object "java/lang/String")) (by decide)
    have F_required_b78 : Fld Z h78 b78 "com/example/plaingrant/plaingrant/store/AuditEntry" "required" "Ljava/lang/String;" .null := D78 (Or.inr (hw _ (List.mem_of_getElem? (i := 45) rfl))) (ty := (.object "java/lang/String")) (by decide)
    have F_change_b78 : Fld Z h78 b78 "com/example/plaingrant/plaingrant/store/AuditEntry" "change" "Ljava/lang/String;" .null := D78 (Or.inr (hw _ (List.mem_of_getElem? (i := 47) rfl))) (ty := (.object "java/lang/String")) (by decide)
    have F_outcome_b78 : Fld Z h78 b78 "com/example/plaingrant/plaingrant/store/AuditEntry" "outcome" "Lcom/example/plaingrant/plaingrant/store/AuditEntry$Outcome;" .null := D78 (Or.inr (hw _ (List.mem_of_getElem? (i := 49) rfl))) (ty := (.object "com/example/plaingrant/plaingrant/store/AuditEntry$Outcome")) (by decide)
    have F_hash_b78 : Fld Z h78 b78 "com/example/plaingrant/plaingrant/store/AuditEntry" "hash" "Ljava/lang/String;" .null := D78 (Or.inr (hw _ (List.mem_of_getElem? (i := 51) rfl))) (ty := (.object "java/lang/String")) (by decide)
    show Go p e below s _ _ _ T78 (mkF m 53 #[.val (.long ql), .second, .val (.long qs), .second, .val (.long qo), .second, .val (.int md), .val (.int (3 : Int32)), .val (.ref b65), .unset, .unset, .unset, .unset, .unset] [(.ref b78), (.ref b65)])
    refine Go.st (fun _ => XS.dup X78.here hx rfl (hb hby at_53) rfl rfl) ?_
    show Go p e below s _ _ _ T78 (mkF m 54 #[.val (.long ql), .second, .val (.long qs), .second, .val (.long qo), .second, .val (.int md), .val (.int (3 : Int32)), .val (.ref b65), .unset, .unset, .unset, .unset, .unset] [(.ref b78), (.ref b78), (.ref b65)])
    refine Go.st (fun _ => XS.lloadN X78.here hx rfl (hb hby at_54) rfl) ?_
    show Go p e below s _ _ _ T78 (mkF m 55 #[.val (.long ql), .second, .val (.long qs), .second, .val (.long qo), .second, .val (.int md), .val (.int (3 : Int32)), .val (.ref b65), .unset, .unset, .unset, .unset, .unset] [(.long qs), (.ref b78), (.ref b78), (.ref b65)])
    refine Go.st (fun _ => XS.aconstNull X78.here hx rfl (hb hby at_55)) ?_
    show Go p e below s _ _ _ T78 (mkF m 56 #[.val (.long ql), .second, .val (.long qs), .second, .val (.long qo), .second, .val (.int md), .val (.int (3 : Int32)), .val (.ref b65), .unset, .unset, .unset, .unset, .unset] [.null, (.long qs), (.ref b78), (.ref b78), (.ref b65)])
    refine Go.st (fun _ => XS.aconstNull X78.here hx rfl (hb hby at_56)) ?_
    show Go p e below s _ _ _ T78 (mkF m 57 #[.val (.long ql), .second, .val (.long qs), .second, .val (.long qo), .second, .val (.int md), .val (.int (3 : Int32)), .val (.ref b65), .unset, .unset, .unset, .unset, .unset] [.null, .null, (.long qs), (.ref b78), (.ref b78), (.ref b65)])
    refine Go.st (fun _ => XS.aconstNull X78.here hx rfl (hb hby at_57)) ?_
    show Go p e below s _ _ _ T78 (mkF m 58 #[.val (.long ql), .second, .val (.long qs), .second, .val (.long qo), .second, .val (.int md), .val (.int (3 : Int32)), .val (.ref b65), .unset, .unset, .unset, .unset, .unset] [.null, .null, .null, (.long qs), (.ref b78), (.ref b78), (.ref b65)])
    refine Go.st (fun _ => XS.aconstNull X78.here hx rfl (hb hby at_58)) ?_
    show Go p e below s _ _ _ T78 (mkF m 59 #[.val (.long ql), .second, .val (.long qs), .second, .val (.long qo), .second, .val (.int md), .val (.int (3 : Int32)), .val (.ref b65), .unset, .unset, .unset, .unset, .unset] [.null, .null, .null, .null, (.long qs), (.ref b78), (.ref b78), (.ref b65)])
    refine Go.st (fun _ => XS.aconstNull X78.here hx rfl (hb hby at_59)) ?_
    show Go p e below s _ _ _ T78 (mkF m 60 #[.val (.long ql), .second, .val (.long qs), .second, .val (.long qo), .second, .val (.int md), .val (.int (3 : Int32)), .val (.ref b65), .unset, .unset, .unset, .unset, .unset] [.null, .null, .null, .null, .null, (.long qs), (.ref b78), (.ref b78), (.ref b65)])
    refine Go.st (fun _ => XS.aconstNull X78.here hx rfl (hb hby at_60)) ?_
    show Go p e below s _ _ _ T78 (mkF m 61 #[.val (.long ql), .second, .val (.long qs), .second, .val (.long qo), .second, .val (.int md), .val (.int (3 : Int32)), .val (.ref b65), .unset, .unset, .unset, .unset, .unset] [.null, .null, .null, .null, .null, .null, (.long qs), (.ref b78), (.ref b78), (.ref b65)])
    obtain ⟨_, _, ⟨T81, L81, kc81, nc81⟩, -, X81, ⟨Lc81, hQ81, l81, y81, z81⟩, st81⟩ := X78.specialBack hx (y := (⟨"com/example/plaingrant/plaingrant/store/AuditEntry", "<init>", "(JLjava/lang/String;Ljava/lang/String;Ljava/lang/String;Ljava/lang/String;Lcom/example/plaingrant/plaingrant/store/AuditEntry$Outcome;Ljava/lang/String;)V"⟩ : MethodName)) rfl hown (mvT hZ (hw _ (List.mem_of_getElem? (i := 29) rfl))) (mvT hZ (hw _ (List.mem_of_getElem? (i := 30) rfl))) (mvT hZ (hw _ (List.mem_of_getElem? (i := 31) rfl))) (by decide) (backOf (W := 2) (rmEn l Z a0 hw [] b78 qs h78 n0 z78 A78 F_sequence_b78 F_time_b78 F_actor_b78 F_required_b78 F_change_b78 F_outcome_b78 F_hash_b78 gg78) hZ (hw _ (List.mem_of_getElem? (i := 31) rfl)) (hw _ (List.mem_of_getElem? (i := 28) rfl)) (by decide) (by decide)) (g := (mkF m 61 #[.val (.long ql), .second, .val (.long qs), .second, .val (.long qo), .second, .val (.int md), .val (.int (3 : Int32)), .val (.ref b65), .unset, .unset, .unset, .unset, .unset] [.null, .null, .null, .null, .null, .null, (.long qs), (.ref b78), (.ref b78), (.ref b65)])) rfl (by rw [hml]; rfl) (Steps.refl _) (a := b78) (argsL := [(.long qs), .null, .null, .null, .null, .null, .null]) (rest := [(.ref b78), (.ref b65)]) (lenOf pd_12 rfl) rfl (by show 2 * 0 + _ ≤ _; exact Nat.le_of_eq rfl) (hb hby at_61) (fun _ _ => ⟨rfl, e78, (by decide : 4 + 0 ≤ _), (by decide : 27 + 0 ≤ _)⟩)
    dsimp only [Pt.U, Pt.locs, Pt.cells, Pt.slots] at X81 l81 y81 z81 st81 hQ81
    subst l81 y81 z81
    obtain ⟨h81, e81⟩ : ∃ hh, T81.heap = hh := ⟨_, rfl⟩
    rw [e81] at hQ81
    obtain ⟨rfl, N81q, K81, p81_0, p81_1⟩ := hQ81
    have N81 := Fr.app N71 N81q
    refine Go.st (fun _ kk => st81.trans kk) ?_
    have z81q : n0 ≤ h81.size := Nat.le_trans z78 K81.1
    have ns81 : ∀ x ∈ ([b78] : List Addr), ∀ cell : Cell, h78[x]? = some cell → cell.vm.isStatics = false := (allS A78.nostat all0)
    show Go p e below s _ _ _ T81 (mkF m 64 #[.val (.long ql), .second, .val (.long qs), .second, .val (.long qo), .second, .val (.int md), .val (.int (3 : Int32)), .val (.ref b65), .unset, .unset, .unset, .unset, .unset] [(.ref b78), (.ref b65)])
    have f83 := ((p71_2.ext E78).keep K81)
    have f84 := ((p71_3.ext E78).keep K81 (ninS ne_b65_b78 nin0))
    have f85 := ((p71_4.ext E78).keep K81 (ninS ne_b65_b78 nin0))
    have f86 := ((p71_5.ext E78).keep K81 (ninS ne_b65_b78 nin0))
    have f87 := ((p71_6.ext E78).keep K81 (ninS ne_t_71_b78 nin0))
    obtain ⟨cq82, kq82, q82a, q82b, q82c⟩ := isOf hZ e81 f83
    obtain ⟨_, _, ⟨T82, L82, kc82, nc82⟩, -, X82, ⟨Lc82, hQ82, l82, y82, z82⟩, st82⟩ := X81.virtualBack hx (y := (⟨"java/util/ArrayList", "add", "(Ljava/lang/Object;)Z"⟩ : MethodName)) (z := (⟨"java/util/ArrayList", "add", "(Ljava/lang/Object;)Z"⟩ : MethodName)) hown (mvT hZ (hw _ (List.mem_of_getElem? (i := 52) rfl))) (mvT hZ (hw _ (List.mem_of_getElem? (i := 53) rfl))) (notFace_of_selects (args := #[]) (mvT hZ (hw _ (List.mem_of_getElem? (i := 55) rfl)))) (mvT hZ (hw _ (List.mem_of_getElem? (i := 55) rfl))) (mvT hZ (hw _ (List.mem_of_getElem? (i := 54) rfl))) (by decide) (backOf (W := 0) (rmBb l Z a0 hw [] b65 b78 t_71 kt_71 (1 : Int32) b68 h81 n0 z81q f83 f84 f85 f86 f87 p71_7 gg65 p71_1 (Ne.symm ne_b65_t_71) p81_0) hZ (hw _ (List.mem_of_getElem? (i := 56) rfl)) (hw _ (List.mem_of_getElem? (i := 2) rfl)) (by decide) (by decide)) q82a q82c (g := (mkF m 64 #[.val (.long ql), .second, .val (.long qs), .second, .val (.long qo), .second, .val (.int md), .val (.int (3 : Int32)), .val (.ref b65), .unset, .unset, .unset, .unset, .unset] [(.ref b78), (.ref b65)])) rfl (by rw [hml]; rfl) (Steps.refl _) (argsL := [(.ref b78)]) (rest := []) (lenOf pd_13 rfl) rfl (by show 2 * 0 + _ ≤ _; exact Nat.le_of_eq rfl) (hb hby at_64) (fun _ _ => ⟨rfl, e81, (by decide : 4 + 0 ≤ _), (by decide : 27 + 0 ≤ _)⟩)
    dsimp only [Pt.U, Pt.locs, Pt.cells, Pt.slots] at X82 l82 y82 z82 st82 hQ82
    subst l82 y82 z82
    obtain ⟨h82, e82⟩ : ∃ hh, T82.heap = hh := ⟨_, rfl⟩
    rw [e82] at hQ82
    obtain ⟨rfl, N82q, K82, p82_0, p82_1, p82_2, p82_3⟩ := hQ82
    have N82 := Fr.app N81 N82q
    refine Go.st (fun _ kk => st82.trans kk) ?_
    have z82q : n0 ≤ h82.size := Nat.le_trans z81q K82.1
    have ns82 : ∀ x ∈ ([b65, t_71] : List Addr), ∀ cell : Cell, h81[x]? = some cell → cell.vm.isStatics = false := (allS f83.nostat (allS (own_arv_nostat f87) all0))
    show Go p e below s _ _ _ T82 (mkF m 67 #[.val (.long ql), .second, .val (.long qs), .second, .val (.long qo), .second, .val (.int md), .val (.int (3 : Int32)), .val (.ref b65), .unset, .unset, .unset, .unset, .unset] [(.int (1 : Int32))])
    refine Go.st (fun _ => XS.pop X82.here hx rfl (hb hby at_67) rfl rfl) ?_
    show Go p e below s _ _ _ T82 (mkF m 68 #[.val (.long ql), .second, .val (.long qs), .second, .val (.long qo), .second, .val (.int md), .val (.int (3 : Int32)), .val (.ref b65), .unset, .unset, .unset, .unset, .unset] [])
    obtain ⟨T88, h88, X88, e88, E88, A88, D88, -, st88⟩ := newO X82 hx hZ hown (hw _ (List.mem_of_getElem? (i := 83) rfl)) (hw _ (List.mem_of_getElem? (i := 84) rfl)) (hw _ (List.mem_of_getElem? (i := 85) rfl)) e82 (g := (mkF m 68 #[.val (.long ql), .second, .val (.long qs), .second, .val (.long qo), .second, .val (.int md), .val (.int (3 : Int32)), .val (.ref b65), .unset, .unset, .unset, .unset, .unset] [])) rfl (hb hby at_68) (by decide) (by decide)
    obtain ⟨b88, g88⟩ : ∃ z, z = h82.size := ⟨_, rfl⟩
    rw [← g88] at A88 D88 st88
    refine Go.st st88 ?_
    have f89 := (((f79.ext E78).keep K81 (ninS ne_u_b78 nin0)).keep K82 (ninS ne_u_b65 (ninS ne_u_t_71 nin0)))
    have ne_u_b88 : u ≠ b88 := Nat.ne_of_lt (Nat.lt_of_lt_of_eq f89.lt g88.symm)
    have ne_b65_b88 : b65 ≠ b88 := Nat.ne_of_lt (Nat.lt_of_lt_of_eq p82_0.lt g88.symm)
    have f90 := (((f80.ext E78).keep K81).keep K82)
    have ne_b68_b88 : b68 ≠ b88 := Nat.ne_of_lt (Nat.lt_of_lt_of_eq f90.lt g88.symm)
    have ne_t_71_b88 : t_71 ≠ b88 := Nat.ne_of_lt (Nat.lt_of_lt_of_eq p82_3.lt g88.symm)
    have f91 := (p81_0.keep K82)
    have ne_b78_b88 : b78 ≠ b88 := Nat.ne_of_lt (Nat.lt_of_lt_of_eq f91.lt g88.symm)
    have gg88 : n0 ≤ b88 := Nat.le_trans z82q (Nat.le_of_eq g88.symm)
    have z88 : n0 ≤ h88.size := Nat.le_trans z82q E88.1
    have F_mLast_b88 : Fld Z h88 b88 "com/example/plaingrant/plaingrant/store/AuditPages" "mLast" "J" (.long (0 : Int64)) := D88 (Or.inr (hw _ (List.mem_of_getElem? (i := 91) rfl))) (ty := .long) (by decide)
    have F_mGiven_b88 : Fld Z h88 b88 "com/example/plaingrant/plaingrant/store/AuditPages" "mGiven" "J" (.long (0 : Int64)) := D88 (Or.inl (hw _ (List.mem_of_getElem? (i := 98) rfl))) (ty := .long) (by decide)
    show Go p e below s _ _ _ T88 (mkF m 71 #[.val (.long ql), .second, .val (.long qs), .second, .val (.long qo), .second, .val (.int md), .val (.int (3 : Int32)), .val (.ref b65), .unset, .unset, .unset, .unset, .unset] [(.ref b88)])
    refine Go.st (fun _ => XS.dup X88.here hx rfl (hb hby at_71) rfl rfl) ?_
    show Go p e below s _ _ _ T88 (mkF m 72 #[.val (.long ql), .second, .val (.long qs), .second, .val (.long qo), .second, .val (.int md), .val (.int (3 : Int32)), .val (.ref b65), .unset, .unset, .unset, .unset, .unset] [(.ref b88), (.ref b88)])
    refine Go.st (fun _ => XS.lloadN X88.here hx rfl (hb hby at_72) rfl) ?_
    show Go p e below s _ _ _ T88 (mkF m 73 #[.val (.long ql), .second, .val (.long qs), .second, .val (.long qo), .second, .val (.int md), .val (.int (3 : Int32)), .val (.ref b65), .unset, .unset, .unset, .unset, .unset] [(.long ql), (.ref b88), (.ref b88)])
    obtain ⟨_, _, ⟨T92, L92, kc92, nc92⟩, -, X92, ⟨Lc92, hQ92, l92, y92, z92⟩, st92⟩ := X88.specialBack hx (y := (⟨"com/example/plaingrant/plaingrant/store/AuditPages", "<init>", "(J)V"⟩ : MethodName)) rfl hown (mvT hZ (hw _ (List.mem_of_getElem? (i := 86) rfl))) (mvT hZ (hw _ (List.mem_of_getElem? (i := 87) rfl))) (mvT hZ (hw _ (List.mem_of_getElem? (i := 88) rfl))) (by decide) (backOf (W := 1) (rmPi l Z a0 hw [] b88 ql h88 n0 z88 A88 F_mLast_b88 F_mGiven_b88 gg88) hZ (hw _ (List.mem_of_getElem? (i := 88) rfl)) (hw _ (List.mem_of_getElem? (i := 85) rfl)) (by decide) (by decide)) (g := (mkF m 73 #[.val (.long ql), .second, .val (.long qs), .second, .val (.long qo), .second, .val (.int md), .val (.int (3 : Int32)), .val (.ref b65), .unset, .unset, .unset, .unset, .unset] [(.long ql), (.ref b88), (.ref b88)])) rfl (by rw [hml]; rfl) (Steps.refl _) (a := b88) (argsL := [(.long ql)]) (rest := [(.ref b88)]) (lenOf pd_10 rfl) rfl (by show 2 * 0 + _ ≤ _; exact Nat.le_of_eq rfl) (hb hby at_73) (fun _ _ => ⟨rfl, e88, (by decide : 5 + 0 ≤ _), (by decide : 29 + 0 ≤ _)⟩)
    dsimp only [Pt.U, Pt.locs, Pt.cells, Pt.slots] at X92 l92 y92 z92 st92 hQ92
    subst l92 y92 z92
    obtain ⟨h92, e92⟩ : ∃ hh, T92.heap = hh := ⟨_, rfl⟩
    rw [e92] at hQ92
    obtain ⟨rfl, N92q, K92, p92_0, p92_1, p92_2⟩ := hQ92
    have N92 := Fr.app N82 N92q
    refine Go.st (fun _ kk => st92.trans kk) ?_
    have z92q : n0 ≤ h92.size := Nat.le_trans z88 K92.1
    have ns92 : ∀ x ∈ ([b88] : List Addr), ∀ cell : Cell, h88[x]? = some cell → cell.vm.isStatics = false := (allS A88.nostat all0)
    show Go p e below s _ _ _ T92 (mkF m 76 #[.val (.long ql), .second, .val (.long qs), .second, .val (.long qo), .second, .val (.int md), .val (.int (3 : Int32)), .val (.ref b65), .unset, .unset, .unset, .unset, .unset] [(.ref b88)])
    refine Go.st (fun _ => XS.astore X92.here hx rfl (hb hby at_76) rfl rfl (l' := #[.val (.long ql), .second, .val (.long qs), .second, .val (.long qo), .second, .val (.int md), .val (.int (3 : Int32)), .val (.ref b65), .val (.ref b88), .unset, .unset, .unset, .unset]) rfl) ?_
    show Go p e below s _ _ _ T92 (mkF m 78 #[.val (.long ql), .second, .val (.long qs), .second, .val (.long qo), .second, .val (.int md), .val (.int (3 : Int32)), .val (.ref b65), .val (.ref b88), .unset, .unset, .unset, .unset] [])
    refine Go.st (fun _ => XS.aload X92.here hx rfl (hb hby at_78) rfl rfl) ?_
    show Go p e below s _ _ _ T92 (mkF m 80 #[.val (.long ql), .second, .val (.long qs), .second, .val (.long qo), .second, .val (.int md), .val (.int (3 : Int32)), .val (.ref b65), .val (.ref b88), .unset, .unset, .unset, .unset] [(.ref b88)])
    obtain ⟨cq93, kq93, q93a, q93b, q93c⟩ := isOf hZ e92 p92_0
    obtain ⟨_, _, ⟨T93, L93, kc93, nc93⟩, -, X93, ⟨Lc93, hQ93, l93, y93, z93⟩, st93⟩ := X92.virtualBack hx (y := (⟨"com/example/plaingrant/plaingrant/store/AuditPages", "isDone", "()Z"⟩ : MethodName)) (z := (⟨"com/example/plaingrant/plaingrant/store/AuditPages", "isDone", "()Z"⟩ : MethodName)) hown (mvT hZ (hw _ (List.mem_of_getElem? (i := 92) rfl))) (mvT hZ (hw _ (List.mem_of_getElem? (i := 93) rfl))) (notFace_of_selects (args := #[]) (mvT hZ (hw _ (List.mem_of_getElem? (i := 95) rfl)))) (mvT hZ (hw _ (List.mem_of_getElem? (i := 95) rfl))) (mvT hZ (hw _ (List.mem_of_getElem? (i := 94) rfl))) (by decide) (backOf (W := 0) (rmDo l Z a0 hw [] b88 ql (0 : Int64) h92 n0 z92q p92_1 p92_2) hZ (hw _ (List.mem_of_getElem? (i := 96) rfl)) (hw _ (List.mem_of_getElem? (i := 85) rfl)) (by decide) (by decide)) q93a q93c (g := (mkF m 80 #[.val (.long ql), .second, .val (.long qs), .second, .val (.long qo), .second, .val (.int md), .val (.int (3 : Int32)), .val (.ref b65), .val (.ref b88), .unset, .unset, .unset, .unset] [(.ref b88)])) rfl (by rw [hml]; rfl) (Steps.refl _) (argsL := []) (rest := []) (lenOf pd_7 rfl) rfl (by show 2 * 0 + _ ≤ _; exact Nat.le_of_eq rfl) (hb hby at_80) (fun _ _ => ⟨rfl, e92, (by decide : 5 + 0 ≤ _), (by decide : 29 + 0 ≤ _)⟩)
    dsimp only [Pt.U, Pt.locs, Pt.cells, Pt.slots] at X93 l93 y93 z93 st93 hQ93
    subst l93 y93 z93
    obtain ⟨h93, e93⟩ : ∃ hh, T93.heap = hh := ⟨_, rfl⟩
    rw [e93] at hQ93
    obtain ⟨rfl, N93q, sm93⟩ := hQ93
    have N93 := Fr.app N92 N93q
    refine Go.st (fun _ kk => st93.trans kk) ?_
    rw [sm93] at e93
    show Go p e below s _ _ _ T93 (mkF m 83 #[.val (.long ql), .second, .val (.long qs), .second, .val (.long qo), .second, .val (.int md), .val (.int (3 : Int32)), .val (.ref b65), .val (.ref b88), .unset, .unset, .unset, .unset] [(.int (b2i (¬ ((0 : Int64) < ql))))])
    by_cases hc94 : (0 : Int64) < ql
    · rw [show (b2i (¬ ((0 : Int64) < ql))) = (0 : Int32) from b2i_neg (not_not_intro hc94)]
      show Go p e below s _ _ _ T93 (mkF m 83 #[.val (.long ql), .second, .val (.long qs), .second, .val (.long qo), .second, .val (.int md), .val (.int (3 : Int32)), .val (.ref b65), .val (.ref b88), .unset, .unset, .unset, .unset] [(.int (0 : Int32))])
      refine Go.st (fun _ => XS.istore X93.here hx rfl (hb hby at_83) rfl (l' := #[.val (.long ql), .second, .val (.long qs), .second, .val (.long qo), .second, .val (.int md), .val (.int (3 : Int32)), .val (.ref b65), .val (.ref b88), .val (.int (0 : Int32)), .unset, .unset, .unset]) rfl) ?_
      show Go p e below s _ _ _ T93 (mkF m 85 #[.val (.long ql), .second, .val (.long qs), .second, .val (.long qo), .second, .val (.int md), .val (.int (3 : Int32)), .val (.ref b65), .val (.ref b88), .val (.int (0 : Int32)), .unset, .unset, .unset] [])
      refine Go.st (fun _ => XS.iload X93.here hx rfl (hb hby at_85) rfl) ?_
      show Go p e below s _ _ _ T93 (mkF m 87 #[.val (.long ql), .second, .val (.long qs), .second, .val (.long qo), .second, .val (.int md), .val (.int (3 : Int32)), .val (.ref b65), .val (.ref b88), .val (.int (0 : Int32)), .unset, .unset, .unset] [(.int (3 : Int32))])
      refine Go.st (fun _ => XS.ifNo X93.here hx rfl (hb hby at_87) rfl ((if0 _ _).trans (feq (by decide : ¬ ((3 : Int32) = (0 : Int32)))).1)) ?_
      show Go p e below s _ _ _ T93 (mkF m 90 #[.val (.long ql), .second, .val (.long qs), .second, .val (.long qo), .second, .val (.int md), .val (.int (3 : Int32)), .val (.ref b65), .val (.ref b88), .val (.int (0 : Int32)), .unset, .unset, .unset] [])
      refine Go.st (fun _ => XS.aload X93.here hx rfl (hb hby at_90) rfl rfl) ?_
      show Go p e below s _ _ _ T93 (mkF m 92 #[.val (.long ql), .second, .val (.long qs), .second, .val (.long qo), .second, .val (.int md), .val (.int (3 : Int32)), .val (.ref b65), .val (.ref b88), .val (.int (0 : Int32)), .unset, .unset, .unset] [(.ref b88)])
      refine Go.st (fun _ => XS.aload X93.here hx rfl (hb hby at_92) rfl rfl) ?_
      show Go p e below s _ _ _ T93 (mkF m 94 #[.val (.long ql), .second, .val (.long qs), .second, .val (.long qo), .second, .val (.int md), .val (.int (3 : Int32)), .val (.ref b65), .val (.ref b88), .val (.int (0 : Int32)), .unset, .unset, .unset] [(.ref b65), (.ref b88)])
      have f96 := ((p82_0.ext E88).keep K92)
      have f97 := ((p82_1.ext E88).keep K92 (ninS ne_b65_b88 nin0))
      have f98 := ((p82_2.ext E88).keep K92 (ninS ne_b65_b88 nin0))
      have f99 := ((p82_3.ext E88).keep K92 (ninS ne_t_71_b88 nin0))
      have f100 := ((f91.ext E88).keep K92)
      have f101 := (((p81_1.keep K82 (ninS (Ne.symm ne_b65_b78) (ninS (Ne.symm ne_t_71_b78) nin0))).ext E88).keep K92 (ninS ne_b78_b88 nin0))
      obtain ⟨cq95, kq95, q95a, q95b, q95c⟩ := isOf hZ e93 p92_0
      obtain ⟨_, _, ⟨T95, L95, kc95, nc95⟩, -, X95, ⟨Lc95, hQ95, l95, y95, z95⟩, st95⟩ := X93.virtualBack hx (y := (⟨"com/example/plaingrant/plaingrant/store/AuditPages", "gave", "(Ljava/util/List;)V"⟩ : MethodName)) (z := (⟨"com/example/plaingrant/plaingrant/store/AuditPages", "gave", "(Ljava/util/List;)V"⟩ : MethodName)) hown (mvT hZ (hw _ (List.mem_of_getElem? (i := 99) rfl))) (mvT hZ (hw _ (List.mem_of_getElem? (i := 100) rfl))) (notFace_of_selects (args := #[]) (mvT hZ (hw _ (List.mem_of_getElem? (i := 102) rfl)))) (mvT hZ (hw _ (List.mem_of_getElem? (i := 102) rfl))) (mvT hZ (hw _ (List.mem_of_getElem? (i := 101) rfl))) (by decide) (backOf (W := 0) (rmV2 l Z a0 hw [] b88 b65 ql (0 : Int64) t_71 kt_71 b78 qs b68 h92 n0 z92q p92_0 p92_1 p92_2 f96 f97 f98 f99 f100 f101 gg88 ne_b65_b88 ne_b78_b88 ne_t_71_b88) hZ (hw _ (List.mem_of_getElem? (i := 103) rfl)) (hw _ (List.mem_of_getElem? (i := 85) rfl)) (by decide) (by decide)) q95a q95c (g := (mkF m 94 #[.val (.long ql), .second, .val (.long qs), .second, .val (.long qo), .second, .val (.int md), .val (.int (3 : Int32)), .val (.ref b65), .val (.ref b88), .val (.int (0 : Int32)), .unset, .unset, .unset] [(.ref b65), (.ref b88)])) rfl (by rw [hml]; rfl) (Steps.refl _) (argsL := [(.ref b65)]) (rest := []) (lenOf pd_11 rfl) rfl (by show 2 * 0 + _ ≤ _; exact Nat.le_of_eq rfl) (hb hby at_94) (fun _ _ => ⟨rfl, e93, (by decide : 5 + 0 ≤ _), (by decide : 29 + 0 ≤ _)⟩)
      dsimp only [Pt.U, Pt.locs, Pt.cells, Pt.slots] at X95 l95 y95 z95 st95 hQ95
      subst l95 y95 z95
      obtain ⟨h95, e95⟩ : ∃ hh, T95.heap = hh := ⟨_, rfl⟩
      rw [e95] at hQ95
      obtain ⟨rfl, N95q, K95, p95_0, p95_1, p95_2⟩ := hQ95
      have N95 := Fr.app N93 N95q
      refine Go.st (fun _ kk => st95.trans kk) ?_
      have z95q : n0 ≤ h95.size := Nat.le_trans z92q K95.1
      have ns95 : ∀ x ∈ ([b88] : List Addr), ∀ cell : Cell, h92[x]? = some cell → cell.vm.isStatics = false := (allS p92_0.nostat all0)
      show Go p e below s _ _ _ T95 (mkF m 97 #[.val (.long ql), .second, .val (.long qs), .second, .val (.long qo), .second, .val (.int md), .val (.int (3 : Int32)), .val (.ref b65), .val (.ref b88), .val (.int (0 : Int32)), .unset, .unset, .unset] [])
      refine Go.st (fun _ => XS.aload X95.here hx rfl (hb hby at_97) rfl rfl) ?_
      show Go p e below s _ _ _ T95 (mkF m 99 #[.val (.long ql), .second, .val (.long qs), .second, .val (.long qo), .second, .val (.int md), .val (.int (3 : Int32)), .val (.ref b65), .val (.ref b88), .val (.int (0 : Int32)), .unset, .unset, .unset] [(.ref b88)])
      obtain ⟨cq102, kq102, q102a, q102b, q102c⟩ := isOf hZ e95 p95_0
      obtain ⟨_, _, ⟨T102, L102, kc102, nc102⟩, -, X102, ⟨Lc102, hQ102, l102, y102, z102⟩, st102⟩ := X95.virtualBack hx (y := (⟨"com/example/plaingrant/plaingrant/store/AuditPages", "isDone", "()Z"⟩ : MethodName)) (z := (⟨"com/example/plaingrant/plaingrant/store/AuditPages", "isDone", "()Z"⟩ : MethodName)) hown (mvT hZ (hw _ (List.mem_of_getElem? (i := 92) rfl))) (mvT hZ (hw _ (List.mem_of_getElem? (i := 93) rfl))) (notFace_of_selects (args := #[]) (mvT hZ (hw _ (List.mem_of_getElem? (i := 95) rfl)))) (mvT hZ (hw _ (List.mem_of_getElem? (i := 95) rfl))) (mvT hZ (hw _ (List.mem_of_getElem? (i := 94) rfl))) (by decide) (backOf (W := 0) (rmDo l Z a0 hw [] b88 ql qs h95 n0 z95q p95_1 p95_2) hZ (hw _ (List.mem_of_getElem? (i := 96) rfl)) (hw _ (List.mem_of_getElem? (i := 85) rfl)) (by decide) (by decide)) q102a q102c (g := (mkF m 99 #[.val (.long ql), .second, .val (.long qs), .second, .val (.long qo), .second, .val (.int md), .val (.int (3 : Int32)), .val (.ref b65), .val (.ref b88), .val (.int (0 : Int32)), .unset, .unset, .unset] [(.ref b88)])) rfl (by rw [hml]; rfl) (Steps.refl _) (argsL := []) (rest := []) (lenOf pd_7 rfl) rfl (by show 2 * 0 + _ ≤ _; exact Nat.le_of_eq rfl) (hb hby at_99) (fun _ _ => ⟨rfl, e95, (by decide : 5 + 0 ≤ _), (by decide : 29 + 0 ≤ _)⟩)
      dsimp only [Pt.U, Pt.locs, Pt.cells, Pt.slots] at X102 l102 y102 z102 st102 hQ102
      subst l102 y102 z102
      obtain ⟨h102, e102⟩ : ∃ hh, T102.heap = hh := ⟨_, rfl⟩
      rw [e102] at hQ102
      obtain ⟨rfl, N102q, sm102⟩ := hQ102
      have N102 := Fr.app N95 N102q
      refine Go.st (fun _ kk => st102.trans kk) ?_
      rw [sm102] at e102
      show Go p e below s _ _ _ T102 (mkF m 102 #[.val (.long ql), .second, .val (.long qs), .second, .val (.long qo), .second, .val (.int md), .val (.int (3 : Int32)), .val (.ref b65), .val (.ref b88), .val (.int (0 : Int32)), .unset, .unset, .unset] [(.int (b2i (¬ (qs < ql))))])
      by_cases hc103 : qs < ql
      · rw [show (b2i (¬ (qs < ql))) = (0 : Int32) from b2i_neg (not_not_intro hc103)]
        show Go p e below s _ _ _ T102 (mkF m 102 #[.val (.long ql), .second, .val (.long qs), .second, .val (.long qo), .second, .val (.int md), .val (.int (3 : Int32)), .val (.ref b65), .val (.ref b88), .val (.int (0 : Int32)), .unset, .unset, .unset] [(.int (0 : Int32))])
        refine Go.st (fun _ => XS.istore X102.here hx rfl (hb hby at_102) rfl (l' := #[.val (.long ql), .second, .val (.long qs), .second, .val (.long qo), .second, .val (.int md), .val (.int (3 : Int32)), .val (.ref b65), .val (.ref b88), .val (.int (0 : Int32)), .val (.int (0 : Int32)), .unset, .unset]) rfl) ?_
        show Go p e below s _ _ _ T102 (mkF m 104 #[.val (.long ql), .second, .val (.long qs), .second, .val (.long qo), .second, .val (.int md), .val (.int (3 : Int32)), .val (.ref b65), .val (.ref b88), .val (.int (0 : Int32)), .val (.int (0 : Int32)), .unset, .unset] [])
        refine Go.st (fun _ => XS.lloadN X102.here hx rfl (hb hby at_104) rfl) ?_
        show Go p e below s _ _ _ T102 (mkF m 105 #[.val (.long ql), .second, .val (.long qs), .second, .val (.long qo), .second, .val (.int md), .val (.int (3 : Int32)), .val (.ref b65), .val (.ref b88), .val (.int (0 : Int32)), .val (.int (0 : Int32)), .unset, .unset] [(.long ql)])
        refine Go.st (fun _ => XS.lconst X102.here hx rfl (hb hby at_105)) ?_
        show Go p e below s _ _ _ T102 (mkF m 106 #[.val (.long ql), .second, .val (.long qs), .second, .val (.long qo), .second, .val (.int md), .val (.int (3 : Int32)), .val (.ref b65), .val (.ref b88), .val (.int (0 : Int32)), .val (.int (0 : Int32)), .unset, .unset] [(.long (0 : Int64)), (.long ql)])
        refine Go.st (fun _ => XS.lcmp X102.here hx rfl (hb hby at_106) rfl) ?_
        show Go p e below s _ _ _ T102 (mkF m 107 #[.val (.long ql), .second, .val (.long qs), .second, .val (.long qo), .second, .val (.int md), .val (.int (3 : Int32)), .val (.ref b65), .val (.ref b88), .val (.int (0 : Int32)), .val (.int (0 : Int32)), .unset, .unset] [(.int (lcmpW ql (0 : Int64)))])
        refine Go.st (fun _ => XS.ifYes X102.here hx rfl (pc0 := 107) (pc' := 114) rfl (hb hby at_107) rfl ((if0 _ _).trans (tlt ((lw_gt ql (0 : Int64)).mpr hc94)).2.2.1) (by decide) (by decide)) ?_
        show Go p e below s _ _ _ T102 (mkF m 114 #[.val (.long ql), .second, .val (.long qs), .second, .val (.long qo), .second, .val (.int md), .val (.int (3 : Int32)), .val (.ref b65), .val (.ref b88), .val (.int (0 : Int32)), .val (.int (0 : Int32)), .unset, .unset] [])
        refine Go.st (fun _ => XS.iconst X102.here hx rfl (hb hby at_114)) ?_
        show Go p e below s _ _ _ T102 (mkF m 115 #[.val (.long ql), .second, .val (.long qs), .second, .val (.long qo), .second, .val (.int md), .val (.int (3 : Int32)), .val (.ref b65), .val (.ref b88), .val (.int (0 : Int32)), .val (.int (0 : Int32)), .unset, .unset] [(.int (0 : Int32))])
        refine Go.st (fun _ => XS.istore X102.here hx rfl (hb hby at_115) rfl (l' := #[.val (.long ql), .second, .val (.long qs), .second, .val (.long qo), .second, .val (.int md), .val (.int (3 : Int32)), .val (.ref b65), .val (.ref b88), .val (.int (0 : Int32)), .val (.int (0 : Int32)), .val (.int (0 : Int32)), .unset]) rfl) ?_
        show Go p e below s _ _ _ T102 (mkF m 117 #[.val (.long ql), .second, .val (.long qs), .second, .val (.long qo), .second, .val (.int md), .val (.int (3 : Int32)), .val (.ref b65), .val (.ref b88), .val (.int (0 : Int32)), .val (.int (0 : Int32)), .val (.int (0 : Int32)), .unset] [])
        refine Go.st (fun _ => XS.iload X102.here hx rfl (hb hby at_117) rfl) ?_
        show Go p e below s _ _ _ T102 (mkF m 119 #[.val (.long ql), .second, .val (.long qs), .second, .val (.long qo), .second, .val (.int md), .val (.int (3 : Int32)), .val (.ref b65), .val (.ref b88), .val (.int (0 : Int32)), .val (.int (0 : Int32)), .val (.int (0 : Int32)), .unset] [(.int (3 : Int32))])
        refine Go.st (fun _ => XS.ifYes X102.here hx rfl (pc0 := 119) (pc' := 129) rfl (hb hby at_119) rfl ((if0 _ _).trans (feq (by decide : ¬ ((3 : Int32) = (0 : Int32)))).2) (by decide) (by decide)) ?_
        show Go p e below s _ _ _ T102 (mkF m 129 #[.val (.long ql), .second, .val (.long qs), .second, .val (.long qo), .second, .val (.int md), .val (.int (3 : Int32)), .val (.ref b65), .val (.ref b88), .val (.int (0 : Int32)), .val (.int (0 : Int32)), .val (.int (0 : Int32)), .unset] [])
        refine Go.st (fun _ => XS.iload X102.here hx rfl (hb hby at_129) rfl) ?_
        show Go p e below s _ _ _ T102 (mkF m 131 #[.val (.long ql), .second, .val (.long qs), .second, .val (.long qo), .second, .val (.int md), .val (.int (3 : Int32)), .val (.ref b65), .val (.ref b88), .val (.int (0 : Int32)), .val (.int (0 : Int32)), .val (.int (0 : Int32)), .unset] [(.int (3 : Int32))])
        refine Go.st (fun _ => XS.iconst X102.here hx rfl (hb hby at_131)) ?_
        show Go p e below s _ _ _ T102 (mkF m 132 #[.val (.long ql), .second, .val (.long qs), .second, .val (.long qo), .second, .val (.int md), .val (.int (3 : Int32)), .val (.ref b65), .val (.ref b88), .val (.int (0 : Int32)), .val (.int (0 : Int32)), .val (.int (0 : Int32)), .unset] [(.int (1 : Int32)), (.int (3 : Int32))])
        refine Go.st (fun _ => XS.icmpYes X102.here hx rfl (pc0 := 132) (pc' := 141) rfl (hb hby at_132) rfl (feq (by decide : ¬ ((3 : Int32) = (1 : Int32)))).2 (by decide) (by decide)) ?_
        show Go p e below s _ _ _ T102 (mkF m 141 #[.val (.long ql), .second, .val (.long qs), .second, .val (.long qo), .second, .val (.int md), .val (.int (3 : Int32)), .val (.ref b65), .val (.ref b88), .val (.int (0 : Int32)), .val (.int (0 : Int32)), .val (.int (0 : Int32)), .unset] [])
        refine Go.st (fun _ => XS.lloadN X102.here hx rfl (hb hby at_141) rfl) ?_
        show Go p e below s _ _ _ T102 (mkF m 142 #[.val (.long ql), .second, .val (.long qs), .second, .val (.long qo), .second, .val (.int md), .val (.int (3 : Int32)), .val (.ref b65), .val (.ref b88), .val (.int (0 : Int32)), .val (.int (0 : Int32)), .val (.int (0 : Int32)), .unset] [(.long qs)])
        refine Go.st (fun _ => XS.lloadN X102.here hx rfl (hb hby at_142) rfl) ?_
        show Go p e below s _ _ _ T102 (mkF m 143 #[.val (.long ql), .second, .val (.long qs), .second, .val (.long qo), .second, .val (.int md), .val (.int (3 : Int32)), .val (.ref b65), .val (.ref b88), .val (.int (0 : Int32)), .val (.int (0 : Int32)), .val (.int (0 : Int32)), .unset] [(.long ql), (.long qs)])
        refine Go.st (fun _ => XS.lcmp X102.here hx rfl (hb hby at_143) rfl) ?_
        show Go p e below s _ _ _ T102 (mkF m 144 #[.val (.long ql), .second, .val (.long qs), .second, .val (.long qo), .second, .val (.int md), .val (.int (3 : Int32)), .val (.ref b65), .val (.ref b88), .val (.int (0 : Int32)), .val (.int (0 : Int32)), .val (.int (0 : Int32)), .unset] [(.int (lcmpW qs ql))])
        refine Go.st (fun _ => XS.ifYes X102.here hx rfl (pc0 := 144) (pc' := 151) rfl (hb hby at_144) rfl ((if0 _ _).trans (tlt ((lw_lt qs ql).mpr hc103)).1) (by decide) (by decide)) ?_
        show Go p e below s _ _ _ T102 (mkF m 151 #[.val (.long ql), .second, .val (.long qs), .second, .val (.long qo), .second, .val (.int md), .val (.int (3 : Int32)), .val (.ref b65), .val (.ref b88), .val (.int (0 : Int32)), .val (.int (0 : Int32)), .val (.int (0 : Int32)), .unset] [])
        refine Go.st (fun _ => XS.iconst X102.here hx rfl (hb hby at_151)) ?_
        show Go p e below s _ _ _ T102 (mkF m 152 #[.val (.long ql), .second, .val (.long qs), .second, .val (.long qo), .second, .val (.int md), .val (.int (3 : Int32)), .val (.ref b65), .val (.ref b88), .val (.int (0 : Int32)), .val (.int (0 : Int32)), .val (.int (0 : Int32)), .unset] [(.int (0 : Int32))])
        refine Go.st (fun _ => XS.istore X102.here hx rfl (hb hby at_152) rfl (l' := #[.val (.long ql), .second, .val (.long qs), .second, .val (.long qo), .second, .val (.int md), .val (.int (3 : Int32)), .val (.ref b65), .val (.ref b88), .val (.int (0 : Int32)), .val (.int (0 : Int32)), .val (.int (0 : Int32)), .val (.int (0 : Int32))]) rfl) ?_
        show Go p e below s _ _ _ T102 (mkF m 154 #[.val (.long ql), .second, .val (.long qs), .second, .val (.long qo), .second, .val (.int md), .val (.int (3 : Int32)), .val (.ref b65), .val (.ref b88), .val (.int (0 : Int32)), .val (.int (0 : Int32)), .val (.int (0 : Int32)), .val (.int (0 : Int32))] [])
        refine Go.st (fun _ => XS.iload X102.here hx rfl (hb hby at_154) rfl) ?_
        show Go p e below s _ _ _ T102 (mkF m 156 #[.val (.long ql), .second, .val (.long qs), .second, .val (.long qo), .second, .val (.int md), .val (.int (3 : Int32)), .val (.ref b65), .val (.ref b88), .val (.int (0 : Int32)), .val (.int (0 : Int32)), .val (.int (0 : Int32)), .val (.int (0 : Int32))] [(.int (0 : Int32))])
        refine Go.st (fun _ => XS.iload X102.here hx rfl (hb hby at_156) rfl) ?_
        show Go p e below s _ _ _ T102 (mkF m 158 #[.val (.long ql), .second, .val (.long qs), .second, .val (.long qo), .second, .val (.int md), .val (.int (3 : Int32)), .val (.ref b65), .val (.ref b88), .val (.int (0 : Int32)), .val (.int (0 : Int32)), .val (.int (0 : Int32)), .val (.int (0 : Int32))] [(.int (0 : Int32)), (.int (0 : Int32))])
        refine Go.st (fun _ => XS.icmpNo X102.here hx rfl (hb hby at_158) rfl (teq (by decide : (0 : Int32) = (0 : Int32))).2) ?_
        show Go p e below s _ _ _ T102 (mkF m 161 #[.val (.long ql), .second, .val (.long qs), .second, .val (.long qo), .second, .val (.int md), .val (.int (3 : Int32)), .val (.ref b65), .val (.ref b88), .val (.int (0 : Int32)), .val (.int (0 : Int32)), .val (.int (0 : Int32)), .val (.int (0 : Int32))] [])
        refine Go.st (fun _ => XS.iload X102.here hx rfl (hb hby at_161) rfl) ?_
        show Go p e below s _ _ _ T102 (mkF m 163 #[.val (.long ql), .second, .val (.long qs), .second, .val (.long qo), .second, .val (.int md), .val (.int (3 : Int32)), .val (.ref b65), .val (.ref b88), .val (.int (0 : Int32)), .val (.int (0 : Int32)), .val (.int (0 : Int32)), .val (.int (0 : Int32))] [(.int (0 : Int32))])
        refine Go.st (fun _ => XS.iload X102.here hx rfl (hb hby at_163) rfl) ?_
        show Go p e below s _ _ _ T102 (mkF m 165 #[.val (.long ql), .second, .val (.long qs), .second, .val (.long qo), .second, .val (.int md), .val (.int (3 : Int32)), .val (.ref b65), .val (.ref b88), .val (.int (0 : Int32)), .val (.int (0 : Int32)), .val (.int (0 : Int32)), .val (.int (0 : Int32))] [(.int (0 : Int32)), (.int (0 : Int32))])
        refine Go.st (fun _ => XS.icmpNo X102.here hx rfl (hb hby at_165) rfl (teq (by decide : (0 : Int32) = (0 : Int32))).2) ?_
        show Go p e below s _ _ _ T102 (mkF m 168 #[.val (.long ql), .second, .val (.long qs), .second, .val (.long qo), .second, .val (.int md), .val (.int (3 : Int32)), .val (.ref b65), .val (.ref b88), .val (.int (0 : Int32)), .val (.int (0 : Int32)), .val (.int (0 : Int32)), .val (.int (0 : Int32))] [])
        refine Go.st (fun _ => XS.iconst X102.here hx rfl (hb hby at_168)) ?_
        show Go p e below s _ _ _ T102 (mkF m 169 #[.val (.long ql), .second, .val (.long qs), .second, .val (.long qo), .second, .val (.int md), .val (.int (3 : Int32)), .val (.ref b65), .val (.ref b88), .val (.int (0 : Int32)), .val (.int (0 : Int32)), .val (.int (0 : Int32)), .val (.int (0 : Int32))] [(.int (1 : Int32))])
        refine Go.st (fun _ => XS.goto X102.here hx rfl (pc0 := 169) (pc' := 173) rfl (hb hby at_169) (by decide) (by decide)) ?_
        show Go p e below s _ _ _ T102 (mkF m 173 #[.val (.long ql), .second, .val (.long qs), .second, .val (.long qo), .second, .val (.int md), .val (.int (3 : Int32)), .val (.ref b65), .val (.ref b88), .val (.int (0 : Int32)), .val (.int (0 : Int32)), .val (.int (0 : Int32)), .val (.int (0 : Int32))] [(.int (1 : Int32))])
        exact Go.retZ X102 hx hlk Bd.returns (hb hby at_173) rfl (by rw [e102]; exact ⟨rfl, N102⟩) (by decide) (by decide)
      · rw [show (b2i (¬ (qs < ql))) = (1 : Int32) from b2i_pos hc103]
        show Go p e below s _ _ _ T102 (mkF m 102 #[.val (.long ql), .second, .val (.long qs), .second, .val (.long qo), .second, .val (.int md), .val (.int (3 : Int32)), .val (.ref b65), .val (.ref b88), .val (.int (0 : Int32)), .unset, .unset, .unset] [(.int (1 : Int32))])
        refine Go.st (fun _ => XS.istore X102.here hx rfl (hb hby at_102) rfl (l' := #[.val (.long ql), .second, .val (.long qs), .second, .val (.long qo), .second, .val (.int md), .val (.int (3 : Int32)), .val (.ref b65), .val (.ref b88), .val (.int (0 : Int32)), .val (.int (1 : Int32)), .unset, .unset]) rfl) ?_
        show Go p e below s _ _ _ T102 (mkF m 104 #[.val (.long ql), .second, .val (.long qs), .second, .val (.long qo), .second, .val (.int md), .val (.int (3 : Int32)), .val (.ref b65), .val (.ref b88), .val (.int (0 : Int32)), .val (.int (1 : Int32)), .unset, .unset] [])
        refine Go.st (fun _ => XS.lloadN X102.here hx rfl (hb hby at_104) rfl) ?_
        show Go p e below s _ _ _ T102 (mkF m 105 #[.val (.long ql), .second, .val (.long qs), .second, .val (.long qo), .second, .val (.int md), .val (.int (3 : Int32)), .val (.ref b65), .val (.ref b88), .val (.int (0 : Int32)), .val (.int (1 : Int32)), .unset, .unset] [(.long ql)])
        refine Go.st (fun _ => XS.lconst X102.here hx rfl (hb hby at_105)) ?_
        show Go p e below s _ _ _ T102 (mkF m 106 #[.val (.long ql), .second, .val (.long qs), .second, .val (.long qo), .second, .val (.int md), .val (.int (3 : Int32)), .val (.ref b65), .val (.ref b88), .val (.int (0 : Int32)), .val (.int (1 : Int32)), .unset, .unset] [(.long (0 : Int64)), (.long ql)])
        refine Go.st (fun _ => XS.lcmp X102.here hx rfl (hb hby at_106) rfl) ?_
        show Go p e below s _ _ _ T102 (mkF m 107 #[.val (.long ql), .second, .val (.long qs), .second, .val (.long qo), .second, .val (.int md), .val (.int (3 : Int32)), .val (.ref b65), .val (.ref b88), .val (.int (0 : Int32)), .val (.int (1 : Int32)), .unset, .unset] [(.int (lcmpW ql (0 : Int64)))])
        refine Go.st (fun _ => XS.ifYes X102.here hx rfl (pc0 := 107) (pc' := 114) rfl (hb hby at_107) rfl ((if0 _ _).trans (tlt ((lw_gt ql (0 : Int64)).mpr hc94)).2.2.1) (by decide) (by decide)) ?_
        show Go p e below s _ _ _ T102 (mkF m 114 #[.val (.long ql), .second, .val (.long qs), .second, .val (.long qo), .second, .val (.int md), .val (.int (3 : Int32)), .val (.ref b65), .val (.ref b88), .val (.int (0 : Int32)), .val (.int (1 : Int32)), .unset, .unset] [])
        refine Go.st (fun _ => XS.iconst X102.here hx rfl (hb hby at_114)) ?_
        show Go p e below s _ _ _ T102 (mkF m 115 #[.val (.long ql), .second, .val (.long qs), .second, .val (.long qo), .second, .val (.int md), .val (.int (3 : Int32)), .val (.ref b65), .val (.ref b88), .val (.int (0 : Int32)), .val (.int (1 : Int32)), .unset, .unset] [(.int (0 : Int32))])
        refine Go.st (fun _ => XS.istore X102.here hx rfl (hb hby at_115) rfl (l' := #[.val (.long ql), .second, .val (.long qs), .second, .val (.long qo), .second, .val (.int md), .val (.int (3 : Int32)), .val (.ref b65), .val (.ref b88), .val (.int (0 : Int32)), .val (.int (1 : Int32)), .val (.int (0 : Int32)), .unset]) rfl) ?_
        show Go p e below s _ _ _ T102 (mkF m 117 #[.val (.long ql), .second, .val (.long qs), .second, .val (.long qo), .second, .val (.int md), .val (.int (3 : Int32)), .val (.ref b65), .val (.ref b88), .val (.int (0 : Int32)), .val (.int (1 : Int32)), .val (.int (0 : Int32)), .unset] [])
        refine Go.st (fun _ => XS.iload X102.here hx rfl (hb hby at_117) rfl) ?_
        show Go p e below s _ _ _ T102 (mkF m 119 #[.val (.long ql), .second, .val (.long qs), .second, .val (.long qo), .second, .val (.int md), .val (.int (3 : Int32)), .val (.ref b65), .val (.ref b88), .val (.int (0 : Int32)), .val (.int (1 : Int32)), .val (.int (0 : Int32)), .unset] [(.int (3 : Int32))])
        refine Go.st (fun _ => XS.ifYes X102.here hx rfl (pc0 := 119) (pc' := 129) rfl (hb hby at_119) rfl ((if0 _ _).trans (feq (by decide : ¬ ((3 : Int32) = (0 : Int32)))).2) (by decide) (by decide)) ?_
        show Go p e below s _ _ _ T102 (mkF m 129 #[.val (.long ql), .second, .val (.long qs), .second, .val (.long qo), .second, .val (.int md), .val (.int (3 : Int32)), .val (.ref b65), .val (.ref b88), .val (.int (0 : Int32)), .val (.int (1 : Int32)), .val (.int (0 : Int32)), .unset] [])
        refine Go.st (fun _ => XS.iload X102.here hx rfl (hb hby at_129) rfl) ?_
        show Go p e below s _ _ _ T102 (mkF m 131 #[.val (.long ql), .second, .val (.long qs), .second, .val (.long qo), .second, .val (.int md), .val (.int (3 : Int32)), .val (.ref b65), .val (.ref b88), .val (.int (0 : Int32)), .val (.int (1 : Int32)), .val (.int (0 : Int32)), .unset] [(.int (3 : Int32))])
        refine Go.st (fun _ => XS.iconst X102.here hx rfl (hb hby at_131)) ?_
        show Go p e below s _ _ _ T102 (mkF m 132 #[.val (.long ql), .second, .val (.long qs), .second, .val (.long qo), .second, .val (.int md), .val (.int (3 : Int32)), .val (.ref b65), .val (.ref b88), .val (.int (0 : Int32)), .val (.int (1 : Int32)), .val (.int (0 : Int32)), .unset] [(.int (1 : Int32)), (.int (3 : Int32))])
        refine Go.st (fun _ => XS.icmpYes X102.here hx rfl (pc0 := 132) (pc' := 141) rfl (hb hby at_132) rfl (feq (by decide : ¬ ((3 : Int32) = (1 : Int32)))).2 (by decide) (by decide)) ?_
        show Go p e below s _ _ _ T102 (mkF m 141 #[.val (.long ql), .second, .val (.long qs), .second, .val (.long qo), .second, .val (.int md), .val (.int (3 : Int32)), .val (.ref b65), .val (.ref b88), .val (.int (0 : Int32)), .val (.int (1 : Int32)), .val (.int (0 : Int32)), .unset] [])
        refine Go.st (fun _ => XS.lloadN X102.here hx rfl (hb hby at_141) rfl) ?_
        show Go p e below s _ _ _ T102 (mkF m 142 #[.val (.long ql), .second, .val (.long qs), .second, .val (.long qo), .second, .val (.int md), .val (.int (3 : Int32)), .val (.ref b65), .val (.ref b88), .val (.int (0 : Int32)), .val (.int (1 : Int32)), .val (.int (0 : Int32)), .unset] [(.long qs)])
        refine Go.st (fun _ => XS.lloadN X102.here hx rfl (hb hby at_142) rfl) ?_
        show Go p e below s _ _ _ T102 (mkF m 143 #[.val (.long ql), .second, .val (.long qs), .second, .val (.long qo), .second, .val (.int md), .val (.int (3 : Int32)), .val (.ref b65), .val (.ref b88), .val (.int (0 : Int32)), .val (.int (1 : Int32)), .val (.int (0 : Int32)), .unset] [(.long ql), (.long qs)])
        refine Go.st (fun _ => XS.lcmp X102.here hx rfl (hb hby at_143) rfl) ?_
        show Go p e below s _ _ _ T102 (mkF m 144 #[.val (.long ql), .second, .val (.long qs), .second, .val (.long qo), .second, .val (.int md), .val (.int (3 : Int32)), .val (.ref b65), .val (.ref b88), .val (.int (0 : Int32)), .val (.int (1 : Int32)), .val (.int (0 : Int32)), .unset] [(.int (lcmpW qs ql))])
        refine Go.st (fun _ => XS.ifNo X102.here hx rfl (hb hby at_144) rfl ((if0 _ _).trans (flt (fun qq => hc103 ((lw_lt qs ql).mp qq))).1)) ?_
        show Go p e below s _ _ _ T102 (mkF m 147 #[.val (.long ql), .second, .val (.long qs), .second, .val (.long qo), .second, .val (.int md), .val (.int (3 : Int32)), .val (.ref b65), .val (.ref b88), .val (.int (0 : Int32)), .val (.int (1 : Int32)), .val (.int (0 : Int32)), .unset] [])
        refine Go.st (fun _ => XS.iconst X102.here hx rfl (hb hby at_147)) ?_
        show Go p e below s _ _ _ T102 (mkF m 148 #[.val (.long ql), .second, .val (.long qs), .second, .val (.long qo), .second, .val (.int md), .val (.int (3 : Int32)), .val (.ref b65), .val (.ref b88), .val (.int (0 : Int32)), .val (.int (1 : Int32)), .val (.int (0 : Int32)), .unset] [(.int (1 : Int32))])
        refine Go.st (fun _ => XS.goto X102.here hx rfl (pc0 := 148) (pc' := 152) rfl (hb hby at_148) (by decide) (by decide)) ?_
        show Go p e below s _ _ _ T102 (mkF m 152 #[.val (.long ql), .second, .val (.long qs), .second, .val (.long qo), .second, .val (.int md), .val (.int (3 : Int32)), .val (.ref b65), .val (.ref b88), .val (.int (0 : Int32)), .val (.int (1 : Int32)), .val (.int (0 : Int32)), .unset] [(.int (1 : Int32))])
        refine Go.st (fun _ => XS.istore X102.here hx rfl (hb hby at_152) rfl (l' := #[.val (.long ql), .second, .val (.long qs), .second, .val (.long qo), .second, .val (.int md), .val (.int (3 : Int32)), .val (.ref b65), .val (.ref b88), .val (.int (0 : Int32)), .val (.int (1 : Int32)), .val (.int (0 : Int32)), .val (.int (1 : Int32))]) rfl) ?_
        show Go p e below s _ _ _ T102 (mkF m 154 #[.val (.long ql), .second, .val (.long qs), .second, .val (.long qo), .second, .val (.int md), .val (.int (3 : Int32)), .val (.ref b65), .val (.ref b88), .val (.int (0 : Int32)), .val (.int (1 : Int32)), .val (.int (0 : Int32)), .val (.int (1 : Int32))] [])
        refine Go.st (fun _ => XS.iload X102.here hx rfl (hb hby at_154) rfl) ?_
        show Go p e below s _ _ _ T102 (mkF m 156 #[.val (.long ql), .second, .val (.long qs), .second, .val (.long qo), .second, .val (.int md), .val (.int (3 : Int32)), .val (.ref b65), .val (.ref b88), .val (.int (0 : Int32)), .val (.int (1 : Int32)), .val (.int (0 : Int32)), .val (.int (1 : Int32))] [(.int (0 : Int32))])
        refine Go.st (fun _ => XS.iload X102.here hx rfl (hb hby at_156) rfl) ?_
        show Go p e below s _ _ _ T102 (mkF m 158 #[.val (.long ql), .second, .val (.long qs), .second, .val (.long qo), .second, .val (.int md), .val (.int (3 : Int32)), .val (.ref b65), .val (.ref b88), .val (.int (0 : Int32)), .val (.int (1 : Int32)), .val (.int (0 : Int32)), .val (.int (1 : Int32))] [(.int (0 : Int32)), (.int (0 : Int32))])
        refine Go.st (fun _ => XS.icmpNo X102.here hx rfl (hb hby at_158) rfl (teq (by decide : (0 : Int32) = (0 : Int32))).2) ?_
        show Go p e below s _ _ _ T102 (mkF m 161 #[.val (.long ql), .second, .val (.long qs), .second, .val (.long qo), .second, .val (.int md), .val (.int (3 : Int32)), .val (.ref b65), .val (.ref b88), .val (.int (0 : Int32)), .val (.int (1 : Int32)), .val (.int (0 : Int32)), .val (.int (1 : Int32))] [])
        refine Go.st (fun _ => XS.iload X102.here hx rfl (hb hby at_161) rfl) ?_
        show Go p e below s _ _ _ T102 (mkF m 163 #[.val (.long ql), .second, .val (.long qs), .second, .val (.long qo), .second, .val (.int md), .val (.int (3 : Int32)), .val (.ref b65), .val (.ref b88), .val (.int (0 : Int32)), .val (.int (1 : Int32)), .val (.int (0 : Int32)), .val (.int (1 : Int32))] [(.int (1 : Int32))])
        refine Go.st (fun _ => XS.iload X102.here hx rfl (hb hby at_163) rfl) ?_
        show Go p e below s _ _ _ T102 (mkF m 165 #[.val (.long ql), .second, .val (.long qs), .second, .val (.long qo), .second, .val (.int md), .val (.int (3 : Int32)), .val (.ref b65), .val (.ref b88), .val (.int (0 : Int32)), .val (.int (1 : Int32)), .val (.int (0 : Int32)), .val (.int (1 : Int32))] [(.int (1 : Int32)), (.int (1 : Int32))])
        refine Go.st (fun _ => XS.icmpNo X102.here hx rfl (hb hby at_165) rfl (teq (by decide : (1 : Int32) = (1 : Int32))).2) ?_
        show Go p e below s _ _ _ T102 (mkF m 168 #[.val (.long ql), .second, .val (.long qs), .second, .val (.long qo), .second, .val (.int md), .val (.int (3 : Int32)), .val (.ref b65), .val (.ref b88), .val (.int (0 : Int32)), .val (.int (1 : Int32)), .val (.int (0 : Int32)), .val (.int (1 : Int32))] [])
        refine Go.st (fun _ => XS.iconst X102.here hx rfl (hb hby at_168)) ?_
        show Go p e below s _ _ _ T102 (mkF m 169 #[.val (.long ql), .second, .val (.long qs), .second, .val (.long qo), .second, .val (.int md), .val (.int (3 : Int32)), .val (.ref b65), .val (.ref b88), .val (.int (0 : Int32)), .val (.int (1 : Int32)), .val (.int (0 : Int32)), .val (.int (1 : Int32))] [(.int (1 : Int32))])
        refine Go.st (fun _ => XS.goto X102.here hx rfl (pc0 := 169) (pc' := 173) rfl (hb hby at_169) (by decide) (by decide)) ?_
        show Go p e below s _ _ _ T102 (mkF m 173 #[.val (.long ql), .second, .val (.long qs), .second, .val (.long qo), .second, .val (.int md), .val (.int (3 : Int32)), .val (.ref b65), .val (.ref b88), .val (.int (0 : Int32)), .val (.int (1 : Int32)), .val (.int (0 : Int32)), .val (.int (1 : Int32))] [(.int (1 : Int32))])
        exact Go.retZ X102 hx hlk Bd.returns (hb hby at_173) rfl (by rw [e102]; exact ⟨rfl, N102⟩) (by decide) (by decide)
    · rw [show (b2i (¬ ((0 : Int64) < ql))) = (1 : Int32) from b2i_pos hc94]
      show Go p e below s _ _ _ T93 (mkF m 83 #[.val (.long ql), .second, .val (.long qs), .second, .val (.long qo), .second, .val (.int md), .val (.int (3 : Int32)), .val (.ref b65), .val (.ref b88), .unset, .unset, .unset, .unset] [(.int (1 : Int32))])
      refine Go.st (fun _ => XS.istore X93.here hx rfl (hb hby at_83) rfl (l' := #[.val (.long ql), .second, .val (.long qs), .second, .val (.long qo), .second, .val (.int md), .val (.int (3 : Int32)), .val (.ref b65), .val (.ref b88), .val (.int (1 : Int32)), .unset, .unset, .unset]) rfl) ?_
      show Go p e below s _ _ _ T93 (mkF m 85 #[.val (.long ql), .second, .val (.long qs), .second, .val (.long qo), .second, .val (.int md), .val (.int (3 : Int32)), .val (.ref b65), .val (.ref b88), .val (.int (1 : Int32)), .unset, .unset, .unset] [])
      refine Go.st (fun _ => XS.iload X93.here hx rfl (hb hby at_85) rfl) ?_
      show Go p e below s _ _ _ T93 (mkF m 87 #[.val (.long ql), .second, .val (.long qs), .second, .val (.long qo), .second, .val (.int md), .val (.int (3 : Int32)), .val (.ref b65), .val (.ref b88), .val (.int (1 : Int32)), .unset, .unset, .unset] [(.int (3 : Int32))])
      refine Go.st (fun _ => XS.ifNo X93.here hx rfl (hb hby at_87) rfl ((if0 _ _).trans (feq (by decide : ¬ ((3 : Int32) = (0 : Int32)))).1)) ?_
      show Go p e below s _ _ _ T93 (mkF m 90 #[.val (.long ql), .second, .val (.long qs), .second, .val (.long qo), .second, .val (.int md), .val (.int (3 : Int32)), .val (.ref b65), .val (.ref b88), .val (.int (1 : Int32)), .unset, .unset, .unset] [])
      refine Go.st (fun _ => XS.aload X93.here hx rfl (hb hby at_90) rfl rfl) ?_
      show Go p e below s _ _ _ T93 (mkF m 92 #[.val (.long ql), .second, .val (.long qs), .second, .val (.long qo), .second, .val (.int md), .val (.int (3 : Int32)), .val (.ref b65), .val (.ref b88), .val (.int (1 : Int32)), .unset, .unset, .unset] [(.ref b88)])
      refine Go.st (fun _ => XS.aload X93.here hx rfl (hb hby at_92) rfl rfl) ?_
      show Go p e below s _ _ _ T93 (mkF m 94 #[.val (.long ql), .second, .val (.long qs), .second, .val (.long qo), .second, .val (.int md), .val (.int (3 : Int32)), .val (.ref b65), .val (.ref b88), .val (.int (1 : Int32)), .unset, .unset, .unset] [(.ref b65), (.ref b88)])
      have f105 := ((p82_0.ext E88).keep K92)
      have f106 := ((p82_1.ext E88).keep K92 (ninS ne_b65_b88 nin0))
      have f107 := ((p82_2.ext E88).keep K92 (ninS ne_b65_b88 nin0))
      have f108 := ((p82_3.ext E88).keep K92 (ninS ne_t_71_b88 nin0))
      have f109 := ((f91.ext E88).keep K92)
      have f110 := (((p81_1.keep K82 (ninS (Ne.symm ne_b65_b78) (ninS (Ne.symm ne_t_71_b78) nin0))).ext E88).keep K92 (ninS ne_b78_b88 nin0))
      obtain ⟨cq104, kq104, q104a, q104b, q104c⟩ := isOf hZ e93 p92_0
      obtain ⟨_, _, ⟨T104, L104, kc104, nc104⟩, -, X104, ⟨Lc104, hQ104, l104, y104, z104⟩, st104⟩ := X93.virtualBack hx (y := (⟨"com/example/plaingrant/plaingrant/store/AuditPages", "gave", "(Ljava/util/List;)V"⟩ : MethodName)) (z := (⟨"com/example/plaingrant/plaingrant/store/AuditPages", "gave", "(Ljava/util/List;)V"⟩ : MethodName)) hown (mvT hZ (hw _ (List.mem_of_getElem? (i := 99) rfl))) (mvT hZ (hw _ (List.mem_of_getElem? (i := 100) rfl))) (notFace_of_selects (args := #[]) (mvT hZ (hw _ (List.mem_of_getElem? (i := 102) rfl)))) (mvT hZ (hw _ (List.mem_of_getElem? (i := 102) rfl))) (mvT hZ (hw _ (List.mem_of_getElem? (i := 101) rfl))) (by decide) (backOf (W := 0) (rmV2 l Z a0 hw [] b88 b65 ql (0 : Int64) t_71 kt_71 b78 qs b68 h92 n0 z92q p92_0 p92_1 p92_2 f105 f106 f107 f108 f109 f110 gg88 ne_b65_b88 ne_b78_b88 ne_t_71_b88) hZ (hw _ (List.mem_of_getElem? (i := 103) rfl)) (hw _ (List.mem_of_getElem? (i := 85) rfl)) (by decide) (by decide)) q104a q104c (g := (mkF m 94 #[.val (.long ql), .second, .val (.long qs), .second, .val (.long qo), .second, .val (.int md), .val (.int (3 : Int32)), .val (.ref b65), .val (.ref b88), .val (.int (1 : Int32)), .unset, .unset, .unset] [(.ref b65), (.ref b88)])) rfl (by rw [hml]; rfl) (Steps.refl _) (argsL := [(.ref b65)]) (rest := []) (lenOf pd_11 rfl) rfl (by show 2 * 0 + _ ≤ _; exact Nat.le_of_eq rfl) (hb hby at_94) (fun _ _ => ⟨rfl, e93, (by decide : 5 + 0 ≤ _), (by decide : 29 + 0 ≤ _)⟩)
      dsimp only [Pt.U, Pt.locs, Pt.cells, Pt.slots] at X104 l104 y104 z104 st104 hQ104
      subst l104 y104 z104
      obtain ⟨h104, e104⟩ : ∃ hh, T104.heap = hh := ⟨_, rfl⟩
      rw [e104] at hQ104
      obtain ⟨rfl, N104q, K104, p104_0, p104_1, p104_2⟩ := hQ104
      have N104 := Fr.app N93 N104q
      refine Go.st (fun _ kk => st104.trans kk) ?_
      have z104q : n0 ≤ h104.size := Nat.le_trans z92q K104.1
      have ns104 : ∀ x ∈ ([b88] : List Addr), ∀ cell : Cell, h92[x]? = some cell → cell.vm.isStatics = false := (allS p92_0.nostat all0)
      show Go p e below s _ _ _ T104 (mkF m 97 #[.val (.long ql), .second, .val (.long qs), .second, .val (.long qo), .second, .val (.int md), .val (.int (3 : Int32)), .val (.ref b65), .val (.ref b88), .val (.int (1 : Int32)), .unset, .unset, .unset] [])
      refine Go.st (fun _ => XS.aload X104.here hx rfl (hb hby at_97) rfl rfl) ?_
      show Go p e below s _ _ _ T104 (mkF m 99 #[.val (.long ql), .second, .val (.long qs), .second, .val (.long qo), .second, .val (.int md), .val (.int (3 : Int32)), .val (.ref b65), .val (.ref b88), .val (.int (1 : Int32)), .unset, .unset, .unset] [(.ref b88)])
      obtain ⟨cq111, kq111, q111a, q111b, q111c⟩ := isOf hZ e104 p104_0
      obtain ⟨_, _, ⟨T111, L111, kc111, nc111⟩, -, X111, ⟨Lc111, hQ111, l111, y111, z111⟩, st111⟩ := X104.virtualBack hx (y := (⟨"com/example/plaingrant/plaingrant/store/AuditPages", "isDone", "()Z"⟩ : MethodName)) (z := (⟨"com/example/plaingrant/plaingrant/store/AuditPages", "isDone", "()Z"⟩ : MethodName)) hown (mvT hZ (hw _ (List.mem_of_getElem? (i := 92) rfl))) (mvT hZ (hw _ (List.mem_of_getElem? (i := 93) rfl))) (notFace_of_selects (args := #[]) (mvT hZ (hw _ (List.mem_of_getElem? (i := 95) rfl)))) (mvT hZ (hw _ (List.mem_of_getElem? (i := 95) rfl))) (mvT hZ (hw _ (List.mem_of_getElem? (i := 94) rfl))) (by decide) (backOf (W := 0) (rmDo l Z a0 hw [] b88 ql qs h104 n0 z104q p104_1 p104_2) hZ (hw _ (List.mem_of_getElem? (i := 96) rfl)) (hw _ (List.mem_of_getElem? (i := 85) rfl)) (by decide) (by decide)) q111a q111c (g := (mkF m 99 #[.val (.long ql), .second, .val (.long qs), .second, .val (.long qo), .second, .val (.int md), .val (.int (3 : Int32)), .val (.ref b65), .val (.ref b88), .val (.int (1 : Int32)), .unset, .unset, .unset] [(.ref b88)])) rfl (by rw [hml]; rfl) (Steps.refl _) (argsL := []) (rest := []) (lenOf pd_7 rfl) rfl (by show 2 * 0 + _ ≤ _; exact Nat.le_of_eq rfl) (hb hby at_99) (fun _ _ => ⟨rfl, e104, (by decide : 5 + 0 ≤ _), (by decide : 29 + 0 ≤ _)⟩)
      dsimp only [Pt.U, Pt.locs, Pt.cells, Pt.slots] at X111 l111 y111 z111 st111 hQ111
      subst l111 y111 z111
      obtain ⟨h111, e111⟩ : ∃ hh, T111.heap = hh := ⟨_, rfl⟩
      rw [e111] at hQ111
      obtain ⟨rfl, N111q, sm111⟩ := hQ111
      have N111 := Fr.app N104 N111q
      refine Go.st (fun _ kk => st111.trans kk) ?_
      rw [sm111] at e111
      show Go p e below s _ _ _ T111 (mkF m 102 #[.val (.long ql), .second, .val (.long qs), .second, .val (.long qo), .second, .val (.int md), .val (.int (3 : Int32)), .val (.ref b65), .val (.ref b88), .val (.int (1 : Int32)), .unset, .unset, .unset] [(.int (b2i (¬ (qs < ql))))])
      by_cases hc112 : qs < ql
      · rw [show (b2i (¬ (qs < ql))) = (0 : Int32) from b2i_neg (not_not_intro hc112)]
        show Go p e below s _ _ _ T111 (mkF m 102 #[.val (.long ql), .second, .val (.long qs), .second, .val (.long qo), .second, .val (.int md), .val (.int (3 : Int32)), .val (.ref b65), .val (.ref b88), .val (.int (1 : Int32)), .unset, .unset, .unset] [(.int (0 : Int32))])
        refine Go.st (fun _ => XS.istore X111.here hx rfl (hb hby at_102) rfl (l' := #[.val (.long ql), .second, .val (.long qs), .second, .val (.long qo), .second, .val (.int md), .val (.int (3 : Int32)), .val (.ref b65), .val (.ref b88), .val (.int (1 : Int32)), .val (.int (0 : Int32)), .unset, .unset]) rfl) ?_
        show Go p e below s _ _ _ T111 (mkF m 104 #[.val (.long ql), .second, .val (.long qs), .second, .val (.long qo), .second, .val (.int md), .val (.int (3 : Int32)), .val (.ref b65), .val (.ref b88), .val (.int (1 : Int32)), .val (.int (0 : Int32)), .unset, .unset] [])
        refine Go.st (fun _ => XS.lloadN X111.here hx rfl (hb hby at_104) rfl) ?_
        show Go p e below s _ _ _ T111 (mkF m 105 #[.val (.long ql), .second, .val (.long qs), .second, .val (.long qo), .second, .val (.int md), .val (.int (3 : Int32)), .val (.ref b65), .val (.ref b88), .val (.int (1 : Int32)), .val (.int (0 : Int32)), .unset, .unset] [(.long ql)])
        refine Go.st (fun _ => XS.lconst X111.here hx rfl (hb hby at_105)) ?_
        show Go p e below s _ _ _ T111 (mkF m 106 #[.val (.long ql), .second, .val (.long qs), .second, .val (.long qo), .second, .val (.int md), .val (.int (3 : Int32)), .val (.ref b65), .val (.ref b88), .val (.int (1 : Int32)), .val (.int (0 : Int32)), .unset, .unset] [(.long (0 : Int64)), (.long ql)])
        refine Go.st (fun _ => XS.lcmp X111.here hx rfl (hb hby at_106) rfl) ?_
        show Go p e below s _ _ _ T111 (mkF m 107 #[.val (.long ql), .second, .val (.long qs), .second, .val (.long qo), .second, .val (.int md), .val (.int (3 : Int32)), .val (.ref b65), .val (.ref b88), .val (.int (1 : Int32)), .val (.int (0 : Int32)), .unset, .unset] [(.int (lcmpW ql (0 : Int64)))])
        refine Go.st (fun _ => XS.ifNo X111.here hx rfl (hb hby at_107) rfl ((if0 _ _).trans (flt (fun qq => hc94 ((lw_gt ql (0 : Int64)).mp qq))).2.2.1)) ?_
        show Go p e below s _ _ _ T111 (mkF m 110 #[.val (.long ql), .second, .val (.long qs), .second, .val (.long qo), .second, .val (.int md), .val (.int (3 : Int32)), .val (.ref b65), .val (.ref b88), .val (.int (1 : Int32)), .val (.int (0 : Int32)), .unset, .unset] [])
        refine Go.st (fun _ => XS.iconst X111.here hx rfl (hb hby at_110)) ?_
        show Go p e below s _ _ _ T111 (mkF m 111 #[.val (.long ql), .second, .val (.long qs), .second, .val (.long qo), .second, .val (.int md), .val (.int (3 : Int32)), .val (.ref b65), .val (.ref b88), .val (.int (1 : Int32)), .val (.int (0 : Int32)), .unset, .unset] [(.int (1 : Int32))])
        refine Go.st (fun _ => XS.goto X111.here hx rfl (pc0 := 111) (pc' := 115) rfl (hb hby at_111) (by decide) (by decide)) ?_
        show Go p e below s _ _ _ T111 (mkF m 115 #[.val (.long ql), .second, .val (.long qs), .second, .val (.long qo), .second, .val (.int md), .val (.int (3 : Int32)), .val (.ref b65), .val (.ref b88), .val (.int (1 : Int32)), .val (.int (0 : Int32)), .unset, .unset] [(.int (1 : Int32))])
        refine Go.st (fun _ => XS.istore X111.here hx rfl (hb hby at_115) rfl (l' := #[.val (.long ql), .second, .val (.long qs), .second, .val (.long qo), .second, .val (.int md), .val (.int (3 : Int32)), .val (.ref b65), .val (.ref b88), .val (.int (1 : Int32)), .val (.int (0 : Int32)), .val (.int (1 : Int32)), .unset]) rfl) ?_
        show Go p e below s _ _ _ T111 (mkF m 117 #[.val (.long ql), .second, .val (.long qs), .second, .val (.long qo), .second, .val (.int md), .val (.int (3 : Int32)), .val (.ref b65), .val (.ref b88), .val (.int (1 : Int32)), .val (.int (0 : Int32)), .val (.int (1 : Int32)), .unset] [])
        refine Go.st (fun _ => XS.iload X111.here hx rfl (hb hby at_117) rfl) ?_
        show Go p e below s _ _ _ T111 (mkF m 119 #[.val (.long ql), .second, .val (.long qs), .second, .val (.long qo), .second, .val (.int md), .val (.int (3 : Int32)), .val (.ref b65), .val (.ref b88), .val (.int (1 : Int32)), .val (.int (0 : Int32)), .val (.int (1 : Int32)), .unset] [(.int (3 : Int32))])
        refine Go.st (fun _ => XS.ifYes X111.here hx rfl (pc0 := 119) (pc' := 129) rfl (hb hby at_119) rfl ((if0 _ _).trans (feq (by decide : ¬ ((3 : Int32) = (0 : Int32)))).2) (by decide) (by decide)) ?_
        show Go p e below s _ _ _ T111 (mkF m 129 #[.val (.long ql), .second, .val (.long qs), .second, .val (.long qo), .second, .val (.int md), .val (.int (3 : Int32)), .val (.ref b65), .val (.ref b88), .val (.int (1 : Int32)), .val (.int (0 : Int32)), .val (.int (1 : Int32)), .unset] [])
        refine Go.st (fun _ => XS.iload X111.here hx rfl (hb hby at_129) rfl) ?_
        show Go p e below s _ _ _ T111 (mkF m 131 #[.val (.long ql), .second, .val (.long qs), .second, .val (.long qo), .second, .val (.int md), .val (.int (3 : Int32)), .val (.ref b65), .val (.ref b88), .val (.int (1 : Int32)), .val (.int (0 : Int32)), .val (.int (1 : Int32)), .unset] [(.int (3 : Int32))])
        refine Go.st (fun _ => XS.iconst X111.here hx rfl (hb hby at_131)) ?_
        show Go p e below s _ _ _ T111 (mkF m 132 #[.val (.long ql), .second, .val (.long qs), .second, .val (.long qo), .second, .val (.int md), .val (.int (3 : Int32)), .val (.ref b65), .val (.ref b88), .val (.int (1 : Int32)), .val (.int (0 : Int32)), .val (.int (1 : Int32)), .unset] [(.int (1 : Int32)), (.int (3 : Int32))])
        refine Go.st (fun _ => XS.icmpYes X111.here hx rfl (pc0 := 132) (pc' := 141) rfl (hb hby at_132) rfl (feq (by decide : ¬ ((3 : Int32) = (1 : Int32)))).2 (by decide) (by decide)) ?_
        show Go p e below s _ _ _ T111 (mkF m 141 #[.val (.long ql), .second, .val (.long qs), .second, .val (.long qo), .second, .val (.int md), .val (.int (3 : Int32)), .val (.ref b65), .val (.ref b88), .val (.int (1 : Int32)), .val (.int (0 : Int32)), .val (.int (1 : Int32)), .unset] [])
        refine Go.st (fun _ => XS.lloadN X111.here hx rfl (hb hby at_141) rfl) ?_
        show Go p e below s _ _ _ T111 (mkF m 142 #[.val (.long ql), .second, .val (.long qs), .second, .val (.long qo), .second, .val (.int md), .val (.int (3 : Int32)), .val (.ref b65), .val (.ref b88), .val (.int (1 : Int32)), .val (.int (0 : Int32)), .val (.int (1 : Int32)), .unset] [(.long qs)])
        refine Go.st (fun _ => XS.lloadN X111.here hx rfl (hb hby at_142) rfl) ?_
        show Go p e below s _ _ _ T111 (mkF m 143 #[.val (.long ql), .second, .val (.long qs), .second, .val (.long qo), .second, .val (.int md), .val (.int (3 : Int32)), .val (.ref b65), .val (.ref b88), .val (.int (1 : Int32)), .val (.int (0 : Int32)), .val (.int (1 : Int32)), .unset] [(.long ql), (.long qs)])
        refine Go.st (fun _ => XS.lcmp X111.here hx rfl (hb hby at_143) rfl) ?_
        show Go p e below s _ _ _ T111 (mkF m 144 #[.val (.long ql), .second, .val (.long qs), .second, .val (.long qo), .second, .val (.int md), .val (.int (3 : Int32)), .val (.ref b65), .val (.ref b88), .val (.int (1 : Int32)), .val (.int (0 : Int32)), .val (.int (1 : Int32)), .unset] [(.int (lcmpW qs ql))])
        refine Go.st (fun _ => XS.ifYes X111.here hx rfl (pc0 := 144) (pc' := 151) rfl (hb hby at_144) rfl ((if0 _ _).trans (tlt ((lw_lt qs ql).mpr hc112)).1) (by decide) (by decide)) ?_
        show Go p e below s _ _ _ T111 (mkF m 151 #[.val (.long ql), .second, .val (.long qs), .second, .val (.long qo), .second, .val (.int md), .val (.int (3 : Int32)), .val (.ref b65), .val (.ref b88), .val (.int (1 : Int32)), .val (.int (0 : Int32)), .val (.int (1 : Int32)), .unset] [])
        refine Go.st (fun _ => XS.iconst X111.here hx rfl (hb hby at_151)) ?_
        show Go p e below s _ _ _ T111 (mkF m 152 #[.val (.long ql), .second, .val (.long qs), .second, .val (.long qo), .second, .val (.int md), .val (.int (3 : Int32)), .val (.ref b65), .val (.ref b88), .val (.int (1 : Int32)), .val (.int (0 : Int32)), .val (.int (1 : Int32)), .unset] [(.int (0 : Int32))])
        refine Go.st (fun _ => XS.istore X111.here hx rfl (hb hby at_152) rfl (l' := #[.val (.long ql), .second, .val (.long qs), .second, .val (.long qo), .second, .val (.int md), .val (.int (3 : Int32)), .val (.ref b65), .val (.ref b88), .val (.int (1 : Int32)), .val (.int (0 : Int32)), .val (.int (1 : Int32)), .val (.int (0 : Int32))]) rfl) ?_
        show Go p e below s _ _ _ T111 (mkF m 154 #[.val (.long ql), .second, .val (.long qs), .second, .val (.long qo), .second, .val (.int md), .val (.int (3 : Int32)), .val (.ref b65), .val (.ref b88), .val (.int (1 : Int32)), .val (.int (0 : Int32)), .val (.int (1 : Int32)), .val (.int (0 : Int32))] [])
        refine Go.st (fun _ => XS.iload X111.here hx rfl (hb hby at_154) rfl) ?_
        show Go p e below s _ _ _ T111 (mkF m 156 #[.val (.long ql), .second, .val (.long qs), .second, .val (.long qo), .second, .val (.int md), .val (.int (3 : Int32)), .val (.ref b65), .val (.ref b88), .val (.int (1 : Int32)), .val (.int (0 : Int32)), .val (.int (1 : Int32)), .val (.int (0 : Int32))] [(.int (1 : Int32))])
        refine Go.st (fun _ => XS.iload X111.here hx rfl (hb hby at_156) rfl) ?_
        show Go p e below s _ _ _ T111 (mkF m 158 #[.val (.long ql), .second, .val (.long qs), .second, .val (.long qo), .second, .val (.int md), .val (.int (3 : Int32)), .val (.ref b65), .val (.ref b88), .val (.int (1 : Int32)), .val (.int (0 : Int32)), .val (.int (1 : Int32)), .val (.int (0 : Int32))] [(.int (1 : Int32)), (.int (1 : Int32))])
        refine Go.st (fun _ => XS.icmpNo X111.here hx rfl (hb hby at_158) rfl (teq (by decide : (1 : Int32) = (1 : Int32))).2) ?_
        show Go p e below s _ _ _ T111 (mkF m 161 #[.val (.long ql), .second, .val (.long qs), .second, .val (.long qo), .second, .val (.int md), .val (.int (3 : Int32)), .val (.ref b65), .val (.ref b88), .val (.int (1 : Int32)), .val (.int (0 : Int32)), .val (.int (1 : Int32)), .val (.int (0 : Int32))] [])
        refine Go.st (fun _ => XS.iload X111.here hx rfl (hb hby at_161) rfl) ?_
        show Go p e below s _ _ _ T111 (mkF m 163 #[.val (.long ql), .second, .val (.long qs), .second, .val (.long qo), .second, .val (.int md), .val (.int (3 : Int32)), .val (.ref b65), .val (.ref b88), .val (.int (1 : Int32)), .val (.int (0 : Int32)), .val (.int (1 : Int32)), .val (.int (0 : Int32))] [(.int (0 : Int32))])
        refine Go.st (fun _ => XS.iload X111.here hx rfl (hb hby at_163) rfl) ?_
        show Go p e below s _ _ _ T111 (mkF m 165 #[.val (.long ql), .second, .val (.long qs), .second, .val (.long qo), .second, .val (.int md), .val (.int (3 : Int32)), .val (.ref b65), .val (.ref b88), .val (.int (1 : Int32)), .val (.int (0 : Int32)), .val (.int (1 : Int32)), .val (.int (0 : Int32))] [(.int (0 : Int32)), (.int (0 : Int32))])
        refine Go.st (fun _ => XS.icmpNo X111.here hx rfl (hb hby at_165) rfl (teq (by decide : (0 : Int32) = (0 : Int32))).2) ?_
        show Go p e below s _ _ _ T111 (mkF m 168 #[.val (.long ql), .second, .val (.long qs), .second, .val (.long qo), .second, .val (.int md), .val (.int (3 : Int32)), .val (.ref b65), .val (.ref b88), .val (.int (1 : Int32)), .val (.int (0 : Int32)), .val (.int (1 : Int32)), .val (.int (0 : Int32))] [])
        refine Go.st (fun _ => XS.iconst X111.here hx rfl (hb hby at_168)) ?_
        show Go p e below s _ _ _ T111 (mkF m 169 #[.val (.long ql), .second, .val (.long qs), .second, .val (.long qo), .second, .val (.int md), .val (.int (3 : Int32)), .val (.ref b65), .val (.ref b88), .val (.int (1 : Int32)), .val (.int (0 : Int32)), .val (.int (1 : Int32)), .val (.int (0 : Int32))] [(.int (1 : Int32))])
        refine Go.st (fun _ => XS.goto X111.here hx rfl (pc0 := 169) (pc' := 173) rfl (hb hby at_169) (by decide) (by decide)) ?_
        show Go p e below s _ _ _ T111 (mkF m 173 #[.val (.long ql), .second, .val (.long qs), .second, .val (.long qo), .second, .val (.int md), .val (.int (3 : Int32)), .val (.ref b65), .val (.ref b88), .val (.int (1 : Int32)), .val (.int (0 : Int32)), .val (.int (1 : Int32)), .val (.int (0 : Int32))] [(.int (1 : Int32))])
        exact Go.retZ X111 hx hlk Bd.returns (hb hby at_173) rfl (by rw [e111]; exact ⟨rfl, N111⟩) (by decide) (by decide)
      · rw [show (b2i (¬ (qs < ql))) = (1 : Int32) from b2i_pos hc112]
        show Go p e below s _ _ _ T111 (mkF m 102 #[.val (.long ql), .second, .val (.long qs), .second, .val (.long qo), .second, .val (.int md), .val (.int (3 : Int32)), .val (.ref b65), .val (.ref b88), .val (.int (1 : Int32)), .unset, .unset, .unset] [(.int (1 : Int32))])
        refine Go.st (fun _ => XS.istore X111.here hx rfl (hb hby at_102) rfl (l' := #[.val (.long ql), .second, .val (.long qs), .second, .val (.long qo), .second, .val (.int md), .val (.int (3 : Int32)), .val (.ref b65), .val (.ref b88), .val (.int (1 : Int32)), .val (.int (1 : Int32)), .unset, .unset]) rfl) ?_
        show Go p e below s _ _ _ T111 (mkF m 104 #[.val (.long ql), .second, .val (.long qs), .second, .val (.long qo), .second, .val (.int md), .val (.int (3 : Int32)), .val (.ref b65), .val (.ref b88), .val (.int (1 : Int32)), .val (.int (1 : Int32)), .unset, .unset] [])
        refine Go.st (fun _ => XS.lloadN X111.here hx rfl (hb hby at_104) rfl) ?_
        show Go p e below s _ _ _ T111 (mkF m 105 #[.val (.long ql), .second, .val (.long qs), .second, .val (.long qo), .second, .val (.int md), .val (.int (3 : Int32)), .val (.ref b65), .val (.ref b88), .val (.int (1 : Int32)), .val (.int (1 : Int32)), .unset, .unset] [(.long ql)])
        refine Go.st (fun _ => XS.lconst X111.here hx rfl (hb hby at_105)) ?_
        show Go p e below s _ _ _ T111 (mkF m 106 #[.val (.long ql), .second, .val (.long qs), .second, .val (.long qo), .second, .val (.int md), .val (.int (3 : Int32)), .val (.ref b65), .val (.ref b88), .val (.int (1 : Int32)), .val (.int (1 : Int32)), .unset, .unset] [(.long (0 : Int64)), (.long ql)])
        refine Go.st (fun _ => XS.lcmp X111.here hx rfl (hb hby at_106) rfl) ?_
        show Go p e below s _ _ _ T111 (mkF m 107 #[.val (.long ql), .second, .val (.long qs), .second, .val (.long qo), .second, .val (.int md), .val (.int (3 : Int32)), .val (.ref b65), .val (.ref b88), .val (.int (1 : Int32)), .val (.int (1 : Int32)), .unset, .unset] [(.int (lcmpW ql (0 : Int64)))])
        refine Go.st (fun _ => XS.ifNo X111.here hx rfl (hb hby at_107) rfl ((if0 _ _).trans (flt (fun qq => hc94 ((lw_gt ql (0 : Int64)).mp qq))).2.2.1)) ?_
        show Go p e below s _ _ _ T111 (mkF m 110 #[.val (.long ql), .second, .val (.long qs), .second, .val (.long qo), .second, .val (.int md), .val (.int (3 : Int32)), .val (.ref b65), .val (.ref b88), .val (.int (1 : Int32)), .val (.int (1 : Int32)), .unset, .unset] [])
        refine Go.st (fun _ => XS.iconst X111.here hx rfl (hb hby at_110)) ?_
        show Go p e below s _ _ _ T111 (mkF m 111 #[.val (.long ql), .second, .val (.long qs), .second, .val (.long qo), .second, .val (.int md), .val (.int (3 : Int32)), .val (.ref b65), .val (.ref b88), .val (.int (1 : Int32)), .val (.int (1 : Int32)), .unset, .unset] [(.int (1 : Int32))])
        refine Go.st (fun _ => XS.goto X111.here hx rfl (pc0 := 111) (pc' := 115) rfl (hb hby at_111) (by decide) (by decide)) ?_
        show Go p e below s _ _ _ T111 (mkF m 115 #[.val (.long ql), .second, .val (.long qs), .second, .val (.long qo), .second, .val (.int md), .val (.int (3 : Int32)), .val (.ref b65), .val (.ref b88), .val (.int (1 : Int32)), .val (.int (1 : Int32)), .unset, .unset] [(.int (1 : Int32))])
        refine Go.st (fun _ => XS.istore X111.here hx rfl (hb hby at_115) rfl (l' := #[.val (.long ql), .second, .val (.long qs), .second, .val (.long qo), .second, .val (.int md), .val (.int (3 : Int32)), .val (.ref b65), .val (.ref b88), .val (.int (1 : Int32)), .val (.int (1 : Int32)), .val (.int (1 : Int32)), .unset]) rfl) ?_
        show Go p e below s _ _ _ T111 (mkF m 117 #[.val (.long ql), .second, .val (.long qs), .second, .val (.long qo), .second, .val (.int md), .val (.int (3 : Int32)), .val (.ref b65), .val (.ref b88), .val (.int (1 : Int32)), .val (.int (1 : Int32)), .val (.int (1 : Int32)), .unset] [])
        refine Go.st (fun _ => XS.iload X111.here hx rfl (hb hby at_117) rfl) ?_
        show Go p e below s _ _ _ T111 (mkF m 119 #[.val (.long ql), .second, .val (.long qs), .second, .val (.long qo), .second, .val (.int md), .val (.int (3 : Int32)), .val (.ref b65), .val (.ref b88), .val (.int (1 : Int32)), .val (.int (1 : Int32)), .val (.int (1 : Int32)), .unset] [(.int (3 : Int32))])
        refine Go.st (fun _ => XS.ifYes X111.here hx rfl (pc0 := 119) (pc' := 129) rfl (hb hby at_119) rfl ((if0 _ _).trans (feq (by decide : ¬ ((3 : Int32) = (0 : Int32)))).2) (by decide) (by decide)) ?_
        show Go p e below s _ _ _ T111 (mkF m 129 #[.val (.long ql), .second, .val (.long qs), .second, .val (.long qo), .second, .val (.int md), .val (.int (3 : Int32)), .val (.ref b65), .val (.ref b88), .val (.int (1 : Int32)), .val (.int (1 : Int32)), .val (.int (1 : Int32)), .unset] [])
        refine Go.st (fun _ => XS.iload X111.here hx rfl (hb hby at_129) rfl) ?_
        show Go p e below s _ _ _ T111 (mkF m 131 #[.val (.long ql), .second, .val (.long qs), .second, .val (.long qo), .second, .val (.int md), .val (.int (3 : Int32)), .val (.ref b65), .val (.ref b88), .val (.int (1 : Int32)), .val (.int (1 : Int32)), .val (.int (1 : Int32)), .unset] [(.int (3 : Int32))])
        refine Go.st (fun _ => XS.iconst X111.here hx rfl (hb hby at_131)) ?_
        show Go p e below s _ _ _ T111 (mkF m 132 #[.val (.long ql), .second, .val (.long qs), .second, .val (.long qo), .second, .val (.int md), .val (.int (3 : Int32)), .val (.ref b65), .val (.ref b88), .val (.int (1 : Int32)), .val (.int (1 : Int32)), .val (.int (1 : Int32)), .unset] [(.int (1 : Int32)), (.int (3 : Int32))])
        refine Go.st (fun _ => XS.icmpYes X111.here hx rfl (pc0 := 132) (pc' := 141) rfl (hb hby at_132) rfl (feq (by decide : ¬ ((3 : Int32) = (1 : Int32)))).2 (by decide) (by decide)) ?_
        show Go p e below s _ _ _ T111 (mkF m 141 #[.val (.long ql), .second, .val (.long qs), .second, .val (.long qo), .second, .val (.int md), .val (.int (3 : Int32)), .val (.ref b65), .val (.ref b88), .val (.int (1 : Int32)), .val (.int (1 : Int32)), .val (.int (1 : Int32)), .unset] [])
        refine Go.st (fun _ => XS.lloadN X111.here hx rfl (hb hby at_141) rfl) ?_
        show Go p e below s _ _ _ T111 (mkF m 142 #[.val (.long ql), .second, .val (.long qs), .second, .val (.long qo), .second, .val (.int md), .val (.int (3 : Int32)), .val (.ref b65), .val (.ref b88), .val (.int (1 : Int32)), .val (.int (1 : Int32)), .val (.int (1 : Int32)), .unset] [(.long qs)])
        refine Go.st (fun _ => XS.lloadN X111.here hx rfl (hb hby at_142) rfl) ?_
        show Go p e below s _ _ _ T111 (mkF m 143 #[.val (.long ql), .second, .val (.long qs), .second, .val (.long qo), .second, .val (.int md), .val (.int (3 : Int32)), .val (.ref b65), .val (.ref b88), .val (.int (1 : Int32)), .val (.int (1 : Int32)), .val (.int (1 : Int32)), .unset] [(.long ql), (.long qs)])
        refine Go.st (fun _ => XS.lcmp X111.here hx rfl (hb hby at_143) rfl) ?_
        show Go p e below s _ _ _ T111 (mkF m 144 #[.val (.long ql), .second, .val (.long qs), .second, .val (.long qo), .second, .val (.int md), .val (.int (3 : Int32)), .val (.ref b65), .val (.ref b88), .val (.int (1 : Int32)), .val (.int (1 : Int32)), .val (.int (1 : Int32)), .unset] [(.int (lcmpW qs ql))])
        refine Go.st (fun _ => XS.ifNo X111.here hx rfl (hb hby at_144) rfl ((if0 _ _).trans (flt (fun qq => hc112 ((lw_lt qs ql).mp qq))).1)) ?_
        show Go p e below s _ _ _ T111 (mkF m 147 #[.val (.long ql), .second, .val (.long qs), .second, .val (.long qo), .second, .val (.int md), .val (.int (3 : Int32)), .val (.ref b65), .val (.ref b88), .val (.int (1 : Int32)), .val (.int (1 : Int32)), .val (.int (1 : Int32)), .unset] [])
        refine Go.st (fun _ => XS.iconst X111.here hx rfl (hb hby at_147)) ?_
        show Go p e below s _ _ _ T111 (mkF m 148 #[.val (.long ql), .second, .val (.long qs), .second, .val (.long qo), .second, .val (.int md), .val (.int (3 : Int32)), .val (.ref b65), .val (.ref b88), .val (.int (1 : Int32)), .val (.int (1 : Int32)), .val (.int (1 : Int32)), .unset] [(.int (1 : Int32))])
        refine Go.st (fun _ => XS.goto X111.here hx rfl (pc0 := 148) (pc' := 152) rfl (hb hby at_148) (by decide) (by decide)) ?_
        show Go p e below s _ _ _ T111 (mkF m 152 #[.val (.long ql), .second, .val (.long qs), .second, .val (.long qo), .second, .val (.int md), .val (.int (3 : Int32)), .val (.ref b65), .val (.ref b88), .val (.int (1 : Int32)), .val (.int (1 : Int32)), .val (.int (1 : Int32)), .unset] [(.int (1 : Int32))])
        refine Go.st (fun _ => XS.istore X111.here hx rfl (hb hby at_152) rfl (l' := #[.val (.long ql), .second, .val (.long qs), .second, .val (.long qo), .second, .val (.int md), .val (.int (3 : Int32)), .val (.ref b65), .val (.ref b88), .val (.int (1 : Int32)), .val (.int (1 : Int32)), .val (.int (1 : Int32)), .val (.int (1 : Int32))]) rfl) ?_
        show Go p e below s _ _ _ T111 (mkF m 154 #[.val (.long ql), .second, .val (.long qs), .second, .val (.long qo), .second, .val (.int md), .val (.int (3 : Int32)), .val (.ref b65), .val (.ref b88), .val (.int (1 : Int32)), .val (.int (1 : Int32)), .val (.int (1 : Int32)), .val (.int (1 : Int32))] [])
        refine Go.st (fun _ => XS.iload X111.here hx rfl (hb hby at_154) rfl) ?_
        show Go p e below s _ _ _ T111 (mkF m 156 #[.val (.long ql), .second, .val (.long qs), .second, .val (.long qo), .second, .val (.int md), .val (.int (3 : Int32)), .val (.ref b65), .val (.ref b88), .val (.int (1 : Int32)), .val (.int (1 : Int32)), .val (.int (1 : Int32)), .val (.int (1 : Int32))] [(.int (1 : Int32))])
        refine Go.st (fun _ => XS.iload X111.here hx rfl (hb hby at_156) rfl) ?_
        show Go p e below s _ _ _ T111 (mkF m 158 #[.val (.long ql), .second, .val (.long qs), .second, .val (.long qo), .second, .val (.int md), .val (.int (3 : Int32)), .val (.ref b65), .val (.ref b88), .val (.int (1 : Int32)), .val (.int (1 : Int32)), .val (.int (1 : Int32)), .val (.int (1 : Int32))] [(.int (1 : Int32)), (.int (1 : Int32))])
        refine Go.st (fun _ => XS.icmpNo X111.here hx rfl (hb hby at_158) rfl (teq (by decide : (1 : Int32) = (1 : Int32))).2) ?_
        show Go p e below s _ _ _ T111 (mkF m 161 #[.val (.long ql), .second, .val (.long qs), .second, .val (.long qo), .second, .val (.int md), .val (.int (3 : Int32)), .val (.ref b65), .val (.ref b88), .val (.int (1 : Int32)), .val (.int (1 : Int32)), .val (.int (1 : Int32)), .val (.int (1 : Int32))] [])
        refine Go.st (fun _ => XS.iload X111.here hx rfl (hb hby at_161) rfl) ?_
        show Go p e below s _ _ _ T111 (mkF m 163 #[.val (.long ql), .second, .val (.long qs), .second, .val (.long qo), .second, .val (.int md), .val (.int (3 : Int32)), .val (.ref b65), .val (.ref b88), .val (.int (1 : Int32)), .val (.int (1 : Int32)), .val (.int (1 : Int32)), .val (.int (1 : Int32))] [(.int (1 : Int32))])
        refine Go.st (fun _ => XS.iload X111.here hx rfl (hb hby at_163) rfl) ?_
        show Go p e below s _ _ _ T111 (mkF m 165 #[.val (.long ql), .second, .val (.long qs), .second, .val (.long qo), .second, .val (.int md), .val (.int (3 : Int32)), .val (.ref b65), .val (.ref b88), .val (.int (1 : Int32)), .val (.int (1 : Int32)), .val (.int (1 : Int32)), .val (.int (1 : Int32))] [(.int (1 : Int32)), (.int (1 : Int32))])
        refine Go.st (fun _ => XS.icmpNo X111.here hx rfl (hb hby at_165) rfl (teq (by decide : (1 : Int32) = (1 : Int32))).2) ?_
        show Go p e below s _ _ _ T111 (mkF m 168 #[.val (.long ql), .second, .val (.long qs), .second, .val (.long qo), .second, .val (.int md), .val (.int (3 : Int32)), .val (.ref b65), .val (.ref b88), .val (.int (1 : Int32)), .val (.int (1 : Int32)), .val (.int (1 : Int32)), .val (.int (1 : Int32))] [])
        refine Go.st (fun _ => XS.iconst X111.here hx rfl (hb hby at_168)) ?_
        show Go p e below s _ _ _ T111 (mkF m 169 #[.val (.long ql), .second, .val (.long qs), .second, .val (.long qo), .second, .val (.int md), .val (.int (3 : Int32)), .val (.ref b65), .val (.ref b88), .val (.int (1 : Int32)), .val (.int (1 : Int32)), .val (.int (1 : Int32)), .val (.int (1 : Int32))] [(.int (1 : Int32))])
        refine Go.st (fun _ => XS.goto X111.here hx rfl (pc0 := 169) (pc' := 173) rfl (hb hby at_169) (by decide) (by decide)) ?_
        show Go p e below s _ _ _ T111 (mkF m 173 #[.val (.long ql), .second, .val (.long qs), .second, .val (.long qo), .second, .val (.int md), .val (.int (3 : Int32)), .val (.ref b65), .val (.ref b88), .val (.int (1 : Int32)), .val (.int (1 : Int32)), .val (.int (1 : Int32)), .val (.int (1 : Int32))] [(.int (1 : Int32))])
        exact Go.retZ X111 hx hlk Bd.returns (hb hby at_173) rfl (by rw [e111]; exact ⟨rfl, N111⟩) (by decide) (by decide)
set_option maxRecDepth 65536 in
set_option maxHeartbeats 40000000 in
theorem comes_1 {Post : Tables → Env → Array Value → State → Outcome → State → Prop} (hpost : ∀ tb e args s v u, (limb_1_1.after args s (.returned v) u = true ∧ limb_1_2.after args s (.returned v) u = true ∧ True) → FrameEnd s (.returned v) u (Jvm.fieldLocs frame_1_writes args s ++ Jvm.arrayLocs frame_1_arrays args s ++ Jvm.staticLocs frame_1_statics s) 24 128 → Post tb e args s (.returned v) u) :
    ArmFor flags0 classFile x code maxLocals ret World_1 tables_1 room_1 Calls_1 rest_1 Pre_1 Post := by
  intro l hfl _ _ p e ha hc hk s m args below hf hA hF happ hP
  obtain ⟨hcalls, hrest, hpre⟩ := hP
  obtain ⟨-, -, -, hnamed, -, -, -, hat⟩ := (Spec.applies_iff hf).mp happ
  obtain ⟨hg, hn⟩ := and_e (Cond.before_iff.mp (show (Jvm.Cond.and given_1 narrow_1).before args s = true from hpre))
  obtain ⟨g1, g2⟩ := and_e hg
  obtain ⟨g3, g4⟩ := and_e g2
  obtain ⟨g5, g6⟩ := and_e g4
  obtain ⟨g7, g8⟩ := and_e g6
  obtain ⟨w0, w1, w2, w3, rfl⟩ : ∃ w0 w1 w2 w3 : Value, args = #[w0, w1, w2, w3] := by
    have hs : args.size = 4 := by simpa [Cond.value, given_1] using g1
    obtain ⟨L⟩ := args
    match L, hs with
    | [w0, w1, w2, w3], _ => exact ⟨w0, w1, w2, w3, rfl⟩
  have hw := fun d (hd : d ∈ tables_1) => atoms_spec (ws := Jvm.Cond.code x code maxLocals ret :: tables_1) hat d (List.mem_cons_of_mem _ hd)
  have hfit : Fit s := fun {y c} hc i hi => by
    obtain ⟨ha, rfl⟩ := Array.getElem?_eq_some_iff.mp hc
    have q := List.all_eq_true.mp ((Array.all_eq_true_iff_forall_mem.mp hF) _ (Array.getElem_mem ha)) i (List.mem_range.mpr hi)
    simpa [Array.getElem?_eq_getElem hi] using q
  obtain ⟨hsets, hown0⟩ := atoms_of _ (rest_1_c_eq ▸ (show rest_1_c.before _ s = true from hrest))
  have hr0 := Cond.before_iff.mp hown0
  obtain ⟨i0, ei0⟩ := isL_v g3
  obtain rfl : w0 = (.long i0) := Option.some.inj ei0
  obtain ⟨i1, ei1⟩ := isL_v g5
  obtain rfl : w1 = (.long i1) := Option.some.inj ei1
  obtain ⟨i2, ei2⟩ := isL_v g7
  obtain rfl : w2 = (.long i2) := Option.some.inj ei2
  obtain ⟨i3, ei3⟩ := is_v g8
  obtain rfl : w3 = (.int i3) := Option.some.inj ei3
  obtain ⟨u, ev⟩ := arr_v (Cond.before_iff.mp (hsets _ (List.mem_of_getElem? (i := 6) rfl)))
  have S_u := Sta.start ev (Or.inr ⟨(hw _ (List.mem_of_getElem? (i := 2) rfl)), (hsets _ (List.mem_of_getElem? (i := 2) rfl))⟩)
  obtain ⟨cu, Au⟩ := Arr.start ev (Cond.before_iff.mp (hsets _ (List.mem_of_getElem? (i := 6) rfl)))
  have V_u := own_len0 hfit ev Au (Cond.before_iff.mp (hsets _ (List.mem_of_getElem? (i := 8) rfl)))
  obtain ⟨n, o, h1, h2, h3, _, L, rfl, ⟨rfl, N⟩, hq⟩ := rm0 l s _ hw tables_1 i0 i1 i2 i3 u cu.cls s.heap s.heap.size (Nat.le_refl _) S_u V_u p e ha hc hk s m _ below hf ((Spec.applies_iff_loose hf).mp happ).1 ⟨rfl, State.Warmed39.refl s, rfl⟩ trivial
  refine ⟨n, _, h1, h2, h3, hpost _ _ _ _ _ _ ⟨Cond.after_iff.mpr rfl, Cond.after_iff.mpr (eq_i res_at (Term.int_eval (1)) rfl), trivial⟩ ⟨hq.1, hq.2.1, (hq.2.2.sift fun y hy => Or.inr (N y hy)).mono (by decide) (by decide)⟩⟩
theorem main_1_1 : Claimed_1_1 := comes_1 fun _ _ _ _ _ _ h hF => ⟨h.1, hF⟩
theorem main_1_2 : Claimed_1_2 := comes_1 fun _ _ _ _ _ _ h hF => ⟨h.2.1, hF⟩
end Jvm.Pilot.@@N@@
namespace Jvm.Pilot.@@N@@
open Jvm Jvm.ClassFile Sem Op Lib Jvm.Free Jvm.Stand Jvm.Pilot.@@N@@.Jvm.D
/-! MADE BY PROGRAM (witnessworld.py) out of the Statement's table words and the real class files: 23 classes; the members and pool entries that the words name. The judged class is class 1, her method 1. -/
namespace start1
open Jvm.ClassFile
def u (s : String) : CpInfo := .utf8 (stringToUtf16 s)
/-- a pool by its gaps: so many unusable entries, then the entry; so many at the end -/
def gap : Nat → List CpInfo → List CpInfo
  | 0, r => r
  | n + 1, r => .unusable :: gap n r
def poolList (es : List (Nat × CpInfo)) (last : Nat) : List CpInfo := es.foldr (fun e r => gap e.1 (e.2 :: r)) (gap last [])
def pool (es : List (Nat × CpInfo)) (last : Nat) : Array CpInfo := ⟨poolList es last⟩
def fileOf (pool : Array CpInfo) (this : Nat) (attrs : Array Attribute := #[]) (ms : Array MethodInfo := #[]) (fl : Nat := 33) (sup : Nat := 0) (ifs : Array Nat := #[]) (fds : Array FieldInfo := #[]) : ClassFile where
  minorVersion := 0
  majorVersion := 65
  constantPool := pool
  accessFlags := fl
  thisClass := this
  superClass := sup
  interfaces := ifs
  fields := fds
  methods := ms
  attributes := attrs
def plain (name : String) (sup : Option ClassId) : Class where
  name := name
  kind := .ordinary
  loader := none
  accessFlags := 33
  super := sup
  interfaces := #[]
  cf := none
  fields := #[]
  methods := #[]
  instanceTypes := #[]
  staticTypes := #[]
  resolved := #[]
  callSites := []
  init := .initialized
  statics := none
  mirror := none

def pool0 : Array CpInfo := pool [(5, u "<init>"), (0, u "()V"), (1, .class_ 10), (1, u "java/lang/Object")] 113

def k0c0 : Code := { maxStack := 0, maxLocals := 1, code := object_method_1_code, exceptionTable := #[], attributes := #[] }
def k0m0 : Method := { name := "<init>", desc := "()V", sig := { parameters := [], returnType := none }, accessFlags := 1, code := some k0c0 }
/-- java/lang/Object -/
def k0 : Class := { plain "java/lang/Object" none with
  accessFlags := 33
  interfaces := #[]
  cf := some (fileOf pool0 8 #[] #[{ accessFlags := 1, nameIndex := 5, descriptorIndex := 6, attributes := #[] }] 33 0 #[] #[])
  fields := #[]
  methods := #[k0m0]
  instanceTypes := #[]
  staticTypes := #[]
  resolved := Array.replicate 124 none
  statics := none }

def pool1 : Array CpInfo := pool [(2, .class_ 4), (0, .nameAndType 5 6), (0, u "java/lang/Object"), (0, u "<init>"), (0, u "()V"), (0, .class_ 8), (0, u "java/util/ArrayList"), (0, .methodref 7 3), (0, .class_ 11), (0, u "com/example/plaingrant/plaingrant/store/AuditEntry"), (0, .methodref 10 13), (0, .nameAndType 5 14), (0, u "(JLjava/lang/String;Ljava/lang/String;Ljava/lang/String;Ljava/lang/String;Lcom/example/plaingrant/plaingrant/store/AuditEntry$Outcome;Ljava/lang/String;)V"), (0, .methodref 7 16), (0, .nameAndType 17 18), (0, u "add"), (0, u "(Ljava/lang/Object;)Z"), (0, .class_ 20), (0, u "com/example/plaingrant/plaingrant/store/AuditPages"), (0, .methodref 19 22), (0, .nameAndType 5 23), (0, u "(J)V"), (0, .methodref 19 25), (0, .nameAndType 26 27), (0, u "isDone"), (0, u "()Z"), (0, .methodref 19 29), (0, .nameAndType 30 31), (0, u "gave"), (0, u "(Ljava/util/List;)V"), (0, .class_ 33), (0, u "com/example/plaingrant/plaingrant/store/AuditPagesIsDonePinLaw"), (2, u "law"), (0, u "(JJJI)Z")] 7

def k1m0 : Method := { name := "<init>", desc := "()V", sig := { parameters := [], returnType := none }, accessFlags := 1, code := none }
def k1c1 : Code := { maxStack := 11, maxLocals := 14, code := code, exceptionTable := #[], attributes := #[] }
def k1m1 : Method := { name := "law", desc := "(JJJI)Z", sig := { parameters := [.long, .long, .long, .int], returnType := some .boolean }, accessFlags := 9, code := some k1c1 }
/-- com/example/plaingrant/plaingrant/store/AuditPagesIsDonePinLaw -/
def k1 : Class := { plain "com/example/plaingrant/plaingrant/store/AuditPagesIsDonePinLaw" (some 0) with
  accessFlags := 49
  interfaces := #[]
  cf := some (fileOf pool1 32 #[] #[{ accessFlags := 1, nameIndex := 5, descriptorIndex := 6, attributes := #[] }, { accessFlags := 9, nameIndex := 36, descriptorIndex := 37, attributes := #[] }] 49 2 #[] #[])
  fields := #[]
  methods := #[k1m0, k1m1]
  instanceTypes := #[]
  staticTypes := #[]
  resolved := Array.replicate 45 none
  statics := none }

def pool2 : Array CpInfo := pool [(8, .class_ 10), (1, u "java/lang/Iterable"), (24, .class_ 36), (0, u "java/lang/Object")] 25

/-- java/lang/Iterable -/
def k2 : Class := { plain "java/lang/Iterable" (some 0) with
  accessFlags := 1537
  interfaces := #[]
  cf := some (fileOf pool2 8 #[] #[] 1537 35 #[] #[])
  fields := #[]
  methods := #[]
  instanceTypes := #[]
  staticTypes := #[]
  resolved := Array.replicate 62 none
  statics := none }

def pool3 : Array CpInfo := pool [(10, .class_ 12), (1, u "java/util/Collection"), (47, .class_ 61), (0, u "java/lang/Object"), (0, .class_ 63), (0, u "java/lang/Iterable")] 51

/-- java/util/Collection -/
def k3 : Class := { plain "java/util/Collection" (some 0) with
  accessFlags := 1537
  interfaces := #[2]
  cf := some (fileOf pool3 10 #[] #[] 1537 60 #[62] #[])
  fields := #[]
  methods := #[]
  instanceTypes := #[]
  staticTypes := #[]
  resolved := Array.replicate 115 none
  statics := none }

def pool4 : Array CpInfo := pool [(1, .methodref 2 3), (0, .class_ 4), (0, .nameAndType 5 6), (0, u "java/lang/Object"), (0, u "<init>"), (0, u "()V"), (1, .class_ 10), (1, u "java/util/AbstractCollection"), (66, .class_ 78), (0, u "java/util/Collection")] 81

def k4c0 : Code := { maxStack := 1, maxLocals := 1, code := jdk_22_method_1_code, exceptionTable := #[], attributes := #[] }
def k4m0 : Method := { name := "<init>", desc := "()V", sig := { parameters := [], returnType := none }, accessFlags := 4, code := some k4c0 }
/-- java/util/AbstractCollection -/
def k4 : Class := { plain "java/util/AbstractCollection" (some 0) with
  accessFlags := 1057
  interfaces := #[3]
  cf := some (fileOf pool4 8 #[] #[{ accessFlags := 4, nameIndex := 5, descriptorIndex := 6, attributes := #[] }] 1057 2 #[77] #[])
  fields := #[]
  methods := #[k4m0]
  instanceTypes := #[]
  staticTypes := #[]
  resolved := Array.replicate 160 none
  statics := none }

def pool5 : Array CpInfo := pool [(8, .class_ 10), (1, u "java/util/SequencedCollection"), (15, .class_ 27), (0, u "java/lang/Object"), (0, .class_ 29), (0, u "java/util/Collection")] 27

/-- java/util/SequencedCollection -/
def k5 : Class := { plain "java/util/SequencedCollection" (some 0) with
  accessFlags := 1537
  interfaces := #[3]
  cf := some (fileOf pool5 8 #[] #[] 1537 26 #[28] #[])
  fields := #[]
  methods := #[]
  instanceTypes := #[]
  staticTypes := #[]
  resolved := Array.replicate 57 none
  statics := none }

def pool6 : Array CpInfo := pool [(8, .class_ 10), (1, u "java/util/List"), (7, u "()Z"), (48, u "isEmpty"), (7, u "get"), (0, u "(I)Ljava/lang/Object;"), (2, u "size"), (0, u "()I"), (22, .class_ 104), (0, u "java/lang/Object"), (15, .class_ 121), (0, u "java/util/SequencedCollection")] 129

def k6m0 : Method := { name := "size", desc := "()I", sig := { parameters := [], returnType := some .int }, accessFlags := 1025, code := none }
def k6m1 : Method := { name := "isEmpty", desc := "()Z", sig := { parameters := [], returnType := some .boolean }, accessFlags := 1025, code := none }
def k6m2 : Method := { name := "get", desc := "(I)Ljava/lang/Object;", sig := { parameters := [.int], returnType := some (.object "java/lang/Object") }, accessFlags := 1025, code := none }
/-- java/util/List -/
def k6 : Class := { plain "java/util/List" (some 0) with
  accessFlags := 1537
  interfaces := #[5]
  cf := some (fileOf pool6 8 #[] #[{ accessFlags := 1025, nameIndex := 79, descriptorIndex := 80, attributes := #[] }, { accessFlags := 1025, nameIndex := 67, descriptorIndex := 18, attributes := #[] }, { accessFlags := 1025, nameIndex := 75, descriptorIndex := 76, attributes := #[] }] 1537 103 #[120] #[])
  fields := #[]
  methods := #[k6m0, k6m1, k6m2]
  instanceTypes := #[]
  staticTypes := #[]
  resolved := Array.replicate 251 none
  statics := none }

def pool7 : Array CpInfo := pool [(1, .methodref 2 3), (0, .class_ 4), (0, .nameAndType 5 6), (0, u "java/util/AbstractCollection"), (0, u "<init>"), (0, u "()V"), (0, .fieldref 8 9), (0, .class_ 10), (0, .nameAndType 11 12), (0, u "java/util/AbstractList"), (0, u "modCount"), (0, u "I"), (64, .class_ 78), (0, u "java/util/AbstractList$Itr"), (3, .class_ 83), (0, u "java/util/AbstractList$ListItr"), (9, .class_ 94), (0, u "java/util/AbstractList$RandomAccessSubList"), (3, .class_ 99), (0, u "java/util/AbstractList$SubList"), (33, .class_ 134), (0, u "java/util/List"), (73, .class_ 209), (0, u "java/util/AbstractList$SubList$1"), (0, .class_ 211), (0, u "java/util/AbstractList$RandomAccessSpliterator")] 6

def k7c0 : Code := { maxStack := 2, maxLocals := 1, code := jdk_39_method_1_code, exceptionTable := #[], attributes := #[] }
def k7m0 : Method := { name := "<init>", desc := "()V", sig := { parameters := [], returnType := none }, accessFlags := 4, code := some k7c0 }
/-- java/util/AbstractList -/
def k7 : Class := { plain "java/util/AbstractList" (some 4) with
  accessFlags := 1057
  interfaces := #[6]
  cf := some (fileOf pool7 8 #[.nestMembers #[93, 98, 208, 210, 82, 77]] #[{ accessFlags := 4, nameIndex := 5, descriptorIndex := 6, attributes := #[] }] 1057 2 #[133] #[{ accessFlags := 132, nameIndex := 11, descriptorIndex := 12, attributes := #[] }])
  fields := #[{ name := "modCount", type := .int, accessFlags := 132, slot := 0, constantValue := 0 }]
  methods := #[k7m0]
  instanceTypes := #[.int]
  staticTypes := #[]
  resolved := Array.replicate 218 none
  statics := none }

def pool8 : Array CpInfo := pool [(1, .class_ 2), (0, u "java/util/RandomAccess"), (0, .class_ 4), (0, u "java/lang/Object")] 2

/-- java/util/RandomAccess -/
def k8 : Class := { plain "java/util/RandomAccess" (some 0) with
  accessFlags := 1537
  interfaces := #[]
  cf := some (fileOf pool8 1 #[] #[] 1537 3 #[] #[])
  fields := #[]
  methods := #[]
  instanceTypes := #[]
  staticTypes := #[]
  resolved := Array.replicate 7 none
  statics := none }

def pool9 : Array CpInfo := pool [(1, .class_ 2), (0, u "java/lang/Cloneable"), (0, .class_ 4), (0, u "java/lang/Object")] 2

/-- java/lang/Cloneable -/
def k9 : Class := { plain "java/lang/Cloneable" (some 0) with
  accessFlags := 1537
  interfaces := #[]
  cf := some (fileOf pool9 1 #[] #[] 1537 3 #[] #[])
  fields := #[]
  methods := #[]
  instanceTypes := #[]
  staticTypes := #[]
  resolved := Array.replicate 7 none
  statics := none }

def pool10 : Array CpInfo := pool [(1, .class_ 2), (0, u "java/io/Serializable"), (0, .class_ 4), (0, u "java/lang/Object")] 2

/-- java/io/Serializable -/
def k10 : Class := { plain "java/io/Serializable" (some 0) with
  accessFlags := 1537
  interfaces := #[]
  cf := some (fileOf pool10 1 #[] #[] 1537 3 #[] #[])
  fields := #[]
  methods := #[]
  instanceTypes := #[]
  staticTypes := #[]
  resolved := Array.replicate 7 none
  statics := none }

def pool11 : Array CpInfo := pool [(1, .methodref 2 3), (0, .class_ 4), (0, .nameAndType 5 6), (0, u "java/util/AbstractList"), (0, u "<init>"), (0, u "()V"), (0, .class_ 8), (0, u "java/lang/Object"), (0, .fieldref 10 11), (0, .class_ 12), (0, .nameAndType 13 14), (0, u "java/util/ArrayList"), (0, u "elementData"), (0, u "[Ljava/lang/Object;"), (2, u "EMPTY_ELEMENTDATA"), (21, .fieldref 10 40), (0, .nameAndType 41 14), (0, u "DEFAULTCAPACITY_EMPTY_ELEMENTDATA"), (5, u "()[Ljava/lang/Object;"), (0, .fieldref 10 49), (0, .nameAndType 50 51), (0, u "size"), (0, u "I"), (11, .fieldref 10 64), (0, .nameAndType 65 51), (0, u "modCount"), (3, .methodref 10 70), (0, .nameAndType 71 72), (0, u "grow"), (0, u "(I)[Ljava/lang/Object;"), (6, .methodref 80 81), (0, .class_ 82), (0, .nameAndType 83 84), (0, u "java/lang/Math"), (0, u "max"), (0, u "(II)I"), (11, u "(Ljava/lang/Object;)Z"), (21, .methodref 119 120), (0, .class_ 121), (0, .nameAndType 122 84), (0, u "java/util/Objects"), (0, u "checkIndex"), (0, .methodref 10 124), (0, .nameAndType 13 125), (0, u "(I)Ljava/lang/Object;"), (3, .methodref 10 130), (0, .nameAndType 71 47), (0, .methodref 10 132), (0, .nameAndType 133 134), (0, u "add"), (0, u "(Ljava/lang/Object;[Ljava/lang/Object;I)V"), (13, .class_ 149), (0, u "java/util/List"), (23, u "()Z"), (12, u "()I"), (75, .class_ 263), (0, u "java/util/ArrayList$ListItr"), (3, .class_ 268), (0, u "java/util/ArrayList$Itr"), (7, .class_ 277), (0, u "java/util/ArrayList$SubList"), (12, .class_ 291), (0, u "java/util/ArrayList$ArrayListSpliterator"), (37, .class_ 330), (0, u "java/util/RandomAccess"), (0, .class_ 332), (0, u "java/lang/Cloneable"), (0, .class_ 334), (0, u "java/io/Serializable"), (0, u "serialVersionUID"), (0, u "J"), (3, u "DEFAULT_CAPACITY"), (22, u "isEmpty"), (17, u "get"), (118, .class_ 501), (0, u "java/util/ArrayList$SubList$2"), (0, .class_ 503), (0, u "java/util/ArrayList$SubList$1")] 5

def k11c0 : Code := { maxStack := 2, maxLocals := 1, code := jdk_38_method_2_code, exceptionTable := #[], attributes := #[] }
def k11m0 : Method := { name := "<init>", desc := "()V", sig := { parameters := [], returnType := none }, accessFlags := 1, code := some k11c0 }
def k11c1 : Code := { maxStack := 4, maxLocals := 4, code := jdk_38_method_6_code, exceptionTable := #[], attributes := #[] }
def k11m1 : Method := { name := "grow", desc := "(I)[Ljava/lang/Object;", sig := { parameters := [.int], returnType := some (.array (.object "java/lang/Object")) }, accessFlags := 2, code := some k11c1 }
def k11c2 : Code := { maxStack := 3, maxLocals := 1, code := jdk_38_method_7_code, exceptionTable := #[], attributes := #[] }
def k11m2 : Method := { name := "grow", desc := "()[Ljava/lang/Object;", sig := { parameters := [], returnType := some (.array (.object "java/lang/Object")) }, accessFlags := 2, code := some k11c2 }
def k11c3 : Code := { maxStack := 1, maxLocals := 1, code := jdk_38_method_8_code, exceptionTable := #[], attributes := #[] }
def k11m3 : Method := { name := "size", desc := "()I", sig := { parameters := [], returnType := some .int }, accessFlags := 1, code := some k11c3 }
def k11c4 : Code := { maxStack := 1, maxLocals := 1, code := jdk_38_method_9_code, exceptionTable := #[], attributes := #[] }
def k11m4 : Method := { name := "isEmpty", desc := "()Z", sig := { parameters := [], returnType := some .boolean }, accessFlags := 1, code := some k11c4 }
def k11c5 : Code := { maxStack := 2, maxLocals := 2, code := jdk_38_method_18_code, exceptionTable := #[], attributes := #[] }
def k11m5 : Method := { name := "elementData", desc := "(I)Ljava/lang/Object;", sig := { parameters := [.int], returnType := some (.object "java/lang/Object") }, accessFlags := 0, code := some k11c5 }
def k11c6 : Code := { maxStack := 2, maxLocals := 2, code := jdk_38_method_20_code, exceptionTable := #[], attributes := #[] }
def k11m6 : Method := { name := "get", desc := "(I)Ljava/lang/Object;", sig := { parameters := [.int], returnType := some (.object "java/lang/Object") }, accessFlags := 1, code := some k11c6 }
def k11c7 : Code := { maxStack := 3, maxLocals := 4, code := jdk_38_method_24_code, exceptionTable := #[], attributes := #[] }
def k11m7 : Method := { name := "add", desc := "(Ljava/lang/Object;[Ljava/lang/Object;I)V", sig := { parameters := [(.object "java/lang/Object"), (.array (.object "java/lang/Object")), .int], returnType := none }, accessFlags := 2, code := some k11c7 }
def k11c8 : Code := { maxStack := 4, maxLocals := 2, code := jdk_38_method_25_code, exceptionTable := #[], attributes := #[] }
def k11m8 : Method := { name := "add", desc := "(Ljava/lang/Object;)Z", sig := { parameters := [(.object "java/lang/Object")], returnType := some .boolean }, accessFlags := 1, code := some k11c8 }
/-- java/util/ArrayList -/
def k11 : Class := { plain "java/util/ArrayList" (some 7) with
  accessFlags := 33
  interfaces := #[6, 8, 9, 10]
  cf := some (fileOf pool11 10 #[.nestMembers #[290, 276, 500, 502, 262, 267]] #[{ accessFlags := 1, nameIndex := 5, descriptorIndex := 6, attributes := #[] }, { accessFlags := 2, nameIndex := 71, descriptorIndex := 72, attributes := #[] }, { accessFlags := 2, nameIndex := 71, descriptorIndex := 47, attributes := #[] }, { accessFlags := 1, nameIndex := 50, descriptorIndex := 186, attributes := #[] }, { accessFlags := 1, nameIndex := 363, descriptorIndex := 173, attributes := #[] }, { accessFlags := 0, nameIndex := 13, descriptorIndex := 125, attributes := #[] }, { accessFlags := 1, nameIndex := 381, descriptorIndex := 125, attributes := #[] }, { accessFlags := 2, nameIndex := 133, descriptorIndex := 134, attributes := #[] }, { accessFlags := 1, nameIndex := 133, descriptorIndex := 96, attributes := #[] }] 33 2 #[148, 329, 331, 333] #[{ accessFlags := 26, nameIndex := 335, descriptorIndex := 336, attributes := #[] }, { accessFlags := 26, nameIndex := 340, descriptorIndex := 51, attributes := #[] }, { accessFlags := 26, nameIndex := 17, descriptorIndex := 14, attributes := #[] }, { accessFlags := 26, nameIndex := 41, descriptorIndex := 14, attributes := #[] }, { accessFlags := 128, nameIndex := 13, descriptorIndex := 14, attributes := #[] }, { accessFlags := 2, nameIndex := 50, descriptorIndex := 51, attributes := #[] }])
  fields := #[{ name := "serialVersionUID", type := .long, accessFlags := 26, slot := 0, constantValue := 0 }, { name := "DEFAULT_CAPACITY", type := .int, accessFlags := 26, slot := 1, constantValue := 0 }, { name := "EMPTY_ELEMENTDATA", type := (.array (.object "java/lang/Object")), accessFlags := 26, slot := 2, constantValue := 0 }, { name := "DEFAULTCAPACITY_EMPTY_ELEMENTDATA", type := (.array (.object "java/lang/Object")), accessFlags := 26, slot := 3, constantValue := 0 }, { name := "elementData", type := (.array (.object "java/lang/Object")), accessFlags := 128, slot := 1, constantValue := 0 }, { name := "size", type := .int, accessFlags := 2, slot := 2, constantValue := 0 }]
  methods := #[k11m0, k11m1, k11m2, k11m3, k11m4, k11m5, k11m6, k11m7, k11m8]
  instanceTypes := #[.int, (.array (.object "java/lang/Object")), .int]
  staticTypes := #[.long, .int, (.array (.object "java/lang/Object")), (.array (.object "java/lang/Object"))]
  resolved := Array.replicate 509 none
  statics := some 0 }

def pool12 : Array CpInfo := pool [(1, .methodref 2 3), (0, .class_ 4), (0, .nameAndType 5 6), (0, u "java/lang/Object"), (0, u "<init>"), (0, u "()V"), (0, .class_ 8), (0, u "java/lang/Record")] 13

def k12c0 : Code := { maxStack := 1, maxLocals := 1, code := jdk_30_method_1_code, exceptionTable := #[], attributes := #[] }
def k12m0 : Method := { name := "<init>", desc := "()V", sig := { parameters := [], returnType := none }, accessFlags := 4, code := some k12c0 }
/-- java/lang/Record -/
def k12 : Class := { plain "java/lang/Record" (some 0) with
  accessFlags := 1057
  interfaces := #[]
  cf := some (fileOf pool12 7 #[] #[{ accessFlags := 4, nameIndex := 5, descriptorIndex := 6, attributes := #[] }] 1057 2 #[] #[])
  fields := #[]
  methods := #[k12m0]
  instanceTypes := #[]
  staticTypes := #[]
  resolved := Array.replicate 22 none
  statics := none }

def pool13 : Array CpInfo := pool [(1, .methodref 2 3), (0, .class_ 4), (0, .nameAndType 5 6), (0, u "java/lang/Record"), (0, u "<init>"), (0, u "()V"), (0, .fieldref 8 9), (0, .class_ 10), (0, .nameAndType 11 12), (0, u "com/example/plaingrant/plaingrant/store/AuditEntry"), (0, u "sequence"), (0, u "J"), (0, .fieldref 8 14), (0, .nameAndType 15 16), (0, u "time"), (0, u "Ljava/lang/String;"), (0, .fieldref 8 18), (0, .nameAndType 19 16), (0, u "actor"), (0, .fieldref 8 21), (0, .nameAndType 22 16), (0, u "required"), (0, .fieldref 8 24), (0, .nameAndType 25 16), (0, u "change"), (0, .fieldref 8 27), (0, .nameAndType 28 29), (0, u "outcome"), (0, u "Lcom/example/plaingrant/plaingrant/store/AuditEntry$Outcome;"), (0, .fieldref 8 31), (0, .nameAndType 32 16), (0, u "hash"), (7, .class_ 42), (1, u "com/example/plaingrant/plaingrant/store/AuditEntry$Outcome"), (19, u "(JLjava/lang/String;Ljava/lang/String;Ljava/lang/String;Ljava/lang/String;Lcom/example/plaingrant/plaingrant/store/AuditEntry$Outcome;Ljava/lang/String;)V"), (9, u "()J")] 29

def k13c0 : Code := { maxStack := 3, maxLocals := 9, code := prog_40_method_1_code, exceptionTable := #[], attributes := #[] }
def k13m0 : Method := { name := "<init>", desc := "(JLjava/lang/String;Ljava/lang/String;Ljava/lang/String;Ljava/lang/String;Lcom/example/plaingrant/plaingrant/store/AuditEntry$Outcome;Ljava/lang/String;)V", sig := { parameters := [.long, (.object "java/lang/String"), (.object "java/lang/String"), (.object "java/lang/String"), (.object "java/lang/String"), (.object "com/example/plaingrant/plaingrant/store/AuditEntry$Outcome"), (.object "java/lang/String")], returnType := none }, accessFlags := 1, code := some k13c0 }
def k13c1 : Code := { maxStack := 2, maxLocals := 1, code := prog_40_method_6_code, exceptionTable := #[], attributes := #[] }
def k13m1 : Method := { name := "sequence", desc := "()J", sig := { parameters := [], returnType := some .long }, accessFlags := 1, code := some k13c1 }
/-- com/example/plaingrant/plaingrant/store/AuditEntry -/
def k13 : Class := { plain "com/example/plaingrant/plaingrant/store/AuditEntry" (some 12) with
  accessFlags := 49
  interfaces := #[]
  cf := some (fileOf pool13 8 #[.nestMembers #[40]] #[{ accessFlags := 1, nameIndex := 5, descriptorIndex := 62, attributes := #[] }, { accessFlags := 1, nameIndex := 11, descriptorIndex := 72, attributes := #[] }] 49 2 #[] #[{ accessFlags := 18, nameIndex := 11, descriptorIndex := 12, attributes := #[] }, { accessFlags := 18, nameIndex := 15, descriptorIndex := 16, attributes := #[] }, { accessFlags := 18, nameIndex := 19, descriptorIndex := 16, attributes := #[] }, { accessFlags := 18, nameIndex := 22, descriptorIndex := 16, attributes := #[] }, { accessFlags := 18, nameIndex := 25, descriptorIndex := 16, attributes := #[] }, { accessFlags := 18, nameIndex := 28, descriptorIndex := 29, attributes := #[] }, { accessFlags := 18, nameIndex := 32, descriptorIndex := 16, attributes := #[] }])
  fields := #[{ name := "sequence", type := .long, accessFlags := 18, slot := 0, constantValue := 0 }, { name := "time", type := (.object "java/lang/String"), accessFlags := 18, slot := 1, constantValue := 0 }, { name := "actor", type := (.object "java/lang/String"), accessFlags := 18, slot := 2, constantValue := 0 }, { name := "required", type := (.object "java/lang/String"), accessFlags := 18, slot := 3, constantValue := 0 }, { name := "change", type := (.object "java/lang/String"), accessFlags := 18, slot := 4, constantValue := 0 }, { name := "outcome", type := (.object "com/example/plaingrant/plaingrant/store/AuditEntry$Outcome"), accessFlags := 18, slot := 5, constantValue := 0 }, { name := "hash", type := (.object "java/lang/String"), accessFlags := 18, slot := 6, constantValue := 0 }]
  methods := #[k13m0, k13m1]
  instanceTypes := #[.long, (.object "java/lang/String"), (.object "java/lang/String"), (.object "java/lang/String"), (.object "java/lang/String"), (.object "com/example/plaingrant/plaingrant/store/AuditEntry$Outcome"), (.object "java/lang/String")]
  staticTypes := #[]
  resolved := Array.replicate 102 none
  statics := none }

def pool14 : Array CpInfo := pool [(1, .class_ 2), (0, u "java/lang/Math"), (1, .class_ 6), (1, u "java/lang/Object"), (0, u "<init>"), (0, u "()V"), (89, .class_ 100), (1, u "java/lang/Math$RandomNumberGeneratorHolder"), (71, u "negativeZeroFloatBits"), (0, u "J"), (2, u "negativeZeroDoubleBits"), (21, u "max"), (46, u "$assertionsDisabled"), (0, u "Z"), (88, u "(II)I"), (2, u "twoToTheDoubleScaleDown"), (0, u "D"), (4, u "twoToTheDoubleScaleUp"), (9, u "E"), (3, u "PI"), (2, u "TAU"), (2, u "DEGREES_TO_RADIANS"), (0, u "RADIANS_TO_DEGREES")] 94

def k14m0 : Method := { name := "<init>", desc := "()V", sig := { parameters := [], returnType := none }, accessFlags := 2, code := none }
def k14c1 : Code := { maxStack := 2, maxLocals := 2, code := jdk_29_method_65_code, exceptionTable := #[], attributes := #[] }
def k14m1 : Method := { name := "max", desc := "(II)I", sig := { parameters := [.int, .int], returnType := some .int }, accessFlags := 9, code := some k14c1 }
/-- java/lang/Math -/
def k14 : Class := { plain "java/lang/Math" (some 0) with
  accessFlags := 49
  interfaces := #[]
  cf := some (fileOf pool14 1 #[.nestMembers #[98]] #[{ accessFlags := 2, nameIndex := 7, descriptorIndex := 8, attributes := #[] }, { accessFlags := 9, nameIndex := 198, descriptorIndex := 335, attributes := #[] }] 49 4 #[] #[{ accessFlags := 25, nameIndex := 354, descriptorIndex := 339, attributes := #[] }, { accessFlags := 25, nameIndex := 358, descriptorIndex := 339, attributes := #[] }, { accessFlags := 25, nameIndex := 361, descriptorIndex := 339, attributes := #[] }, { accessFlags := 26, nameIndex := 364, descriptorIndex := 339, attributes := #[] }, { accessFlags := 26, nameIndex := 365, descriptorIndex := 339, attributes := #[] }, { accessFlags := 26, nameIndex := 172, descriptorIndex := 173, attributes := #[] }, { accessFlags := 26, nameIndex := 176, descriptorIndex := 173, attributes := #[] }, { accessFlags := 8, nameIndex := 344, descriptorIndex := 339, attributes := #[] }, { accessFlags := 8, nameIndex := 338, descriptorIndex := 339, attributes := #[] }, { accessFlags := 4120, nameIndex := 245, descriptorIndex := 246, attributes := #[] }])
  fields := #[{ name := "E", type := .double, accessFlags := 25, slot := 0, constantValue := 0 }, { name := "PI", type := .double, accessFlags := 25, slot := 1, constantValue := 0 }, { name := "TAU", type := .double, accessFlags := 25, slot := 2, constantValue := 0 }, { name := "DEGREES_TO_RADIANS", type := .double, accessFlags := 26, slot := 3, constantValue := 0 }, { name := "RADIANS_TO_DEGREES", type := .double, accessFlags := 26, slot := 4, constantValue := 0 }, { name := "negativeZeroFloatBits", type := .long, accessFlags := 26, slot := 5, constantValue := 0 }, { name := "negativeZeroDoubleBits", type := .long, accessFlags := 26, slot := 6, constantValue := 0 }, { name := "twoToTheDoubleScaleUp", type := .double, accessFlags := 8, slot := 7, constantValue := 0 }, { name := "twoToTheDoubleScaleDown", type := .double, accessFlags := 8, slot := 8, constantValue := 0 }, { name := "$assertionsDisabled", type := .boolean, accessFlags := 4120, slot := 9, constantValue := 0 }]
  methods := #[k14m0, k14m1]
  instanceTypes := #[]
  staticTypes := #[.double, .double, .double, .double, .double, .long, .long, .double, .double, .boolean]
  resolved := Array.replicate 460 none
  statics := none }

def pool15 : Array CpInfo := pool [(1, .methodref 2 3), (0, .class_ 4), (0, .nameAndType 5 6), (0, u "java/lang/Object"), (0, u "<init>"), (0, u "()V"), (0, .fieldref 8 9), (0, .class_ 10), (0, .nameAndType 11 12), (0, u "com/example/plaingrant/plaingrant/store/AuditPages"), (0, u "mLast"), (0, u "J"), (0, .fieldref 8 14), (0, .nameAndType 15 12), (0, u "mGiven"), (0, .interfaceMethodref 17 18), (0, .class_ 19), (0, .nameAndType 20 21), (0, u "java/util/List"), (0, u "isEmpty"), (0, u "()Z"), (0, .interfaceMethodref 17 23), (0, .nameAndType 24 25), (0, u "size"), (0, u "()I"), (0, .interfaceMethodref 17 27), (0, .nameAndType 28 29), (0, u "get"), (0, u "(I)Ljava/lang/Object;"), (0, .class_ 31), (0, u "com/example/plaingrant/plaingrant/store/AuditEntry"), (0, .methodref 30 33), (0, .nameAndType 34 35), (0, u "sequence"), (0, u "()J"), (0, u "PAGE"), (0, u "I"), (2, u "(J)V"), (2, u "isDone"), (3, u "gave"), (0, u "(Ljava/util/List;)V")] 4

def k15c0 : Code := { maxStack := 3, maxLocals := 3, code := prog_42_method_1_code, exceptionTable := #[], attributes := #[] }
def k15m0 : Method := { name := "<init>", desc := "(J)V", sig := { parameters := [.long], returnType := none }, accessFlags := 0, code := some k15c0 }
def k15c1 : Code := { maxStack := 4, maxLocals := 1, code := prog_42_method_2_code, exceptionTable := #[], attributes := #[] }
def k15m1 : Method := { name := "isDone", desc := "()Z", sig := { parameters := [], returnType := some .boolean }, accessFlags := 0, code := some k15c1 }
def k15c2 : Code := { maxStack := 4, maxLocals := 2, code := prog_42_method_5_code, exceptionTable := #[], attributes := #[] }
def k15m2 : Method := { name := "gave", desc := "(Ljava/util/List;)V", sig := { parameters := [(.object "java/util/List")], returnType := none }, accessFlags := 0, code := some k15c2 }
/-- com/example/plaingrant/plaingrant/store/AuditPages -/
def k15 : Class := { plain "com/example/plaingrant/plaingrant/store/AuditPages" (some 0) with
  accessFlags := 49
  interfaces := #[]
  cf := some (fileOf pool15 8 #[] #[{ accessFlags := 0, nameIndex := 5, descriptorIndex := 40, attributes := #[] }, { accessFlags := 0, nameIndex := 43, descriptorIndex := 21, attributes := #[] }, { accessFlags := 0, nameIndex := 47, descriptorIndex := 48, attributes := #[] }] 49 2 #[] #[{ accessFlags := 25, nameIndex := 36, descriptorIndex := 37, attributes := #[] }, { accessFlags := 18, nameIndex := 11, descriptorIndex := 12, attributes := #[] }, { accessFlags := 2, nameIndex := 15, descriptorIndex := 12, attributes := #[] }])
  fields := #[{ name := "PAGE", type := .int, accessFlags := 25, slot := 0, constantValue := 0 }, { name := "mLast", type := .long, accessFlags := 18, slot := 0, constantValue := 0 }, { name := "mGiven", type := .long, accessFlags := 2, slot := 1, constantValue := 0 }]
  methods := #[k15m0, k15m1, k15m2]
  instanceTypes := #[.long, .long]
  staticTypes := #[.int]
  resolved := Array.replicate 53 none
  statics := none }

def pool16 : Array CpInfo := pool [(2, .class_ 4), (1, u "java/lang/Object"), (0, u "<init>"), (0, u "()V"), (35, .class_ 44), (1, u "java/util/Objects"), (60, .methodref 106 107), (0, .class_ 108), (0, .nameAndType 109 110), (0, u "jdk/internal/util/Preconditions"), (0, u "checkIndex"), (0, u "(IILjava/util/function/BiFunction;)I"), (60, u "(II)I")] 12

def k16m0 : Method := { name := "<init>", desc := "()V", sig := { parameters := [], returnType := none }, accessFlags := 2, code := none }
def k16c1 : Code := { maxStack := 3, maxLocals := 2, code := jdk_31_method_17_code, exceptionTable := #[], attributes := #[] }
def k16m1 : Method := { name := "checkIndex", desc := "(II)I", sig := { parameters := [.int, .int], returnType := some .int }, accessFlags := 9, code := some k16c1 }
/-- java/util/Objects -/
def k16 : Class := { plain "java/util/Objects" (some 0) with
  accessFlags := 49
  interfaces := #[]
  cf := some (fileOf pool16 42 #[] #[{ accessFlags := 2, nameIndex := 5, descriptorIndex := 6, attributes := #[] }, { accessFlags := 9, nameIndex := 109, descriptorIndex := 171, attributes := #[] }] 49 2 #[] #[])
  fields := #[]
  methods := #[k16m0, k16m1]
  instanceTypes := #[]
  staticTypes := #[]
  resolved := Array.replicate 184 none
  statics := none }

def pool17 : Array CpInfo := pool [(2, .class_ 4), (1, u "java/lang/Object"), (0, u "<init>"), (0, u "()V"), (17, .class_ 26), (1, u "jdk/internal/util/Preconditions"), (6, u "checkIndex"), (21, .class_ 56), (0, u "jdk/internal/util/Preconditions$4"), (57, .class_ 115), (0, u "jdk/internal/util/Preconditions$1"), (7, u "SIOOBE_FORMATTER"), (0, u "Ljava/util/function/BiFunction;"), (0, .class_ 126), (0, u "jdk/internal/util/Preconditions$2"), (3, u "AIOOBE_FORMATTER"), (0, .class_ 132), (0, u "jdk/internal/util/Preconditions$3"), (3, u "IOOBE_FORMATTER"), (41, u "(IILjava/util/function/BiFunction;)I")] 15

def k17m0 : Method := { name := "<init>", desc := "()V", sig := { parameters := [], returnType := none }, accessFlags := 1, code := none }
def k17c1 : Code := { maxStack := 3, maxLocals := 3, code := jdk_41_method_11_code, exceptionTable := #[], attributes := #[] }
def k17m1 : Method := { name := "checkIndex", desc := "(IILjava/util/function/BiFunction;)I", sig := { parameters := [.int, .int, (.object "java/util/function/BiFunction")], returnType := some .int }, accessFlags := 9, code := some k17c1 }
/-- jdk/internal/util/Preconditions -/
def k17 : Class := { plain "jdk/internal/util/Preconditions" (some 0) with
  accessFlags := 33
  interfaces := #[]
  cf := some (fileOf pool17 24 #[.nestMembers #[55, 131, 125, 114]] #[{ accessFlags := 1, nameIndex := 5, descriptorIndex := 6, attributes := #[] }, { accessFlags := 9, nameIndex := 33, descriptorIndex := 178, attributes := #[] }] 33 2 #[] #[{ accessFlags := 25, nameIndex := 123, descriptorIndex := 124, attributes := #[] }, { accessFlags := 25, nameIndex := 130, descriptorIndex := 124, attributes := #[] }, { accessFlags := 25, nameIndex := 136, descriptorIndex := 124, attributes := #[] }])
  fields := #[{ name := "SIOOBE_FORMATTER", type := (.object "java/util/function/BiFunction"), accessFlags := 25, slot := 0, constantValue := 0 }, { name := "AIOOBE_FORMATTER", type := (.object "java/util/function/BiFunction"), accessFlags := 25, slot := 1, constantValue := 0 }, { name := "IOOBE_FORMATTER", type := (.object "java/util/function/BiFunction"), accessFlags := 25, slot := 2, constantValue := 0 }]
  methods := #[k17m0, k17m1]
  instanceTypes := #[]
  staticTypes := #[(.object "java/util/function/BiFunction"), (.object "java/util/function/BiFunction"), (.object "java/util/function/BiFunction")]
  resolved := Array.replicate 194 none
  statics := none }

/-- the primitive byte -/
def k18 : Class := { plain "byte" none with kind := .primitive 'B', accessFlags := 0x411 }
/-- [B -/
def k19 : Class := { plain "[B" (some 0) with kind := .array 18 .byte, interfaces := #[9, 10], accessFlags := 1041 }

/-- the primitive int -/
def k20 : Class := { plain "int" none with kind := .primitive 'I', accessFlags := 0x411 }
/-- [I -/
def k21 : Class := { plain "[I" (some 0) with kind := .array 20 .int, interfaces := #[9, 10], accessFlags := 1041 }

/-- [Ljava/lang/Object; -/
def k22 : Class := { plain "[Ljava/lang/Object;" (some 0) with kind := .array 0 (.object "java/lang/Object"), interfaces := #[9, 10], accessFlags := 1041 }

def heap : Heap := #[{ cls := 11, slots := #[.long 0, .int 0, .ref 1, .ref 2], vm := .statics 11 },
  { cls := 22, slots := #[], vm := .none },
  { cls := 22, slots := #[], vm := .none }]
def classes : Array Class := #[k0, k1, k2, k3, k4, k5, k6, k7, k8, k9, k10, k11, k12, k13, k14, k15, k16, k17, k18, k19, k20, k21, k22]
def interned : List (Array UInt16 × Addr) := []
def slotsUsed : Nat := 4
def theMethod : MethodId := ⟨1, 1⟩
def args0 : Array Value := #[.long 5, .long 6, .long 7, .int 8]
def aboutOver (below : List Frame) : State where
  vm := { classes := classes, interned := interned.toArray }
  heap := heap
  slotsUsed := slotsUsed
  threads := #[{ frames := .invoking theMethod args0 :: below }]
def below0 : List Frame := [.native { method := ⟨0, 0⟩, args := #[] }]
def about1 : State := aboutOver below0
def p0 : Program := .bare "" "" ""
def e0 : Env := launch0.env 0 0 0
theorem w_frames : about1.frames = Frame.invoking theMethod args0 :: below0 := rfl
set_option maxRecDepth 65536 in
theorem w_args : argsFit about1.vm theMethod args0 = true := by decide +kernel
set_option maxRecDepth 65536 in
theorem w_heap : heapFits about1 = true := by decide +kernel
set_option maxRecDepth 65536 in
theorem w_runnable : about1.curStatus? = some .runnable := by decide +kernel
set_option maxRecDepth 65536 in
theorem w_alone : about1.alone = true := by decide +kernel
set_option maxRecDepth 65536 in
theorem w_named : about1.methodNamed? x = some theMethod := by decide +kernel
set_option maxRecDepth 65536 in
theorem w_hears : about1.hears theMethod below0 = true := by decide +kernel
set_option maxRecDepth 65536 in
theorem w_ripe : about1.ripe theMethod args0 below0 = true := by decide +kernel
theorem w_running : about1.status = .running := rfl
set_option maxRecDepth 65536 in
theorem w_room : about1.hasRoom e0.platform room_1 = true :=
  launch0.hasRoom_least _ room_1 (by decide +kernel) (by decide +kernel) (by decide +kernel) (by decide +kernel) (by decide +kernel) (by decide +kernel)
theorem allAtoms_all (ts : List Jvm.Cond) (a : Array Jvm.Value) (st : Jvm.State) : (allAtoms ts).before a st = ts.all (fun c => c.before a st) := by
  induction ts with
  | nil => rfl
  | cons c t ih =>
    show (Jvm.Cond.and c (allAtoms t)).before a st = _
    rw [Jvm.Cond.before_and, ih, List.all_cons]
def words1 : List Jvm.Cond := Jvm.Cond.code x code maxLocals ret :: tables_1
/-- a 'code' word, met by the world's own term for the bytes: nothing is compared byte by byte -/
theorem code_word {y : MethodName} {bytes : ByteArray} {mx : Nat} {rt : Option FieldType} {a : Array Value} {s : State} {m : MethodId} {meth : Method} {c : Code} (h1 : s.methodNamed? y = some m) (h2 : s.vm.method? m = some meth) (h3 : meth.code = some c) (h4 : c.code = bytes)
    (h5 : (c.maxLocals == mx && c.exceptionTable.isEmpty && decide (c.maxStack ≤ mostOperands) && decide (meth.sig.returnType = rt) && !meth.locks && decide (parseMethodDescriptor y.desc = some meth.sig)) = true) : (Jvm.Cond.code y bytes mx rt).before a s = true := by
  simp only [Bool.and_eq_true, beq_iff_eq, Bool.not_eq_true', decide_eq_true_eq] at h5
  obtain ⟨⟨⟨⟨⟨g1, g2⟩, g3⟩, g4⟩, g5⟩, g6⟩ := h5
  simp [Cond.before, Cond.holds, Cond.value, h1, h2, h3, h4, g1, g2, g3, g4, g5, g6]
def isCode : Jvm.Cond → Bool
  | .code _ _ _ _ => true
  | _ => false
theorem all_split {L : List Jvm.Cond} {P : Jvm.Cond → Bool} (h1 : L.all (fun c => isCode c || P c) = true) (h2 : ∀ c ∈ L.filter isCode, P c = true) : L.all P = true := by
  refine List.all_eq_true.mpr fun c hc => ?_
  have h := List.all_eq_true.mp h1 c hc
  rcases Bool.eq_false_or_eq_true (isCode c) with hi | hi
  · exact h2 c (List.mem_filter.mpr ⟨hc, hi⟩)
  · simpa [hi] using h
set_option maxRecDepth 65536 in
theorem w_c0 : (Jvm.Cond.code x code maxLocals ret).before args0 about1 = true := code_word (m := ⟨1, 1⟩) (meth := k1m1) (c := k1c1) (by decide +kernel) rfl rfl rfl (by decide +kernel)
set_option maxRecDepth 65536 in
theorem w_c1 : (Jvm.Cond.code ({ cls := "java/util/ArrayList", name := "<init>", desc := "()V" } : Jvm.MethodName) jdk_38_method_2_code (1 : Nat) (Option.none : Option Jvm.ClassFile.FieldType)).before args0 about1 = true := code_word (m := ⟨11, 0⟩) (meth := k11m0) (c := k11c0) (by decide +kernel) rfl rfl rfl (by decide +kernel)
set_option maxRecDepth 65536 in
theorem w_c2 : (Jvm.Cond.code ({ cls := "java/util/AbstractList", name := "<init>", desc := "()V" } : Jvm.MethodName) jdk_39_method_1_code (1 : Nat) (Option.none : Option Jvm.ClassFile.FieldType)).before args0 about1 = true := code_word (m := ⟨7, 0⟩) (meth := k7m0) (c := k7c0) (by decide +kernel) rfl rfl rfl (by decide +kernel)
set_option maxRecDepth 65536 in
theorem w_c3 : (Jvm.Cond.code ({ cls := "java/util/AbstractCollection", name := "<init>", desc := "()V" } : Jvm.MethodName) jdk_22_method_1_code (1 : Nat) (Option.none : Option Jvm.ClassFile.FieldType)).before args0 about1 = true := code_word (m := ⟨4, 0⟩) (meth := k4m0) (c := k4c0) (by decide +kernel) rfl rfl rfl (by decide +kernel)
set_option maxRecDepth 65536 in
theorem w_c4 : (Jvm.Cond.code ({ cls := "java/lang/Object", name := "<init>", desc := "()V" } : Jvm.MethodName) object_method_1_code (1 : Nat) (Option.none : Option Jvm.ClassFile.FieldType)).before args0 about1 = true := code_word (m := ⟨0, 0⟩) (meth := k0m0) (c := k0c0) (by decide +kernel) rfl rfl rfl (by decide +kernel)
set_option maxRecDepth 65536 in
theorem w_c5 : (Jvm.Cond.code ({ cls := "com/example/plaingrant/plaingrant/store/AuditEntry", name := "<init>", desc := "(JLjava/lang/String;Ljava/lang/String;Ljava/lang/String;Ljava/lang/String;Lcom/example/plaingrant/plaingrant/store/AuditEntry$Outcome;Ljava/lang/String;)V" } : Jvm.MethodName) prog_40_method_1_code (9 : Nat) (Option.none : Option Jvm.ClassFile.FieldType)).before args0 about1 = true := code_word (m := ⟨13, 0⟩) (meth := k13m0) (c := k13c0) (by decide +kernel) rfl rfl rfl (by decide +kernel)
set_option maxRecDepth 65536 in
theorem w_c6 : (Jvm.Cond.code ({ cls := "java/lang/Record", name := "<init>", desc := "()V" } : Jvm.MethodName) jdk_30_method_1_code (1 : Nat) (Option.none : Option Jvm.ClassFile.FieldType)).before args0 about1 = true := code_word (m := ⟨12, 0⟩) (meth := k12m0) (c := k12c0) (by decide +kernel) rfl rfl rfl (by decide +kernel)
set_option maxRecDepth 65536 in
theorem w_c7 : (Jvm.Cond.code ({ cls := "java/util/ArrayList", name := "add", desc := "(Ljava/lang/Object;)Z" } : Jvm.MethodName) jdk_38_method_25_code (2 : Nat) (Option.some Jvm.ClassFile.FieldType.boolean)).before args0 about1 = true := code_word (m := ⟨11, 8⟩) (meth := k11m8) (c := k11c8) (by decide +kernel) rfl rfl rfl (by decide +kernel)
set_option maxRecDepth 65536 in
theorem w_c8 : (Jvm.Cond.code ({ cls := "java/util/ArrayList", name := "add", desc := "(Ljava/lang/Object;[Ljava/lang/Object;I)V" } : Jvm.MethodName) jdk_38_method_24_code (4 : Nat) (Option.none : Option Jvm.ClassFile.FieldType)).before args0 about1 = true := code_word (m := ⟨11, 7⟩) (meth := k11m7) (c := k11c7) (by decide +kernel) rfl rfl rfl (by decide +kernel)
set_option maxRecDepth 65536 in
theorem w_c9 : (Jvm.Cond.code ({ cls := "java/util/ArrayList", name := "grow", desc := "()[Ljava/lang/Object;" } : Jvm.MethodName) jdk_38_method_7_code (1 : Nat) (Option.some (Jvm.ClassFile.FieldType.array (Jvm.ClassFile.FieldType.object "java/lang/Object")))).before args0 about1 = true := code_word (m := ⟨11, 2⟩) (meth := k11m2) (c := k11c2) (by decide +kernel) rfl rfl rfl (by decide +kernel)
set_option maxRecDepth 65536 in
theorem w_c10 : (Jvm.Cond.code ({ cls := "java/util/ArrayList", name := "grow", desc := "(I)[Ljava/lang/Object;" } : Jvm.MethodName) jdk_38_method_6_code (4 : Nat) (Option.some (Jvm.ClassFile.FieldType.array (Jvm.ClassFile.FieldType.object "java/lang/Object")))).before args0 about1 = true := code_word (m := ⟨11, 1⟩) (meth := k11m1) (c := k11c1) (by decide +kernel) rfl rfl rfl (by decide +kernel)
set_option maxRecDepth 65536 in
theorem w_c11 : (Jvm.Cond.code ({ cls := "java/lang/Math", name := "max", desc := "(II)I" } : Jvm.MethodName) jdk_29_method_65_code (2 : Nat) (Option.some Jvm.ClassFile.FieldType.int)).before args0 about1 = true := code_word (m := ⟨14, 1⟩) (meth := k14m1) (c := k14c1) (by decide +kernel) rfl rfl rfl (by decide +kernel)
set_option maxRecDepth 65536 in
theorem w_c12 : (Jvm.Cond.code ({ cls := "com/example/plaingrant/plaingrant/store/AuditPages", name := "<init>", desc := "(J)V" } : Jvm.MethodName) prog_42_method_1_code (3 : Nat) (Option.none : Option Jvm.ClassFile.FieldType)).before args0 about1 = true := code_word (m := ⟨15, 0⟩) (meth := k15m0) (c := k15c0) (by decide +kernel) rfl rfl rfl (by decide +kernel)
set_option maxRecDepth 65536 in
theorem w_c13 : (Jvm.Cond.code ({ cls := "com/example/plaingrant/plaingrant/store/AuditPages", name := "isDone", desc := "()Z" } : Jvm.MethodName) prog_42_method_2_code (1 : Nat) (Option.some Jvm.ClassFile.FieldType.boolean)).before args0 about1 = true := code_word (m := ⟨15, 1⟩) (meth := k15m1) (c := k15c1) (by decide +kernel) rfl rfl rfl (by decide +kernel)
set_option maxRecDepth 65536 in
theorem w_c14 : (Jvm.Cond.code ({ cls := "com/example/plaingrant/plaingrant/store/AuditPages", name := "gave", desc := "(Ljava/util/List;)V" } : Jvm.MethodName) prog_42_method_5_code (2 : Nat) (Option.none : Option Jvm.ClassFile.FieldType)).before args0 about1 = true := code_word (m := ⟨15, 2⟩) (meth := k15m2) (c := k15c2) (by decide +kernel) rfl rfl rfl (by decide +kernel)
set_option maxRecDepth 65536 in
theorem w_c15 : (Jvm.Cond.code ({ cls := "java/util/ArrayList", name := "isEmpty", desc := "()Z" } : Jvm.MethodName) jdk_38_method_9_code (1 : Nat) (Option.some Jvm.ClassFile.FieldType.boolean)).before args0 about1 = true := code_word (m := ⟨11, 4⟩) (meth := k11m4) (c := k11c4) (by decide +kernel) rfl rfl rfl (by decide +kernel)
set_option maxRecDepth 65536 in
theorem w_c16 : (Jvm.Cond.code ({ cls := "java/util/ArrayList", name := "size", desc := "()I" } : Jvm.MethodName) jdk_38_method_8_code (1 : Nat) (Option.some Jvm.ClassFile.FieldType.int)).before args0 about1 = true := code_word (m := ⟨11, 3⟩) (meth := k11m3) (c := k11c3) (by decide +kernel) rfl rfl rfl (by decide +kernel)
set_option maxRecDepth 65536 in
theorem w_c17 : (Jvm.Cond.code ({ cls := "java/util/ArrayList", name := "get", desc := "(I)Ljava/lang/Object;" } : Jvm.MethodName) jdk_38_method_20_code (2 : Nat) (Option.some (Jvm.ClassFile.FieldType.object "java/lang/Object"))).before args0 about1 = true := code_word (m := ⟨11, 6⟩) (meth := k11m6) (c := k11c6) (by decide +kernel) rfl rfl rfl (by decide +kernel)
set_option maxRecDepth 65536 in
theorem w_c18 : (Jvm.Cond.code ({ cls := "java/util/Objects", name := "checkIndex", desc := "(II)I" } : Jvm.MethodName) jdk_31_method_17_code (2 : Nat) (Option.some Jvm.ClassFile.FieldType.int)).before args0 about1 = true := code_word (m := ⟨16, 1⟩) (meth := k16m1) (c := k16c1) (by decide +kernel) rfl rfl rfl (by decide +kernel)
set_option maxRecDepth 65536 in
theorem w_c19 : (Jvm.Cond.code ({ cls := "jdk/internal/util/Preconditions", name := "checkIndex", desc := "(IILjava/util/function/BiFunction;)I" } : Jvm.MethodName) jdk_41_method_11_code (3 : Nat) (Option.some Jvm.ClassFile.FieldType.int)).before args0 about1 = true := code_word (m := ⟨17, 1⟩) (meth := k17m1) (c := k17c1) (by decide +kernel) rfl rfl rfl (by decide +kernel)
set_option maxRecDepth 65536 in
theorem w_c20 : (Jvm.Cond.code ({ cls := "java/util/ArrayList", name := "elementData", desc := "(I)Ljava/lang/Object;" } : Jvm.MethodName) jdk_38_method_18_code (2 : Nat) (Option.some (Jvm.ClassFile.FieldType.object "java/lang/Object"))).before args0 about1 = true := code_word (m := ⟨11, 5⟩) (meth := k11m5) (c := k11c5) (by decide +kernel) rfl rfl rfl (by decide +kernel)
set_option maxRecDepth 65536 in
theorem w_c21 : (Jvm.Cond.code ({ cls := "com/example/plaingrant/plaingrant/store/AuditEntry", name := "sequence", desc := "()J" } : Jvm.MethodName) prog_40_method_6_code (1 : Nat) (Option.some Jvm.ClassFile.FieldType.long)).before args0 about1 = true := code_word (m := ⟨13, 1⟩) (meth := k13m1) (c := k13c1) (by decide +kernel) rfl rfl rfl (by decide +kernel)
def codes1 : List Jvm.Cond := [Jvm.Cond.code x code maxLocals ret, Jvm.Cond.code ({ cls := "java/util/ArrayList", name := "<init>", desc := "()V" } : Jvm.MethodName) jdk_38_method_2_code (1 : Nat) (Option.none : Option Jvm.ClassFile.FieldType), Jvm.Cond.code ({ cls := "java/util/AbstractList", name := "<init>", desc := "()V" } : Jvm.MethodName) jdk_39_method_1_code (1 : Nat) (Option.none : Option Jvm.ClassFile.FieldType), Jvm.Cond.code ({ cls := "java/util/AbstractCollection", name := "<init>", desc := "()V" } : Jvm.MethodName) jdk_22_method_1_code (1 : Nat) (Option.none : Option Jvm.ClassFile.FieldType), Jvm.Cond.code ({ cls := "java/lang/Object", name := "<init>", desc := "()V" } : Jvm.MethodName) object_method_1_code (1 : Nat) (Option.none : Option Jvm.ClassFile.FieldType), Jvm.Cond.code ({ cls := "com/example/plaingrant/plaingrant/store/AuditEntry", name := "<init>", desc := "(JLjava/lang/String;Ljava/lang/String;Ljava/lang/String;Ljava/lang/String;Lcom/example/plaingrant/plaingrant/store/AuditEntry$Outcome;Ljava/lang/String;)V" } : Jvm.MethodName) prog_40_method_1_code (9 : Nat) (Option.none : Option Jvm.ClassFile.FieldType), Jvm.Cond.code ({ cls := "java/lang/Record", name := "<init>", desc := "()V" } : Jvm.MethodName) jdk_30_method_1_code (1 : Nat) (Option.none : Option Jvm.ClassFile.FieldType), Jvm.Cond.code ({ cls := "java/util/ArrayList", name := "add", desc := "(Ljava/lang/Object;)Z" } : Jvm.MethodName) jdk_38_method_25_code (2 : Nat) (Option.some Jvm.ClassFile.FieldType.boolean), Jvm.Cond.code ({ cls := "java/util/ArrayList", name := "add", desc := "(Ljava/lang/Object;[Ljava/lang/Object;I)V" } : Jvm.MethodName) jdk_38_method_24_code (4 : Nat) (Option.none : Option Jvm.ClassFile.FieldType), Jvm.Cond.code ({ cls := "java/util/ArrayList", name := "grow", desc := "()[Ljava/lang/Object;" } : Jvm.MethodName) jdk_38_method_7_code (1 : Nat) (Option.some (Jvm.ClassFile.FieldType.array (Jvm.ClassFile.FieldType.object "java/lang/Object"))), Jvm.Cond.code ({ cls := "java/util/ArrayList", name := "grow", desc := "(I)[Ljava/lang/Object;" } : Jvm.MethodName) jdk_38_method_6_code (4 : Nat) (Option.some (Jvm.ClassFile.FieldType.array (Jvm.ClassFile.FieldType.object "java/lang/Object"))), Jvm.Cond.code ({ cls := "java/lang/Math", name := "max", desc := "(II)I" } : Jvm.MethodName) jdk_29_method_65_code (2 : Nat) (Option.some Jvm.ClassFile.FieldType.int), Jvm.Cond.code ({ cls := "com/example/plaingrant/plaingrant/store/AuditPages", name := "<init>", desc := "(J)V" } : Jvm.MethodName) prog_42_method_1_code (3 : Nat) (Option.none : Option Jvm.ClassFile.FieldType), Jvm.Cond.code ({ cls := "com/example/plaingrant/plaingrant/store/AuditPages", name := "isDone", desc := "()Z" } : Jvm.MethodName) prog_42_method_2_code (1 : Nat) (Option.some Jvm.ClassFile.FieldType.boolean), Jvm.Cond.code ({ cls := "com/example/plaingrant/plaingrant/store/AuditPages", name := "gave", desc := "(Ljava/util/List;)V" } : Jvm.MethodName) prog_42_method_5_code (2 : Nat) (Option.none : Option Jvm.ClassFile.FieldType), Jvm.Cond.code ({ cls := "java/util/ArrayList", name := "isEmpty", desc := "()Z" } : Jvm.MethodName) jdk_38_method_9_code (1 : Nat) (Option.some Jvm.ClassFile.FieldType.boolean), Jvm.Cond.code ({ cls := "java/util/ArrayList", name := "size", desc := "()I" } : Jvm.MethodName) jdk_38_method_8_code (1 : Nat) (Option.some Jvm.ClassFile.FieldType.int), Jvm.Cond.code ({ cls := "java/util/ArrayList", name := "get", desc := "(I)Ljava/lang/Object;" } : Jvm.MethodName) jdk_38_method_20_code (2 : Nat) (Option.some (Jvm.ClassFile.FieldType.object "java/lang/Object")), Jvm.Cond.code ({ cls := "java/util/Objects", name := "checkIndex", desc := "(II)I" } : Jvm.MethodName) jdk_31_method_17_code (2 : Nat) (Option.some Jvm.ClassFile.FieldType.int), Jvm.Cond.code ({ cls := "jdk/internal/util/Preconditions", name := "checkIndex", desc := "(IILjava/util/function/BiFunction;)I" } : Jvm.MethodName) jdk_41_method_11_code (3 : Nat) (Option.some Jvm.ClassFile.FieldType.int), Jvm.Cond.code ({ cls := "java/util/ArrayList", name := "elementData", desc := "(I)Ljava/lang/Object;" } : Jvm.MethodName) jdk_38_method_18_code (2 : Nat) (Option.some (Jvm.ClassFile.FieldType.object "java/lang/Object")), Jvm.Cond.code ({ cls := "com/example/plaingrant/plaingrant/store/AuditEntry", name := "sequence", desc := "()J" } : Jvm.MethodName) prog_40_method_6_code (1 : Nat) (Option.some Jvm.ClassFile.FieldType.long)]
set_option maxRecDepth 65536 in
theorem codes_eq : words1.filter isCode = codes1 := rfl
theorem w_codes : ∀ c ∈ words1.filter isCode, c.before args0 about1 = true := by
  rw [codes_eq]
  intro c hc
  simp only [codes1, List.mem_cons, List.not_mem_nil, or_false] at hc
  rcases hc with rfl | rfl | rfl | rfl | rfl | rfl | rfl | rfl | rfl | rfl | rfl | rfl | rfl | rfl | rfl | rfl | rfl | rfl | rfl | rfl | rfl | rfl
  · exact w_c0
  · exact w_c1
  · exact w_c2
  · exact w_c3
  · exact w_c4
  · exact w_c5
  · exact w_c6
  · exact w_c7
  · exact w_c8
  · exact w_c9
  · exact w_c10
  · exact w_c11
  · exact w_c12
  · exact w_c13
  · exact w_c14
  · exact w_c15
  · exact w_c16
  · exact w_c17
  · exact w_c18
  · exact w_c19
  · exact w_c20
  · exact w_c21
set_option maxRecDepth 65536 in
theorem w_t1 : (words1.take 24).all (fun c => isCode c || c.before args0 about1) = true := by decide +kernel
set_option maxRecDepth 65536 in
theorem w_t2 : ((words1.drop 24).take 24).all (fun c => isCode c || c.before args0 about1) = true := by decide +kernel
set_option maxRecDepth 65536 in
theorem w_t3 : (((words1.drop 24).drop 24).take 24).all (fun c => isCode c || c.before args0 about1) = true := by decide +kernel
set_option maxRecDepth 65536 in
theorem w_t4 : ((((words1.drop 24).drop 24).drop 24).take 24).all (fun c => isCode c || c.before args0 about1) = true := by decide +kernel
set_option maxRecDepth 65536 in
theorem w_t5 : (((((words1.drop 24).drop 24).drop 24).drop 24).take 24).all (fun c => isCode c || c.before args0 about1) = true := by decide +kernel
set_option maxRecDepth 65536 in
theorem w_t6 : ((((((words1.drop 24).drop 24).drop 24).drop 24).drop 24).take 24).all (fun c => isCode c || c.before args0 about1) = true := by decide +kernel
set_option maxRecDepth 65536 in
theorem w_t7 : ((((((words1.drop 24).drop 24).drop 24).drop 24).drop 24).drop 24).all (fun c => isCode c || c.before args0 about1) = true := by decide +kernel
theorem w_tables : (allAtoms (Jvm.Cond.code x code maxLocals ret :: tables_1)).before args0 about1 = true := by
  rw [allAtoms_all]
  show words1.all (fun c => c.before args0 about1) = true
  refine all_split ?_ w_codes
  rw [← List.take_append_drop 24 words1, List.all_append, w_t1, ← List.take_append_drop 24 (words1.drop 24), List.all_append, w_t2, ← List.take_append_drop 24 ((words1.drop 24).drop 24), List.all_append, w_t3, ← List.take_append_drop 24 (((words1.drop 24).drop 24).drop 24), List.all_append, w_t4, ← List.take_append_drop 24 ((((words1.drop 24).drop 24).drop 24).drop 24), List.all_append, w_t5, ← List.take_append_drop 24 (((((words1.drop 24).drop 24).drop 24).drop 24).drop 24), List.all_append, w_t6, w_t7]
  rfl
set_option maxRecDepth 65536 in
theorem w_rest : rest_1_c.before args0 about1 = true := by decide +kernel
set_option maxRecDepth 65536 in
theorem w_case : (Jvm.Cond.and given_1 narrow_1).before args0 about1 = true := by decide +kernel
theorem w_applies : (headSpec (Jvm.Cond.code x code maxLocals ret :: tables_1) room_1).applies x e0.platform about1 = true :=
  (Spec.applies_iff w_frames).mpr ⟨w_running, w_runnable, w_alone, w_named, w_hears, w_ripe, w_room, w_tables⟩
theorem atStart : AtStart classFile x code maxLocals ret World_1 tables_1 room_1 Calls_1 rest_1 Pre_1 launch0 p0 e0 about1 theMethod args0 below0 :=
  ⟨lists_1, trivial, launch0.admits_env _ _ _, launch0.least_env, fairChoices_fair.cas, fairChoices_fair.clock, w_frames, w_args, w_heap, w_applies, trivial, w_rest, w_case⟩
end start1
theorem witness_1 : WitnessClaimed_1 := ⟨start1.p0, start1.e0, start1.about1, start1.theMethod, start1.args0, start1.below0, start1.atStart⟩
end Jvm.Pilot.@@N@@
