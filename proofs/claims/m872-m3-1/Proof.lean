import JvmDerived
import JvmDerived.Pilot.@@N@@Statement
import JvmDerived.Pilot.@@N@@Code
set_option linter.unusedVariables false
set_option linter.unusedSimpArgs false
namespace Jvm.OwnKit
open Sem ClassFile Op Lib Jvm.Stand Jvm.Free Jvm.LawKit Jvm.RoadKit
/-- from the frame g over T the run ends, and what it leaves is Q's -/
def Go (p : Program) (e : Env) (below : List Frame) (s : State) (Q : Option Value → Heap → List Loc → Prop) (C S : Nat) (T : State) (g : JFrame) : Prop :=
  ∃ s₂ o, Steps p.tables e below (T.setTop g) s₂ ∧ s₂.status = .running ∧ Ended s₂ below o ∧ ∃ v L, o = .returned v ∧ Q v s₂.heap L ∧ FrameEnd s o s₂ L C S
section OwnGo
variable {p : Program} {l : Launch} {e : Env} {R : Room} {s : State} {m : MethodId} {args : Array Value} {below : List Frame} {meth : Method} {c : Code} {T T' : State} {locs : List Loc} {cells slots : Nat} {Q : Option Value → Heap → List Loc → Prop} {C S : Nat} {g g' : JFrame}
theorem Go.st (h : ∀ t, Steps p.tables e below (T'.setTop g') t → Steps p.tables e below (T.setTop g) t) (k : Go p e below s Q C S T' g') : Go p e below s Q C S T g := by
  obtain ⟨s₂, o, h1, h2⟩ := k
  exact ⟨s₂, o, h _ h1, h2⟩
theorem Go.eq (q : g = g') (k : Go p e below s Q C S T g') : Go p e below s Q C S T g := q ▸ k
theorem Go.retV (X : Stand p l e R s m args below meth c T locs cells slots) (hx : p.tables.exec = Jvm.exec) (hlk : meth.locks = false) {pc : Nat} {Ls : Array Slot} {w : Value} {t : FieldType} {i : Instr} {rest : List Value} (hret : meth.sig.returnType = some t) (hn : narrow t w = w)
    (hi : (i = .ireturn ∧ (t = .int ∨ t = .boolean ∨ t = .byte ∨ t = .char ∨ t = .short) ∧ ∃ z, w = .int z) ∨ (i = .lreturn ∧ t = .long ∧ ∃ z, w = .long z) ∨ (i = .dreturn ∧ t = .double ∧ ∃ z, w = .double z) ∨ (i = .freturn ∧ t = .float ∧ ∃ z, w = .float z) ∨ (i = .areturn ∧ t.isReference = true ∧ w.isRef = true))
    (hd : decode c.code pc = .ok (i, 1)) (hQ : Q (some w) T.heap locs) (hc : cells ≤ C) (hs : slots ≤ S) : Go p e below s Q C S T (mkF m pc Ls (w :: rest)) := by
  obtain ⟨fs, hr, hrun, hended, hW, hsame⟩ := X.leave (v := some w) (fun h => by rw [hret] at h; cases h) hlk
  exact ⟨_, _, retOut X hx hret hn hi hd hr, hrun, hended, _, _, rfl, hQ, ⟨_, rfl⟩, hW, hsame.mono hc hs⟩
theorem Go.retI (X : Stand p l e R s m args below meth c T locs cells slots) (hx : p.tables.exec = Jvm.exec) (hlk : meth.locks = false) {pc : Nat} {Ls : Array Slot} {z : Int32} {rest : List Value} (hret : meth.sig.returnType = some .int) (hd : decode c.code pc = .ok (.ireturn, 1)) (hQ : Q (some (.int z)) T.heap locs) (hc : cells ≤ C) (hs : slots ≤ S) : Go p e below s Q C S T (mkF m pc Ls (.int z :: rest)) :=
  Go.retV X hx hlk hret rfl (Or.inl ⟨rfl, Or.inl rfl, _, rfl⟩) hd hQ hc hs
theorem Go.retZ (X : Stand p l e R s m args below meth c T locs cells slots) (hx : p.tables.exec = Jvm.exec) (hlk : meth.locks = false) {pc : Nat} {Ls : Array Slot} {z : Int32} {rest : List Value} (hret : meth.sig.returnType = some .boolean) (hd : decode c.code pc = .ok (.ireturn, 1)) (hn : narrow .boolean (.int z) = .int z) (hQ : Q (some (.int z)) T.heap locs) (hc : cells ≤ C) (hs : slots ≤ S) : Go p e below s Q C S T (mkF m pc Ls (.int z :: rest)) :=
  Go.retV X hx hlk hret hn (Or.inl ⟨rfl, Or.inr (Or.inl rfl), _, rfl⟩) hd hQ hc hs
theorem Go.retB (X : Stand p l e R s m args below meth c T locs cells slots) (hx : p.tables.exec = Jvm.exec) (hlk : meth.locks = false) {pc : Nat} {Ls : Array Slot} {z : Int32} {rest : List Value} (hret : meth.sig.returnType = some .byte) (hd : decode c.code pc = .ok (.ireturn, 1)) (hn : narrow .byte (.int z) = .int z) (hQ : Q (some (.int z)) T.heap locs) (hc : cells ≤ C) (hs : slots ≤ S) : Go p e below s Q C S T (mkF m pc Ls (.int z :: rest)) :=
  Go.retV X hx hlk hret hn (Or.inl ⟨rfl, Or.inr (Or.inr (Or.inl rfl)), _, rfl⟩) hd hQ hc hs
theorem Go.retC (X : Stand p l e R s m args below meth c T locs cells slots) (hx : p.tables.exec = Jvm.exec) (hlk : meth.locks = false) {pc : Nat} {Ls : Array Slot} {z : Int32} {rest : List Value} (hret : meth.sig.returnType = some .char) (hd : decode c.code pc = .ok (.ireturn, 1)) (hn : narrow .char (.int z) = .int z) (hQ : Q (some (.int z)) T.heap locs) (hc : cells ≤ C) (hs : slots ≤ S) : Go p e below s Q C S T (mkF m pc Ls (.int z :: rest)) :=
  Go.retV X hx hlk hret hn (Or.inl ⟨rfl, Or.inr (Or.inr (Or.inr (Or.inl rfl))), _, rfl⟩) hd hQ hc hs
theorem Go.retJ (X : Stand p l e R s m args below meth c T locs cells slots) (hx : p.tables.exec = Jvm.exec) (hlk : meth.locks = false) {pc : Nat} {Ls : Array Slot} {z : Int64} {rest : List Value} (hret : meth.sig.returnType = some .long) (hd : decode c.code pc = .ok (.lreturn, 1)) (hQ : Q (some (.long z)) T.heap locs) (hc : cells ≤ C) (hs : slots ≤ S) : Go p e below s Q C S T (mkF m pc Ls (.long z :: rest)) :=
  Go.retV X hx hlk hret rfl (Or.inr (Or.inl ⟨rfl, rfl, _, rfl⟩)) hd hQ hc hs
theorem own_nar_ref {t : FieldType} {w : Value} (hw : w.isRef = true) : narrow t w = w := by
  rcases ref_cases hw with rfl | ⟨_, rfl⟩ <;> cases t <;> rfl
theorem Go.retA (X : Stand p l e R s m args below meth c T locs cells slots) (hx : p.tables.exec = Jvm.exec) (hlk : meth.locks = false) {pc : Nat} {Ls : Array Slot} {w : Value} {t : FieldType} {rest : List Value} (hret : meth.sig.returnType = some t) (ht : t.isReference = true) (hw : w.isRef = true) (hd : decode c.code pc = .ok (.areturn, 1)) (hQ : Q (some w) T.heap locs) (hc : cells ≤ C) (hs : slots ≤ S) : Go p e below s Q C S T (mkF m pc Ls (w :: rest)) :=
  Go.retV X hx hlk hret (own_nar_ref hw) (Or.inr (Or.inr (Or.inr (Or.inr ⟨rfl, ht, hw⟩)))) hd hQ hc hs
theorem Go.ret0 (X : Stand p l e R s m args below meth c T locs cells slots) (hx : p.tables.exec = Jvm.exec) (hlk : meth.locks = false) {pc : Nat} {Ls : Array Slot} (hret : meth.sig.returnType = none) (hd : decode c.code pc = .ok (.return_, 1)) (hQ : Q none T.heap locs) (hc : cells ≤ C) (hs : slots ≤ S) : Go p e below s Q C S T (mkF m pc Ls []) := by
  obtain ⟨fs, hr, hrun, hended, hW, hsame⟩ := X.leave (v := none) (fun _ => rfl) hlk
  exact ⟨_, _, X.returnOut hx hret hd hr, hrun, hended, _, _, rfl, hQ, ⟨_, rfl⟩, hW, hsame.mono hc hs⟩
end OwnGo
/-- a proposition as Java's boolean -/
def b2i (P : Prop) [Decidable P] : Int32 := if P then 1 else 0
theorem b2i_pos {P : Prop} [Decidable P] (h : P) : b2i P = 1 := if_pos h
theorem b2i_neg {P : Prop} [Decidable P] (h : ¬ P) : b2i P = 0 := if_neg h
theorem b2i_ne {P : Prop} [Decidable P] (h : P) : ¬ b2i P = 0 := by rw [b2i_pos h]; decide
theorem b2i_zero {P : Prop} [Decidable P] (h : ¬ P) : b2i P = 0 := b2i_neg h
theorem own_b2i_t {P : Prop} [Decidable P] (h : P) : some (Value.int 1) = some (Value.int (b2i P)) := by rw [b2i_pos h]
theorem own_b2i_f {P : Prop} [Decidable P] (h : ¬ P) : some (Value.int 0) = some (Value.int (b2i P)) := by rw [b2i_neg h]
theorem own_nb (y : Int32) : nar .byte (y.toInt8.toInt32) = y.toInt8.toInt32 := by
  show y.toInt8.toInt32.toInt8.toInt32 = y.toInt8.toInt32
  simp
theorem own_nc (y : Int32) : nar .char (y.toUInt32.toUInt16.toUInt32.toInt32) = y.toUInt32.toUInt16.toUInt32.toInt32 := by
  show (y.toUInt32.toUInt16.toUInt32.toInt32).toUInt32.toUInt16.toUInt32.toInt32 = y.toUInt32.toUInt16.toUInt32.toInt32
  rw [UInt32.toUInt32_toInt32, UInt16.toUInt16_toUInt32]
theorem own_nbv (y : Int32) : narrow .byte (.int (y.toInt8.toInt32)) = .int (y.toInt8.toInt32) := congrArg Value.int (own_nb y)
theorem own_and1 (a : Int32) : a &&& (1 : Int32) = (0 : Int32) ∨ a &&& (1 : Int32) = (1 : Int32) := and_one a
theorem own_and3 (a : Int32) : a &&& (3 : Int32) = (0 : Int32) ∨ a &&& (3 : Int32) = (1 : Int32) ∨ a &&& (3 : Int32) = (2 : Int32) ∨ a &&& (3 : Int32) = (3 : Int32) := by
  have e := c_mask a 3 2 (by decide) (by decide)
  have h : (a &&& (3 : Int32)).toInt = 0 ∨ (a &&& (3 : Int32)).toInt = 1 ∨ (a &&& (3 : Int32)).toInt = 2 ∨ (a &&& (3 : Int32)).toInt = 3 := by omega
  rcases h with h | h | h | h
  · exact Or.inl (Int32.toInt_inj.mp (h.trans (by decide)))
  · exact Or.inr (Or.inl (Int32.toInt_inj.mp (h.trans (by decide))))
  · exact Or.inr (Or.inr (Or.inl (Int32.toInt_inj.mp (h.trans (by decide)))))
  · exact Or.inr (Or.inr (Or.inr (Int32.toInt_inj.mp (h.trans (by decide)))))
theorem own_ord {s : State} {args : Array Value} {t : Term} {a : Addr} {C n d : String} {k : Int32} (ev : t.eval args s none [] s = some (.ref a)) (h : (Jvm.Cond.eq (Term.field t C n d) (Term.int k)).value args s none s [] = some true) : Fld s s.heap a C n d (.int k) := by
  obtain ⟨u, w, hu, hw, k1, k2⟩ := cmp_v (Or.inl h)
  have hw' : (Term.int k).eval args s none [] s = some (.int k) := Term.int_eval k
  cases hw.symm.trans hw'
  obtain ⟨z, rfl⟩ : ∃ z, u = .int z := k2
  have hz : z = k := gotT (Cond.eq_ints hu hw') h
  subst hz
  exact Fld.start ((fld_at ev).symm.trans hu)
section OwnBounds
variable {c a b : Int32} {n : Int}
theorem own_i1 (h : c < a) (q : a.toInt ≤ b.toInt) : c < b := by rw [Int32.lt_iff_toInt_lt] at *; omega
theorem own_i2 (h : ¬ a < c) (q : a.toInt < b.toInt) : c < b := by rw [Int32.lt_iff_toInt_lt] at *; omega
theorem own_i3 (h : ¬ c < a) (q : b.toInt ≤ a.toInt) : ¬ c < b := by rw [Int32.lt_iff_toInt_lt] at *; omega
theorem own_i4 (h : a < c) (q : b.toInt ≤ a.toInt + 1) : ¬ c < b := by rw [Int32.lt_iff_toInt_lt] at *; omega
theorem own_j1 (h : c < a) (q : a.toInt ≤ b.toInt + 1) : ¬ b < c := by rw [Int32.lt_iff_toInt_lt] at *; omega
theorem own_j2 (h : ¬ a < c) (q : a.toInt ≤ b.toInt) : ¬ b < c := by rw [Int32.lt_iff_toInt_lt] at *; omega
theorem own_j3 (h : ¬ c < a) (q : b.toInt < a.toInt) : b < c := by rw [Int32.lt_iff_toInt_lt] at *; omega
theorem own_j4 (h : a < c) (q : b.toInt ≤ a.toInt) : b < c := by rw [Int32.lt_iff_toInt_lt] at *; omega
theorem own_k1 (h : c < a) (q : a.toInt ≤ b.toInt) : ¬ c = b := fun e => by rw [e, Int32.lt_iff_toInt_lt] at h; omega
theorem own_k2 (h : ¬ a < c) (q : a.toInt < b.toInt) : ¬ c = b := fun e => by rw [e, Int32.lt_iff_toInt_lt] at h; omega
theorem own_k3 (h : ¬ c < a) (q : b.toInt < a.toInt) : ¬ c = b := fun e => by rw [e, Int32.lt_iff_toInt_lt] at h; omega
theorem own_k4 (h : a < c) (q : b.toInt ≤ a.toInt) : ¬ c = b := fun e => by rw [e, Int32.lt_iff_toInt_lt] at h; omega
theorem own_c1 (h : c < a) (q : a.toInt = n) : c.toInt < n := by rw [Int32.lt_iff_toInt_lt] at h; omega
theorem own_c2 (h : ¬ a < c) (q : a.toInt = n) : c.toInt ≤ n := by rw [Int32.lt_iff_toInt_lt] at h; omega
theorem own_c3 (h : ¬ c < a) (q : a.toInt = n) : n ≤ c.toInt := by rw [Int32.lt_iff_toInt_lt] at h; omega
theorem own_c4 (h : a < c) (q : a.toInt = n) : n < c.toInt := by rw [Int32.lt_iff_toInt_lt] at h; omega
theorem own_c5 (h : c = a) (q : a.toInt = n) : c.toInt = n := by rw [h]; exact q
theorem own_c6 (h : ¬ c = a) (q : a.toInt = n) : ¬ c.toInt = n := fun e => h (Int32.toInt_inj.mp (e.trans q.symm))
end OwnBounds
theorem own_addc {a b c d : Int32} (h : b + c = d) : (a + b) + c = a + d := by rw [Int32.add_assoc, h]
theorem own_byte_of {v : Value} (h : fits .byte v = true) : ∃ w, v = .int w ∧ narrow .byte (.int w) = .int w := by
  cases v with
  | int w =>
    refine ⟨w, rfl, ?_⟩
    obtain ⟨h1, h2⟩ := rng_byte h
    have e := c_i2b w
    have e1 : (-128 : Int32).toInt = -128 := by decide
    have e2 : (127 : Int32).toInt = 127 := by decide
    rw [Int32.lt_iff_toInt_lt, e1] at h1
    rw [Int32.lt_iff_toInt_lt, e2] at h2
    have e3 : w.toInt8.toInt32 = w := Int32.toInt_inj.mp (by omega)
    exact congrArg Value.int e3
  | _ => simp [fits] at h
theorem own_arv_nostat {Z : State} {h : Heap} {a : Addr} {k : ClassId} {ty : FieldType} {z : Int32} {vs : List Value} {dv : Value} (F : Arv Z h a k ty z vs dv) : ∀ cell : Cell, h[a]? = some cell → cell.vm.isStatics = false := by
  obtain ⟨c, A, -⟩ := F
  intro cell hc
  cases A.1.symm.trans hc
  exact A.plain
theorem own_selP {s : State} {args args' : Array Value} {y y' : MethodName} (hsel : (Jvm.Cond.selects y'.cls y' y').before args s = true) (he : y.cls = y'.cls) (hp : s.PrivateAt y) (hi : (Jvm.Cond.instanceMethod y).before args s = true) (hy : y.cls ≠ "java/lang/invoke/MethodHandle" ∧ y.cls ≠ "java/lang/invoke/VarHandle") : (Jvm.Cond.selects y.cls y y).before args s = true := by
  obtain ⟨c2, r2, m2, -, -, q3, -, kP, hkP, hkPi⟩ := Cond.selects_spec hsel
  exact Jvm.Stand.selects_self_of_private (by rw [he]; exact findClass_of_methodNamed q3) hkP hkPi hp hi hy
theorem own_irr {a : Int32} : ¬ (a < a) := Int32.lt_irrefl
theorem own_irrL {a : Int64} : ¬ (a < a) := Int64.lt_irrefl
theorem own_sta_keep {Z : State} {h h' : Heap} {C n d : String} {v : Value} {ws : List Addr} (F : Sta Z h C n d v) (K : Keep h h' ws) (q : ∀ x ∈ ws, ∀ cell : Cell, h[x]? = some cell → cell.vm.isStatics = false) : Sta Z h' C n d v := by
  obtain ⟨cf, i, k, f, st, cell, h1, h2, h3, h4, h5, h6, h7⟩ := F
  refine ⟨cf, i, k, f, st, cell, h1, h2, h3, h4, K.2.1 _ _ h5 (fun hm => ?_), h6, h7⟩
  have := q _ hm _ h5
  rw [h6] at this
  cases this
end Jvm.OwnKit
namespace Jvm.Pilot.@@N@@
open Jvm Jvm.ClassFile Sem Op Lib Jvm.Free Jvm.Stand Jvm.LawKit Jvm.RoadKit Jvm.OwnKit Bundle Jvm.Pilot.@@N@@.Jvm.D
theorem d1_0 : decode prog_37_method_1_code 0 = .ok (.aload_n 0, 1) := by decide +kernel
theorem d1_1 : decode prog_37_method_1_code 1 = .ok (.invokespecial 1, 3) := by decide +kernel
theorem d1_4 : decode prog_37_method_1_code 4 = .ok (.aload_n 0, 1) := by decide +kernel
theorem d1_5 : decode prog_37_method_1_code 5 = .ok (.aload_n 1, 1) := by decide +kernel
theorem d1_6 : decode prog_37_method_1_code 6 = .ok (.putfield 7, 3) := by decide +kernel
theorem d1_9 : decode prog_37_method_1_code 9 = .ok (.aload_n 0, 1) := by decide +kernel
theorem d1_10 : decode prog_37_method_1_code 10 = .ok (.iload_n 2, 1) := by decide +kernel
theorem d1_11 : decode prog_37_method_1_code 11 = .ok (.putfield 13, 3) := by decide +kernel
theorem d1_14 : decode prog_37_method_1_code 14 = .ok (.aload_n 0, 1) := by decide +kernel
theorem d1_15 : decode prog_37_method_1_code 15 = .ok (.iload_n 2, 1) := by decide +kernel
theorem d1_16 : decode prog_37_method_1_code 16 = .ok (.putfield 17, 3) := by decide +kernel
theorem d1_19 : decode prog_37_method_1_code 19 = .ok (.return_, 1) := by decide +kernel
theorem pn_0 : plainName "com/example/reapd/reapd/storage/ByteReader" = true := by first | (simp [plainName, overriddenIn]; done) | decide +kernel
theorem ef_rm1 (m : MethodId) (a : Addr) (t : Addr) (f : Int32) : entryFrame m #[(.ref a), (.ref t), (.int f)] 3 = mkF m 0 #[.val (.ref a), .val (.ref t), .val (.int f)] [] := by first | (simp [entryFrame, mkF, argsToLocals, Value.category]; done) | rfl
def Qrm1 (Z : State) (a : Addr) (t : Addr) (f : Int32) (h0 : Heap) (n0 : Nat) (rV : Option Value) (hE : Heap) (LE : List Loc) : Prop := rV = none ∧ Fr n0 LE ∧ Keep h0 hE [a] ∧ Exa Z hE a "com/example/reapd/reapd/storage/ByteReader" ∧ Fld Z hE a "com/example/reapd/reapd/storage/ByteReader" "bytes" "[B" (.ref t) ∧ Fld Z hE a "com/example/reapd/reapd/storage/ByteReader" "next" "I" (.int f)
set_option maxRecDepth 65536 in
set_option maxHeartbeats 40000000 in
theorem rm1 (l : Launch) (Z : State) (a0 : Array Value) (hw : ∀ d ∈ tables_1, d.before a0 Z = true) (ws : List Jvm.Cond) (a : Addr) (t : Addr) (f : Int32) (h0 : Heap) (n0 : Nat) (Z0 : n0 ≤ h0.size) (E_a : Exa Z h0 a "com/example/reapd/reapd/storage/ByteReader") (F_bytes_a : Fld Z h0 a "com/example/reapd/reapd/storage/ByteReader" "bytes" "[B" .null) (F_first_a : Fld Z h0 a "com/example/reapd/reapd/storage/ByteReader" "first" "I" (.int (0 : Int32))) (F_next_a : Fld Z h0 a "com/example/reapd/reapd/storage/ByteReader" "next" "I" (.int (0 : Int32))) (g_a : n0 ≤ a) :
    MetFree l (⟨"com/example/reapd/reapd/storage/ByteReader", "<init>", "([BI)V"⟩ : MethodName) (head1 (Jvm.Cond.code (⟨"com/example/reapd/reapd/storage/ByteReader", "<init>", "([BI)V"⟩ : MethodName) prog_37_method_1_code 3 none :: ws) ({ frames := 1, cells := 0, slots := 0, locals := 12 } : Room)) (fun aA UA => aA = #[(.ref a), (.ref t), (.int f)] ∧ Z.Warmed39 UA.vm ∧ UA.heap = h0) (fun _ _ _ _ _ => True) (fun _ UA oA UB => ∃ rV LE, oA = .returned rV ∧ Qrm1 Z a t f h0 n0 rV UB.heap LE ∧ FrameEnd UA oA UB LE ({ frames := 1, cells := 0, slots := 0, locals := 12 } : Room).cells ({ frames := 1, cells := 0, slots := 0, locals := 12 } : Room).slots) := by
  refine MetFree.of_bodySF (plainFor_of_name pn_0) hisR ?_
  intro p e s m args below meth c s₁ Bd hml0 hP hK
  obtain ⟨rfl, hZ, hh⟩ := hP
  have hx := Bd.exec
  have hby := Bd.bytes
  have hml : c.maxLocals = 3 := hml0
  have hown : s.vm.findClass "com/example/reapd/reapd/storage/ByteReader" = some m.cls := findClass_of_methodNamed Bd.named
  have hnm := (name_of_methodNamed Bd.named Bd.method).1
  have hlk := Bd.notSynchronized
  have X0 : Stand p l e ({ frames := 1, cells := 0, slots := 0, locals := 12 } : Room) s m #[(.ref a), (.ref t), (.int f)] below meth c s₁ [] 0 0 := Stand.of_body Bd
  have e0 : s₁.heap = h0 := by rw [← hh, Bd.state]; rfl
  have N0 := Fr.nil n0
  show Go p e below s (Qrm1 Z a t f h0 n0) ({ frames := 1, cells := 0, slots := 0, locals := 12 } : Room).cells ({ frames := 1, cells := 0, slots := 0, locals := 12 } : Room).slots s₁ (entryFrame m #[(.ref a), (.ref t), (.int f)] 3)
  refine Go.eq (ef_rm1 m a t f) ?_
  show Go p e below s _ _ _ s₁ (mkF m 0 #[.val (.ref a), .val (.ref t), .val (.int f)] [])
  refine Go.st (fun _ => XS.aloadN X0.here hx rfl (hb hby d1_0) rfl rfl) ?_
  show Go p e below s _ _ _ s₁ (mkF m 1 #[.val (.ref a), .val (.ref t), .val (.int f)] [(.ref a)])
  obtain ⟨T1, X1, e1, st1⟩ := initO X0 hx hZ hown (hw _ (List.mem_of_getElem? (i := 7) rfl)) (hw _ (List.mem_of_getElem? (i := 8) rfl)) (hw _ (List.mem_of_getElem? (i := 9) rfl)) e0 (g := (mkF m 1 #[.val (.ref a), .val (.ref t), .val (.int f)] [(.ref a)])) rfl (by rw [hml]; rfl) rfl (hb hby d1_1) (by decide) (W := 0) (by show 2 * 0 + _ ≤ _; exact Nat.le_of_eq rfl) (by decide)
  refine Go.st st1 ?_
  show Go p e below s _ _ _ T1 (mkF m 4 #[.val (.ref a), .val (.ref t), .val (.int f)] [])
  refine Go.st (fun _ => XS.aloadN X1.here hx rfl (hb hby d1_4) rfl rfl) ?_
  show Go p e below s _ _ _ T1 (mkF m 5 #[.val (.ref a), .val (.ref t), .val (.int f)] [(.ref a)])
  refine Go.st (fun _ => XS.aloadN X1.here hx rfl (hb hby d1_5) rfl rfl) ?_
  show Go p e below s _ _ _ T1 (mkF m 6 #[.val (.ref a), .val (.ref t), .val (.int f)] [(.ref t), (.ref a)])
  obtain ⟨T2, h2, X2, e2, W2, st2⟩ := putF X1 hx hZ hown (host := "") (Or.inl (hw _ (List.mem_of_getElem? (i := 10) rfl))) Via.refl e1 F_bytes_a E_a (Or.inr ⟨(hw _ (List.mem_of_getElem? (i := 11) rfl)), rfl, hnm⟩) (hw _ (List.mem_of_getElem? (i := 2) rfl)) (ty := (.array .byte)) (by decide) rfl rfl (g := (mkF m 6 #[.val (.ref a), .val (.ref t), .val (.int f)] [(.ref t), (.ref a)])) rfl rfl (hb hby d1_6)
  refine Go.st st2 ?_
  have N2 := Fr.snoc X2 N0 g_a
  have K2 : Keep h0 h2 [a] := (Keep.refl h0 [a]).wr W2 (Or.inl (List.mem_of_getElem? (i := 0) rfl))
  have z2 : n0 ≤ h2.size := Nat.le_trans Z0 (Nat.le_of_eq W2.size.symm)
  have Fw2 := F_bytes_a.same W2
  show Go p e below s _ _ _ T2 (mkF m 9 #[.val (.ref a), .val (.ref t), .val (.int f)] [])
  refine Go.st (fun _ => XS.aloadN X2.here hx rfl (hb hby d1_9) rfl rfl) ?_
  show Go p e below s _ _ _ T2 (mkF m 10 #[.val (.ref a), .val (.ref t), .val (.int f)] [(.ref a)])
  refine Go.st (fun _ => XS.iloadN X2.here hx rfl (hb hby d1_10) rfl) ?_
  show Go p e below s _ _ _ T2 (mkF m 11 #[.val (.ref a), .val (.ref t), .val (.int f)] [(.int f), (.ref a)])
  have f3 := (E_a.wr W2)
  have f4 := (F_first_a.other W2 (Or.inr (slot_ne (Or.inr (hw _ (List.mem_of_getElem? (i := 13) rfl))) (Or.inr (hw _ (List.mem_of_getElem? (i := 11) rfl))) (by decide) (t := .int) (t' := (.array .byte)) (by decide) (by decide))))
  obtain ⟨T5, h5, X5, e5, W5, st5⟩ := putF X2 hx hZ hown (host := "") (Or.inl (hw _ (List.mem_of_getElem? (i := 12) rfl))) Via.refl e2 f4 f3 (Or.inr ⟨(hw _ (List.mem_of_getElem? (i := 13) rfl)), rfl, hnm⟩) (hw _ (List.mem_of_getElem? (i := 2) rfl)) (ty := .int) (by decide) rfl rfl (g := (mkF m 11 #[.val (.ref a), .val (.ref t), .val (.int f)] [(.int f), (.ref a)])) rfl rfl (hb hby d1_11)
  refine Go.st st5 ?_
  have N5 := Fr.snoc X5 N2 g_a
  have K5 : Keep h0 h5 [a] := K2.wr W5 (Or.inl (List.mem_of_getElem? (i := 0) rfl))
  have z5 : n0 ≤ h5.size := Nat.le_trans z2 (Nat.le_of_eq W5.size.symm)
  have Fw5 := f4.same W5
  show Go p e below s _ _ _ T5 (mkF m 14 #[.val (.ref a), .val (.ref t), .val (.int f)] [])
  refine Go.st (fun _ => XS.aloadN X5.here hx rfl (hb hby d1_14) rfl rfl) ?_
  show Go p e below s _ _ _ T5 (mkF m 15 #[.val (.ref a), .val (.ref t), .val (.int f)] [(.ref a)])
  refine Go.st (fun _ => XS.iloadN X5.here hx rfl (hb hby d1_15) rfl) ?_
  show Go p e below s _ _ _ T5 (mkF m 16 #[.val (.ref a), .val (.ref t), .val (.int f)] [(.int f), (.ref a)])
  have f6 := (f3.wr W5)
  have f7 := ((F_next_a.other W2 (Or.inr (slot_ne (Or.inl (hw _ (List.mem_of_getElem? (i := 15) rfl))) (Or.inr (hw _ (List.mem_of_getElem? (i := 11) rfl))) (by decide) (t := .int) (t' := (.array .byte)) (by decide) (by decide)))).other W5 (Or.inr (slot_ne (Or.inl (hw _ (List.mem_of_getElem? (i := 15) rfl))) (Or.inr (hw _ (List.mem_of_getElem? (i := 13) rfl))) (by decide) (t := .int) (t' := .int) (by decide) (by decide))))
  obtain ⟨T8, h8, X8, e8, W8, st8⟩ := putF X5 hx hZ hown (host := "") (Or.inl (hw _ (List.mem_of_getElem? (i := 14) rfl))) Via.refl e5 f7 f6 (Or.inl (hw _ (List.mem_of_getElem? (i := 15) rfl))) (hw _ (List.mem_of_getElem? (i := 2) rfl)) (ty := .int) (by decide) rfl rfl (g := (mkF m 16 #[.val (.ref a), .val (.ref t), .val (.int f)] [(.int f), (.ref a)])) rfl rfl (hb hby d1_16)
  refine Go.st st8 ?_
  have N8 := Fr.snoc X8 N5 g_a
  have K8 : Keep h0 h8 [a] := K5.wr W8 (Or.inl (List.mem_of_getElem? (i := 0) rfl))
  have z8 : n0 ≤ h8.size := Nat.le_trans z5 (Nat.le_of_eq W8.size.symm)
  have Fw8 := f7.same W8
  show Go p e below s _ _ _ T8 (mkF m 19 #[.val (.ref a), .val (.ref t), .val (.int f)] [])
  have f9 := (f6.wr W8)
  have f10 := ((Fw2.other W5 (Or.inr (slot_ne (Or.inr (hw _ (List.mem_of_getElem? (i := 11) rfl))) (Or.inr (hw _ (List.mem_of_getElem? (i := 13) rfl))) (by decide) (t := (.array .byte)) (t' := .int) (by decide) (by decide)))).other W8 (Or.inr (slot_ne (Or.inr (hw _ (List.mem_of_getElem? (i := 11) rfl))) (Or.inl (hw _ (List.mem_of_getElem? (i := 15) rfl))) (by decide) (t := (.array .byte)) (t' := .int) (by decide) (by decide))))
  exact Go.ret0 X8 hx hlk Bd.returns (hb hby d1_19) (by rw [e8]; exact ⟨rfl, N8, K8, f9, f10, Fw8⟩) (by decide) (by decide)
theorem d3_0 : decode prog_37_method_5_code 0 = .ok (.aload_n 0, 1) := by decide +kernel
theorem d3_1 : decode prog_37_method_5_code 1 = .ok (.getfield 7, 3) := by decide +kernel
theorem d3_4 : decode prog_37_method_5_code 4 = .ok (.aload_n 0, 1) := by decide +kernel
theorem d3_5 : decode prog_37_method_5_code 5 = .ok (.dup, 1) := by decide +kernel
theorem d3_6 : decode prog_37_method_5_code 6 = .ok (.getfield 17, 3) := by decide +kernel
theorem d3_9 : decode prog_37_method_5_code 9 = .ok (.dup_x1, 1) := by decide +kernel
theorem d3_10 : decode prog_37_method_5_code 10 = .ok (.iconst 1, 1) := by decide +kernel
theorem d3_11 : decode prog_37_method_5_code 11 = .ok (.iadd, 1) := by decide +kernel
theorem d3_12 : decode prog_37_method_5_code 12 = .ok (.putfield 17, 3) := by decide +kernel
theorem d3_15 : decode prog_37_method_5_code 15 = .ok (.baload, 1) := by decide +kernel
theorem d3_16 : decode prog_37_method_5_code 16 = .ok (.ireturn, 1) := by decide +kernel
theorem ef_rm3 (m : MethodId) (a : Addr) : entryFrame m #[(.ref a)] 1 = mkF m 0 #[.val (.ref a)] [] := by first | (simp [entryFrame, mkF, argsToLocals, Value.category]; done) | rfl
def Qrm3 (Z : State) (a : Addr) (t : Addr) (k : ClassId) (z : Int32) (vs : List Value) (dv : Value) (n : Int32) (w : Int32) (h0 : Heap) (n0 : Nat) (rV : Option Value) (hE : Heap) (LE : List Loc) : Prop := rV = some (.int w) ∧ Fr n0 LE ∧ Keep h0 hE [a] ∧ Exa Z hE a "com/example/reapd/reapd/storage/ByteReader" ∧ Fld Z hE a "com/example/reapd/reapd/storage/ByteReader" "bytes" "[B" (.ref t) ∧ Fld Z hE a "com/example/reapd/reapd/storage/ByteReader" "next" "I" (.int (n + (1 : Int32)))
set_option maxRecDepth 65536 in
set_option maxHeartbeats 40000000 in
theorem rm3 (l : Launch) (Z : State) (a0 : Array Value) (hw : ∀ d ∈ tables_1, d.before a0 Z = true) (ws : List Jvm.Cond) (a : Addr) (t : Addr) (k : ClassId) (z : Int32) (vs : List Value) (dv : Value) (n : Int32) (w : Int32) (h0 : Heap) (n0 : Nat) (Z0 : n0 ≤ h0.size) (E_a : Exa Z h0 a "com/example/reapd/reapd/storage/ByteReader") (F_bytes_a : Fld Z h0 a "com/example/reapd/reapd/storage/ByteReader" "bytes" "[B" (.ref t)) (F_next_a : Fld Z h0 a "com/example/reapd/reapd/storage/ByteReader" "next" "I" (.int n)) (V_t : Arv Z h0 t k .byte z vs dv) (g_a : n0 ≤ a) (ne_t_a : t ≠ a) (hn0 : ¬ n < 0 ∧ n < z) (hget : vs.getD n.toNatClampNeg dv = .int w) (hwb : narrow .byte (.int w) = .int w) :
    MetFree l (⟨"com/example/reapd/reapd/storage/ByteReader", "readByte", "()B"⟩ : MethodName) (head1 (Jvm.Cond.code (⟨"com/example/reapd/reapd/storage/ByteReader", "readByte", "()B"⟩ : MethodName) prog_37_method_5_code 1 (some .byte) :: ws) ({ frames := 0, cells := 0, slots := 0, locals := 0 } : Room)) (fun aA UA => aA = #[(.ref a)] ∧ Z.Warmed39 UA.vm ∧ UA.heap = h0) (fun _ _ _ _ _ => True) (fun _ UA oA UB => ∃ rV LE, oA = .returned rV ∧ Qrm3 Z a t k z vs dv n w h0 n0 rV UB.heap LE ∧ FrameEnd UA oA UB LE ({ frames := 0, cells := 0, slots := 0, locals := 0 } : Room).cells ({ frames := 0, cells := 0, slots := 0, locals := 0 } : Room).slots) := by
  refine MetFree.of_bodySF (plainFor_of_name pn_0) hisR ?_
  intro p e s m args below meth c s₁ Bd hml0 hP hK
  obtain ⟨rfl, hZ, hh⟩ := hP
  have hx := Bd.exec
  have hby := Bd.bytes
  have hml : c.maxLocals = 1 := hml0
  have hown : s.vm.findClass "com/example/reapd/reapd/storage/ByteReader" = some m.cls := findClass_of_methodNamed Bd.named
  have hnm := (name_of_methodNamed Bd.named Bd.method).1
  have hlk := Bd.notSynchronized
  have X0 : Stand p l e ({ frames := 0, cells := 0, slots := 0, locals := 0 } : Room) s m #[(.ref a)] below meth c s₁ [] 0 0 := Stand.of_body Bd
  have e0 : s₁.heap = h0 := by rw [← hh, Bd.state]; rfl
  have N0 := Fr.nil n0
  show Go p e below s (Qrm3 Z a t k z vs dv n w h0 n0) ({ frames := 0, cells := 0, slots := 0, locals := 0 } : Room).cells ({ frames := 0, cells := 0, slots := 0, locals := 0 } : Room).slots s₁ (entryFrame m #[(.ref a)] 1)
  refine Go.eq (ef_rm3 m a) ?_
  show Go p e below s _ _ _ s₁ (mkF m 0 #[.val (.ref a)] [])
  refine Go.st (fun _ => XS.aloadN X0.here hx rfl (hb hby d3_0) rfl rfl) ?_
  show Go p e below s _ _ _ s₁ (mkF m 1 #[.val (.ref a)] [(.ref a)])
  obtain ⟨T1, X1, e1, st1⟩ := getF X0 hx hZ hown (host := "") (Or.inl (hw _ (List.mem_of_getElem? (i := 10) rfl))) Via.refl e0 F_bytes_a (g := (mkF m 1 #[.val (.ref a)] [(.ref a)])) rfl rfl (hb hby d3_1)
  refine Go.st st1 ?_
  show Go p e below s _ _ _ T1 (mkF m 4 #[.val (.ref a)] [(.ref t)])
  refine Go.st (fun _ => XS.aloadN X1.here hx rfl (hb hby d3_4) rfl rfl) ?_
  show Go p e below s _ _ _ T1 (mkF m 5 #[.val (.ref a)] [(.ref a), (.ref t)])
  refine Go.st (fun _ => XS.dup X1.here hx rfl (hb hby d3_5) rfl rfl) ?_
  show Go p e below s _ _ _ T1 (mkF m 6 #[.val (.ref a)] [(.ref a), (.ref a), (.ref t)])
  obtain ⟨T2, X2, e2, st2⟩ := getF X1 hx hZ hown (host := "") (Or.inl (hw _ (List.mem_of_getElem? (i := 14) rfl))) Via.refl e1 F_next_a (g := (mkF m 6 #[.val (.ref a)] [(.ref a), (.ref a), (.ref t)])) rfl rfl (hb hby d3_6)
  refine Go.st st2 ?_
  show Go p e below s _ _ _ T2 (mkF m 9 #[.val (.ref a)] [(.int n), (.ref a), (.ref t)])
  refine Go.st (fun _ => XS.dupX1 X2.here hx rfl (hb hby d3_9) rfl rfl rfl) ?_
  show Go p e below s _ _ _ T2 (mkF m 10 #[.val (.ref a)] [(.int n), (.ref a), (.int n), (.ref t)])
  refine Go.st (fun _ => XS.iconst X2.here hx rfl (hb hby d3_10)) ?_
  show Go p e below s _ _ _ T2 (mkF m 11 #[.val (.ref a)] [(.int (1 : Int32)), (.int n), (.ref a), (.int n), (.ref t)])
  refine Go.st (fun _ => XS.iadd X2.here hx rfl (hb hby d3_11) rfl) ?_
  show Go p e below s _ _ _ T2 (mkF m 12 #[.val (.ref a)] [(.int (n + (1 : Int32))), (.ref a), (.int n), (.ref t)])
  obtain ⟨T3, h3, X3, e3, W3, st3⟩ := putF X2 hx hZ hown (host := "") (Or.inl (hw _ (List.mem_of_getElem? (i := 14) rfl))) Via.refl e2 F_next_a E_a (Or.inl (hw _ (List.mem_of_getElem? (i := 15) rfl))) (hw _ (List.mem_of_getElem? (i := 2) rfl)) (ty := .int) (by decide) rfl rfl (g := (mkF m 12 #[.val (.ref a)] [(.int (n + (1 : Int32))), (.ref a), (.int n), (.ref t)])) rfl rfl (hb hby d3_12)
  refine Go.st st3 ?_
  have N3 := Fr.snoc X3 N0 g_a
  have K3 : Keep h0 h3 [a] := (Keep.refl h0 [a]).wr W3 (Or.inl (List.mem_of_getElem? (i := 0) rfl))
  have z3 : n0 ≤ h3.size := Nat.le_trans Z0 (Nat.le_of_eq W3.size.symm)
  have Fw3 := F_next_a.same W3
  show Go p e below s _ _ _ T3 (mkF m 15 #[.val (.ref a)] [(.int n), (.ref t)])
  have f4 := (V_t.other W3 ne_t_a)
  obtain ⟨cl5, Ar5, q5, S5, M5, H5, G5⟩ := id f4
  have hin5 : ¬ (n < 0 ∨ cl5.slots.size ≤ (n).toNatClampNeg) := inb_of S5 hn0
  have hat5 : cl5.slots[(n).toNatClampNeg]? = some (.int w) := H5.at hin5 hget
  refine Go.st (fun tG => X3.baloadBytes hx (j := n) (v := (.int w)) (by rw [e3]; exact Ar5.1) (State.isArrayOf_alike hZ.alike Ar5.2.1) Ar5.2.2 hin5 hat5 (g := (mkF m 15 #[.val (.ref a)] [(.int n), (.ref t)])) rfl rfl (hb hby d3_15) tG) ?_
  show Go p e below s _ _ _ T3 (mkF m 16 #[.val (.ref a)] [(.int w)])
  have f6 := (E_a.wr W3)
  have f7 := (F_bytes_a.other W3 (Or.inr (slot_ne (Or.inr (hw _ (List.mem_of_getElem? (i := 11) rfl))) (Or.inl (hw _ (List.mem_of_getElem? (i := 15) rfl))) (by decide) (t := (.array .byte)) (t' := .int) (by decide) (by decide))))
  exact Go.retB X3 hx hlk Bd.returns (hb hby d3_16) hwb (by rw [e3]; exact ⟨rfl, N3, K3, f6, f7, Fw3⟩) (by decide) (by decide)
theorem pd_0 : parseMethodDescriptor "([BI)V" = some ⟨[(.array .byte), .int], none⟩ := by decide +kernel
theorem pd_1 : parseMethodDescriptor "()B" = some ⟨[], some .byte⟩ := by decide +kernel
theorem pn_1 : plainName "com/example/reapd/reapd/storage/ByteReaderReadBytePinLaw" = true := by first | (simp [plainName, overriddenIn]; done) | decide +kernel
theorem ef_rm0 (m : MethodId) (x0 : Int32) (x1 : Int32) (x2 : Int32) (x3 : Int32) (f : Int32) : entryFrame m #[(.int x0), (.int x1), (.int x2), (.int x3), (.int f)] maxLocals = mkF m 0 #[.val (.int x0), .val (.int x1), .val (.int x2), .val (.int x3), .val (.int f), .unset, .unset, .unset, .unset, .unset, .unset, .unset, .unset, .unset] [] := by first | (simp [entryFrame, mkF, argsToLocals, Value.category, maxLocals]; done) | rfl
def Qrm0 (Z : State) (x0 : Int32) (x1 : Int32) (x2 : Int32) (x3 : Int32) (f : Int32) (h0 : Heap) (n0 : Nat) (rV : Option Value) (hE : Heap) (LE : List Loc) : Prop := rV = some (.int (1 : Int32)) ∧ Fr n0 LE
set_option maxRecDepth 65536 in
set_option maxHeartbeats 40000000 in
theorem rm0 (l : Launch) (Z : State) (a0 : Array Value) (hw : ∀ d ∈ tables_1, d.before a0 Z = true) (ws : List Jvm.Cond) (x0 : Int32) (x1 : Int32) (x2 : Int32) (x3 : Int32) (f : Int32) (h0 : Heap) (n0 : Nat) (Z0 : n0 ≤ h0.size) :
    MetFree l x (head1 (Jvm.Cond.code x code maxLocals ret :: ws) room_1) (fun aA UA => aA = #[(.int x0), (.int x1), (.int x2), (.int x3), (.int f)] ∧ Z.Warmed39 UA.vm ∧ UA.heap = h0) (fun _ _ _ _ _ => True) (fun _ UA oA UB => ∃ rV LE, oA = .returned rV ∧ Qrm0 Z x0 x1 x2 x3 f h0 n0 rV UB.heap LE ∧ FrameEnd UA oA UB LE room_1.cells room_1.slots) := by
  refine MetFree.of_bodySF (plainFor_of_name pn_1) hisR ?_
  intro p e s m args below meth c s₁ Bd hml0 hP hK
  obtain ⟨rfl, hZ, hh⟩ := hP
  have hx := Bd.exec
  have hby := Bd.bytes
  have hml : c.maxLocals = 14 := hml0
  have hown : s.vm.findClass "com/example/reapd/reapd/storage/ByteReaderReadBytePinLaw" = some m.cls := findClass_of_methodNamed Bd.named
  have hnm := (name_of_methodNamed Bd.named Bd.method).1
  have hlk := Bd.notSynchronized
  have X0 : Stand p l e room_1 s m #[(.int x0), (.int x1), (.int x2), (.int x3), (.int f)] below meth c s₁ [] 0 0 := Stand.of_body Bd
  have e0 : s₁.heap = h0 := by rw [← hh, Bd.state]; rfl
  have N0 := Fr.nil n0
  show Go p e below s (Qrm0 Z x0 x1 x2 x3 f h0 n0) room_1.cells room_1.slots s₁ (entryFrame m #[(.int x0), (.int x1), (.int x2), (.int x3), (.int f)] maxLocals)
  refine Go.eq (ef_rm0 m x0 x1 x2 x3 f) ?_
  show Go p e below s _ _ _ s₁ (mkF m 0 #[.val (.int x0), .val (.int x1), .val (.int x2), .val (.int x3), .val (.int f), .unset, .unset, .unset, .unset, .unset, .unset, .unset, .unset, .unset] [])
  refine Go.st (fun _ => XS.iconst X0.here hx rfl (hb hby at_0)) ?_
  show Go p e below s _ _ _ s₁ (mkF m 1 #[.val (.int x0), .val (.int x1), .val (.int x2), .val (.int x3), .val (.int f), .unset, .unset, .unset, .unset, .unset, .unset, .unset, .unset, .unset] [(.int (4 : Int32))])
  obtain ⟨T1, h1, kA1, X1, e1, E1, A1, st1⟩ := newP X0 hx hZ (hw _ (List.mem_of_getElem? (i := 0) rfl)) e0 (g := (mkF m 1 #[.val (.int x0), .val (.int x1), .val (.int x2), .val (.int x3), .val (.int f), .unset, .unset, .unset, .unset, .unset, .unset, .unset, .unset, .unset] [(.int (4 : Int32))])) rfl (hb hby at_1) rfl (by decide) (cap := 4) (by decide) (by decide) (by decide) (by decide)
  obtain ⟨b1, g1⟩ : ∃ z, z = h0.size := ⟨_, rfl⟩
  rw [← g1] at A1 st1
  refine Go.st st1 ?_
  have gg1 : n0 ≤ b1 := Nat.le_trans Z0 (Nat.le_of_eq g1.symm)
  have z1 : n0 ≤ h1.size := Nat.le_trans Z0 E1.1
  have V_b1 : Arv Z h1 b1 kA1 .byte (4 : Int32) [(.int (0 : Int32)), (.int (0 : Int32)), (.int (0 : Int32)), (.int (0 : Int32))] (.int (0 : Int32)) := (Arv.new A1 (by decide)).pad (pad_rep [] (.int (0 : Int32)) 4)
  show Go p e below s _ _ _ T1 (mkF m 3 #[.val (.int x0), .val (.int x1), .val (.int x2), .val (.int x3), .val (.int f), .unset, .unset, .unset, .unset, .unset, .unset, .unset, .unset, .unset] [(.ref b1)])
  refine Go.st (fun _ => XS.astore X1.here hx rfl (hb hby at_3) rfl rfl (l' := #[.val (.int x0), .val (.int x1), .val (.int x2), .val (.int x3), .val (.int f), .val (.ref b1), .unset, .unset, .unset, .unset, .unset, .unset, .unset, .unset]) rfl) ?_
  show Go p e below s _ _ _ T1 (mkF m 5 #[.val (.int x0), .val (.int x1), .val (.int x2), .val (.int x3), .val (.int f), .val (.ref b1), .unset, .unset, .unset, .unset, .unset, .unset, .unset, .unset] [])
  refine Go.st (fun _ => XS.aload X1.here hx rfl (hb hby at_5) rfl rfl) ?_
  show Go p e below s _ _ _ T1 (mkF m 7 #[.val (.int x0), .val (.int x1), .val (.int x2), .val (.int x3), .val (.int f), .val (.ref b1), .unset, .unset, .unset, .unset, .unset, .unset, .unset, .unset] [(.ref b1)])
  refine Go.st (fun _ => XS.iconst X1.here hx rfl (hb hby at_7)) ?_
  show Go p e below s _ _ _ T1 (mkF m 8 #[.val (.int x0), .val (.int x1), .val (.int x2), .val (.int x3), .val (.int f), .val (.ref b1), .unset, .unset, .unset, .unset, .unset, .unset, .unset, .unset] [(.int (0 : Int32)), (.ref b1)])
  refine Go.st (fun _ => XS.iloadN X1.here hx rfl (hb hby at_8) rfl) ?_
  show Go p e below s _ _ _ T1 (mkF m 9 #[.val (.int x0), .val (.int x1), .val (.int x2), .val (.int x3), .val (.int f), .val (.ref b1), .unset, .unset, .unset, .unset, .unset, .unset, .unset, .unset] [(.int x0), (.int (0 : Int32)), (.ref b1)])
  refine Go.st (fun _ => XS.i2b X1.here hx rfl (hb hby at_9) rfl) ?_
  show Go p e below s _ _ _ T1 (mkF m 10 #[.val (.int x0), .val (.int x1), .val (.int x2), .val (.int x3), .val (.int f), .val (.ref b1), .unset, .unset, .unset, .unset, .unset, .unset, .unset, .unset] [(.int (x0.toInt8.toInt32)), (.int (0 : Int32)), (.ref b1)])
  obtain ⟨cl2, Ar2, q2, S2, M2, H2, G2⟩ := id V_b1
  have hin2 : ¬ ((0 : Int32) < 0 ∨ cl2.slots.size ≤ ((0 : Int32)).toNatClampNeg) := inb_of S2 ⟨by decide, by decide⟩
  obtain ⟨T2, h2, X2, e2, W2, st2⟩ := stB X1 hx hZ e1 Ar2 (j := (0 : Int32)) hin2 (g := (mkF m 10 #[.val (.int x0), .val (.int x1), .val (.int x2), .val (.int x3), .val (.int f), .val (.ref b1), .unset, .unset, .unset, .unset, .unset, .unset, .unset, .unset] [(.int (x0.toInt8.toInt32)), (.int (0 : Int32)), (.ref b1)])) rfl rfl (hb hby at_10)
  refine Go.st st2 ?_
  rw [own_nb] at W2
  have V2 : Arv Z h2 b1 kA1 .byte (4 : Int32) [(.int (x0.toInt8.toInt32)), (.int (0 : Int32)), (.int (0 : Int32)), (.int (0 : Int32))] (.int (0 : Int32)) := Arv.set Ar2 q2 S2 M2 H2 G2 (fits_nar_byte _) W2 0 rfl (Nat.le_of_ble_eq_true rfl)
  have N2 := Fr.snoc X2 N0 gg1
  have z2 : n0 ≤ h2.size := Nat.le_trans z1 (Nat.le_of_eq W2.size.symm)
  show Go p e below s _ _ _ T2 (mkF m 11 #[.val (.int x0), .val (.int x1), .val (.int x2), .val (.int x3), .val (.int f), .val (.ref b1), .unset, .unset, .unset, .unset, .unset, .unset, .unset, .unset] [])
  refine Go.st (fun _ => XS.aload X2.here hx rfl (hb hby at_11) rfl rfl) ?_
  show Go p e below s _ _ _ T2 (mkF m 13 #[.val (.int x0), .val (.int x1), .val (.int x2), .val (.int x3), .val (.int f), .val (.ref b1), .unset, .unset, .unset, .unset, .unset, .unset, .unset, .unset] [(.ref b1)])
  refine Go.st (fun _ => XS.iconst X2.here hx rfl (hb hby at_13)) ?_
  show Go p e below s _ _ _ T2 (mkF m 14 #[.val (.int x0), .val (.int x1), .val (.int x2), .val (.int x3), .val (.int f), .val (.ref b1), .unset, .unset, .unset, .unset, .unset, .unset, .unset, .unset] [(.int (1 : Int32)), (.ref b1)])
  refine Go.st (fun _ => XS.iloadN X2.here hx rfl (hb hby at_14) rfl) ?_
  show Go p e below s _ _ _ T2 (mkF m 15 #[.val (.int x0), .val (.int x1), .val (.int x2), .val (.int x3), .val (.int f), .val (.ref b1), .unset, .unset, .unset, .unset, .unset, .unset, .unset, .unset] [(.int x1), (.int (1 : Int32)), (.ref b1)])
  refine Go.st (fun _ => XS.i2b X2.here hx rfl (hb hby at_15) rfl) ?_
  show Go p e below s _ _ _ T2 (mkF m 16 #[.val (.int x0), .val (.int x1), .val (.int x2), .val (.int x3), .val (.int f), .val (.ref b1), .unset, .unset, .unset, .unset, .unset, .unset, .unset, .unset] [(.int (x1.toInt8.toInt32)), (.int (1 : Int32)), (.ref b1)])
  obtain ⟨cl3, Ar3, q3, S3, M3, H3, G3⟩ := id V2
  have hin3 : ¬ ((1 : Int32) < 0 ∨ cl3.slots.size ≤ ((1 : Int32)).toNatClampNeg) := inb_of S3 ⟨by decide, by decide⟩
  obtain ⟨T3, h3, X3, e3, W3, st3⟩ := stB X2 hx hZ e2 Ar3 (j := (1 : Int32)) hin3 (g := (mkF m 16 #[.val (.int x0), .val (.int x1), .val (.int x2), .val (.int x3), .val (.int f), .val (.ref b1), .unset, .unset, .unset, .unset, .unset, .unset, .unset, .unset] [(.int (x1.toInt8.toInt32)), (.int (1 : Int32)), (.ref b1)])) rfl rfl (hb hby at_16)
  refine Go.st st3 ?_
  rw [own_nb] at W3
  have V3 : Arv Z h3 b1 kA1 .byte (4 : Int32) [(.int (x0.toInt8.toInt32)), (.int (x1.toInt8.toInt32)), (.int (0 : Int32)), (.int (0 : Int32))] (.int (0 : Int32)) := Arv.set Ar3 q3 S3 M3 H3 G3 (fits_nar_byte _) W3 1 rfl (Nat.le_of_ble_eq_true rfl)
  have N3 := Fr.snoc X3 N2 gg1
  have z3 : n0 ≤ h3.size := Nat.le_trans z2 (Nat.le_of_eq W3.size.symm)
  show Go p e below s _ _ _ T3 (mkF m 17 #[.val (.int x0), .val (.int x1), .val (.int x2), .val (.int x3), .val (.int f), .val (.ref b1), .unset, .unset, .unset, .unset, .unset, .unset, .unset, .unset] [])
  refine Go.st (fun _ => XS.aload X3.here hx rfl (hb hby at_17) rfl rfl) ?_
  show Go p e below s _ _ _ T3 (mkF m 19 #[.val (.int x0), .val (.int x1), .val (.int x2), .val (.int x3), .val (.int f), .val (.ref b1), .unset, .unset, .unset, .unset, .unset, .unset, .unset, .unset] [(.ref b1)])
  refine Go.st (fun _ => XS.iconst X3.here hx rfl (hb hby at_19)) ?_
  show Go p e below s _ _ _ T3 (mkF m 20 #[.val (.int x0), .val (.int x1), .val (.int x2), .val (.int x3), .val (.int f), .val (.ref b1), .unset, .unset, .unset, .unset, .unset, .unset, .unset, .unset] [(.int (2 : Int32)), (.ref b1)])
  refine Go.st (fun _ => XS.iloadN X3.here hx rfl (hb hby at_20) rfl) ?_
  show Go p e below s _ _ _ T3 (mkF m 21 #[.val (.int x0), .val (.int x1), .val (.int x2), .val (.int x3), .val (.int f), .val (.ref b1), .unset, .unset, .unset, .unset, .unset, .unset, .unset, .unset] [(.int x2), (.int (2 : Int32)), (.ref b1)])
  refine Go.st (fun _ => XS.i2b X3.here hx rfl (hb hby at_21) rfl) ?_
  show Go p e below s _ _ _ T3 (mkF m 22 #[.val (.int x0), .val (.int x1), .val (.int x2), .val (.int x3), .val (.int f), .val (.ref b1), .unset, .unset, .unset, .unset, .unset, .unset, .unset, .unset] [(.int (x2.toInt8.toInt32)), (.int (2 : Int32)), (.ref b1)])
  obtain ⟨cl4, Ar4, q4, S4, M4, H4, G4⟩ := id V3
  have hin4 : ¬ ((2 : Int32) < 0 ∨ cl4.slots.size ≤ ((2 : Int32)).toNatClampNeg) := inb_of S4 ⟨by decide, by decide⟩
  obtain ⟨T4, h4, X4, e4, W4, st4⟩ := stB X3 hx hZ e3 Ar4 (j := (2 : Int32)) hin4 (g := (mkF m 22 #[.val (.int x0), .val (.int x1), .val (.int x2), .val (.int x3), .val (.int f), .val (.ref b1), .unset, .unset, .unset, .unset, .unset, .unset, .unset, .unset] [(.int (x2.toInt8.toInt32)), (.int (2 : Int32)), (.ref b1)])) rfl rfl (hb hby at_22)
  refine Go.st st4 ?_
  rw [own_nb] at W4
  have V4 : Arv Z h4 b1 kA1 .byte (4 : Int32) [(.int (x0.toInt8.toInt32)), (.int (x1.toInt8.toInt32)), (.int (x2.toInt8.toInt32)), (.int (0 : Int32))] (.int (0 : Int32)) := Arv.set Ar4 q4 S4 M4 H4 G4 (fits_nar_byte _) W4 2 rfl (Nat.le_of_ble_eq_true rfl)
  have N4 := Fr.snoc X4 N3 gg1
  have z4 : n0 ≤ h4.size := Nat.le_trans z3 (Nat.le_of_eq W4.size.symm)
  show Go p e below s _ _ _ T4 (mkF m 23 #[.val (.int x0), .val (.int x1), .val (.int x2), .val (.int x3), .val (.int f), .val (.ref b1), .unset, .unset, .unset, .unset, .unset, .unset, .unset, .unset] [])
  refine Go.st (fun _ => XS.aload X4.here hx rfl (hb hby at_23) rfl rfl) ?_
  show Go p e below s _ _ _ T4 (mkF m 25 #[.val (.int x0), .val (.int x1), .val (.int x2), .val (.int x3), .val (.int f), .val (.ref b1), .unset, .unset, .unset, .unset, .unset, .unset, .unset, .unset] [(.ref b1)])
  refine Go.st (fun _ => XS.iconst X4.here hx rfl (hb hby at_25)) ?_
  show Go p e below s _ _ _ T4 (mkF m 26 #[.val (.int x0), .val (.int x1), .val (.int x2), .val (.int x3), .val (.int f), .val (.ref b1), .unset, .unset, .unset, .unset, .unset, .unset, .unset, .unset] [(.int (3 : Int32)), (.ref b1)])
  refine Go.st (fun _ => XS.iloadN X4.here hx rfl (hb hby at_26) rfl) ?_
  show Go p e below s _ _ _ T4 (mkF m 27 #[.val (.int x0), .val (.int x1), .val (.int x2), .val (.int x3), .val (.int f), .val (.ref b1), .unset, .unset, .unset, .unset, .unset, .unset, .unset, .unset] [(.int x3), (.int (3 : Int32)), (.ref b1)])
  refine Go.st (fun _ => XS.i2b X4.here hx rfl (hb hby at_27) rfl) ?_
  show Go p e below s _ _ _ T4 (mkF m 28 #[.val (.int x0), .val (.int x1), .val (.int x2), .val (.int x3), .val (.int f), .val (.ref b1), .unset, .unset, .unset, .unset, .unset, .unset, .unset, .unset] [(.int (x3.toInt8.toInt32)), (.int (3 : Int32)), (.ref b1)])
  obtain ⟨cl5, Ar5, q5, S5, M5, H5, G5⟩ := id V4
  have hin5 : ¬ ((3 : Int32) < 0 ∨ cl5.slots.size ≤ ((3 : Int32)).toNatClampNeg) := inb_of S5 ⟨by decide, by decide⟩
  obtain ⟨T5, h5, X5, e5, W5, st5⟩ := stB X4 hx hZ e4 Ar5 (j := (3 : Int32)) hin5 (g := (mkF m 28 #[.val (.int x0), .val (.int x1), .val (.int x2), .val (.int x3), .val (.int f), .val (.ref b1), .unset, .unset, .unset, .unset, .unset, .unset, .unset, .unset] [(.int (x3.toInt8.toInt32)), (.int (3 : Int32)), (.ref b1)])) rfl rfl (hb hby at_28)
  refine Go.st st5 ?_
  rw [own_nb] at W5
  have V5 : Arv Z h5 b1 kA1 .byte (4 : Int32) [(.int (x0.toInt8.toInt32)), (.int (x1.toInt8.toInt32)), (.int (x2.toInt8.toInt32)), (.int (x3.toInt8.toInt32))] (.int (0 : Int32)) := Arv.set Ar5 q5 S5 M5 H5 G5 (fits_nar_byte _) W5 3 rfl (Nat.le_of_ble_eq_true rfl)
  have N5 := Fr.snoc X5 N4 gg1
  have z5 : n0 ≤ h5.size := Nat.le_trans z4 (Nat.le_of_eq W5.size.symm)
  show Go p e below s _ _ _ T5 (mkF m 29 #[.val (.int x0), .val (.int x1), .val (.int x2), .val (.int x3), .val (.int f), .val (.ref b1), .unset, .unset, .unset, .unset, .unset, .unset, .unset, .unset] [])
  refine Go.st (fun _ => XS.iload X5.here hx rfl (hb hby at_29) rfl) ?_
  show Go p e below s _ _ _ T5 (mkF m 31 #[.val (.int x0), .val (.int x1), .val (.int x2), .val (.int x3), .val (.int f), .val (.ref b1), .unset, .unset, .unset, .unset, .unset, .unset, .unset, .unset] [(.int f)])
  refine Go.st (fun _ => XS.iconst X5.here hx rfl (hb hby at_31)) ?_
  show Go p e below s _ _ _ T5 (mkF m 32 #[.val (.int x0), .val (.int x1), .val (.int x2), .val (.int x3), .val (.int f), .val (.ref b1), .unset, .unset, .unset, .unset, .unset, .unset, .unset, .unset] [(.int (1 : Int32)), (.int f)])
  refine Go.st (fun _ => XS.iand X5.here hx rfl (hb hby at_32) rfl) ?_
  show Go p e below s _ _ _ T5 (mkF m 33 #[.val (.int x0), .val (.int x1), .val (.int x2), .val (.int x3), .val (.int f), .val (.ref b1), .unset, .unset, .unset, .unset, .unset, .unset, .unset, .unset] [(.int (f &&& (1 : Int32)))])
  rcases own_and1 f with hd6 | hd6
  · rw [show (f &&& (1 : Int32)) = (0 : Int32) from hd6]
    show Go p e below s _ _ _ T5 (mkF m 33 #[.val (.int x0), .val (.int x1), .val (.int x2), .val (.int x3), .val (.int f), .val (.ref b1), .unset, .unset, .unset, .unset, .unset, .unset, .unset, .unset] [(.int (0 : Int32))])
    refine Go.st (fun _ => XS.istore X5.here hx rfl (hb hby at_33) rfl (l' := #[.val (.int x0), .val (.int x1), .val (.int x2), .val (.int x3), .val (.int f), .val (.ref b1), .val (.int (0 : Int32)), .unset, .unset, .unset, .unset, .unset, .unset, .unset]) rfl) ?_
    show Go p e below s _ _ _ T5 (mkF m 35 #[.val (.int x0), .val (.int x1), .val (.int x2), .val (.int x3), .val (.int f), .val (.ref b1), .val (.int (0 : Int32)), .unset, .unset, .unset, .unset, .unset, .unset, .unset] [])
    refine Go.st (fun _ => XS.aload X5.here hx rfl (hb hby at_35) rfl rfl) ?_
    show Go p e below s _ _ _ T5 (mkF m 37 #[.val (.int x0), .val (.int x1), .val (.int x2), .val (.int x3), .val (.int f), .val (.ref b1), .val (.int (0 : Int32)), .unset, .unset, .unset, .unset, .unset, .unset, .unset] [(.ref b1)])
    refine Go.st (fun _ => XS.iload X5.here hx rfl (hb hby at_37) rfl) ?_
    show Go p e below s _ _ _ T5 (mkF m 39 #[.val (.int x0), .val (.int x1), .val (.int x2), .val (.int x3), .val (.int f), .val (.ref b1), .val (.int (0 : Int32)), .unset, .unset, .unset, .unset, .unset, .unset, .unset] [(.int (0 : Int32)), (.ref b1)])
    obtain ⟨cl7, Ar7, q7, S7, M7, H7, G7⟩ := id V5
    have hin7 : ¬ ((0 : Int32) < 0 ∨ cl7.slots.size ≤ ((0 : Int32)).toNatClampNeg) := inb_of S7 ⟨by decide, by decide⟩
    have hat7 : cl7.slots[((0 : Int32)).toNatClampNeg]? = some (.int (x0.toInt8.toInt32)) := H7.at hin7 rfl
    refine Go.st (fun tG => X5.baloadBytes hx (j := (0 : Int32)) (v := (.int (x0.toInt8.toInt32))) (by rw [e5]; exact Ar7.1) (State.isArrayOf_alike hZ.alike Ar7.2.1) Ar7.2.2 hin7 hat7 (g := (mkF m 39 #[.val (.int x0), .val (.int x1), .val (.int x2), .val (.int x3), .val (.int f), .val (.ref b1), .val (.int (0 : Int32)), .unset, .unset, .unset, .unset, .unset, .unset, .unset] [(.int (0 : Int32)), (.ref b1)])) rfl rfl (hb hby at_39) tG) ?_
    show Go p e below s _ _ _ T5 (mkF m 40 #[.val (.int x0), .val (.int x1), .val (.int x2), .val (.int x3), .val (.int f), .val (.ref b1), .val (.int (0 : Int32)), .unset, .unset, .unset, .unset, .unset, .unset, .unset] [(.int (x0.toInt8.toInt32))])
    refine Go.st (fun _ => XS.istore X5.here hx rfl (hb hby at_40) rfl (l' := #[.val (.int x0), .val (.int x1), .val (.int x2), .val (.int x3), .val (.int f), .val (.ref b1), .val (.int (0 : Int32)), .val (.int (x0.toInt8.toInt32)), .unset, .unset, .unset, .unset, .unset, .unset]) rfl) ?_
    show Go p e below s _ _ _ T5 (mkF m 42 #[.val (.int x0), .val (.int x1), .val (.int x2), .val (.int x3), .val (.int f), .val (.ref b1), .val (.int (0 : Int32)), .val (.int (x0.toInt8.toInt32)), .unset, .unset, .unset, .unset, .unset, .unset] [])
    refine Go.st (fun _ => XS.aload X5.here hx rfl (hb hby at_42) rfl rfl) ?_
    show Go p e below s _ _ _ T5 (mkF m 44 #[.val (.int x0), .val (.int x1), .val (.int x2), .val (.int x3), .val (.int f), .val (.ref b1), .val (.int (0 : Int32)), .val (.int (x0.toInt8.toInt32)), .unset, .unset, .unset, .unset, .unset, .unset] [(.ref b1)])
    refine Go.st (fun _ => XS.iload X5.here hx rfl (hb hby at_44) rfl) ?_
    show Go p e below s _ _ _ T5 (mkF m 46 #[.val (.int x0), .val (.int x1), .val (.int x2), .val (.int x3), .val (.int f), .val (.ref b1), .val (.int (0 : Int32)), .val (.int (x0.toInt8.toInt32)), .unset, .unset, .unset, .unset, .unset, .unset] [(.int (0 : Int32)), (.ref b1)])
    refine Go.st (fun _ => XS.iconst X5.here hx rfl (hb hby at_46)) ?_
    show Go p e below s _ _ _ T5 (mkF m 47 #[.val (.int x0), .val (.int x1), .val (.int x2), .val (.int x3), .val (.int f), .val (.ref b1), .val (.int (0 : Int32)), .val (.int (x0.toInt8.toInt32)), .unset, .unset, .unset, .unset, .unset, .unset] [(.int (1 : Int32)), (.int (0 : Int32)), (.ref b1)])
    refine Go.st (fun _ => XS.iadd X5.here hx rfl (hb hby at_47) rfl) ?_
    show Go p e below s _ _ _ T5 (mkF m 48 #[.val (.int x0), .val (.int x1), .val (.int x2), .val (.int x3), .val (.int f), .val (.ref b1), .val (.int (0 : Int32)), .val (.int (x0.toInt8.toInt32)), .unset, .unset, .unset, .unset, .unset, .unset] [(.int ((0 : Int32) + (1 : Int32))), (.ref b1)])
    rw [show ((0 : Int32) + (1 : Int32)) = (1 : Int32) from by decide]
    show Go p e below s _ _ _ T5 (mkF m 48 #[.val (.int x0), .val (.int x1), .val (.int x2), .val (.int x3), .val (.int f), .val (.ref b1), .val (.int (0 : Int32)), .val (.int (x0.toInt8.toInt32)), .unset, .unset, .unset, .unset, .unset, .unset] [(.int (1 : Int32)), (.ref b1)])
    obtain ⟨cl8, Ar8, q8, S8, M8, H8, G8⟩ := id V5
    have hin8 : ¬ ((1 : Int32) < 0 ∨ cl8.slots.size ≤ ((1 : Int32)).toNatClampNeg) := inb_of S8 ⟨by decide, by decide⟩
    have hat8 : cl8.slots[((1 : Int32)).toNatClampNeg]? = some (.int (x1.toInt8.toInt32)) := H8.at hin8 rfl
    refine Go.st (fun tG => X5.baloadBytes hx (j := (1 : Int32)) (v := (.int (x1.toInt8.toInt32))) (by rw [e5]; exact Ar8.1) (State.isArrayOf_alike hZ.alike Ar8.2.1) Ar8.2.2 hin8 hat8 (g := (mkF m 48 #[.val (.int x0), .val (.int x1), .val (.int x2), .val (.int x3), .val (.int f), .val (.ref b1), .val (.int (0 : Int32)), .val (.int (x0.toInt8.toInt32)), .unset, .unset, .unset, .unset, .unset, .unset] [(.int (1 : Int32)), (.ref b1)])) rfl rfl (hb hby at_48) tG) ?_
    show Go p e below s _ _ _ T5 (mkF m 49 #[.val (.int x0), .val (.int x1), .val (.int x2), .val (.int x3), .val (.int f), .val (.ref b1), .val (.int (0 : Int32)), .val (.int (x0.toInt8.toInt32)), .unset, .unset, .unset, .unset, .unset, .unset] [(.int (x1.toInt8.toInt32))])
    refine Go.st (fun _ => XS.istore X5.here hx rfl (hb hby at_49) rfl (l' := #[.val (.int x0), .val (.int x1), .val (.int x2), .val (.int x3), .val (.int f), .val (.ref b1), .val (.int (0 : Int32)), .val (.int (x0.toInt8.toInt32)), .val (.int (x1.toInt8.toInt32)), .unset, .unset, .unset, .unset, .unset]) rfl) ?_
    show Go p e below s _ _ _ T5 (mkF m 51 #[.val (.int x0), .val (.int x1), .val (.int x2), .val (.int x3), .val (.int f), .val (.ref b1), .val (.int (0 : Int32)), .val (.int (x0.toInt8.toInt32)), .val (.int (x1.toInt8.toInt32)), .unset, .unset, .unset, .unset, .unset] [])
    refine Go.st (fun _ => XS.aload X5.here hx rfl (hb hby at_51) rfl rfl) ?_
    show Go p e below s _ _ _ T5 (mkF m 53 #[.val (.int x0), .val (.int x1), .val (.int x2), .val (.int x3), .val (.int f), .val (.ref b1), .val (.int (0 : Int32)), .val (.int (x0.toInt8.toInt32)), .val (.int (x1.toInt8.toInt32)), .unset, .unset, .unset, .unset, .unset] [(.ref b1)])
    refine Go.st (fun _ => XS.iload X5.here hx rfl (hb hby at_53) rfl) ?_
    show Go p e below s _ _ _ T5 (mkF m 55 #[.val (.int x0), .val (.int x1), .val (.int x2), .val (.int x3), .val (.int f), .val (.ref b1), .val (.int (0 : Int32)), .val (.int (x0.toInt8.toInt32)), .val (.int (x1.toInt8.toInt32)), .unset, .unset, .unset, .unset, .unset] [(.int (0 : Int32)), (.ref b1)])
    refine Go.st (fun _ => XS.iconst X5.here hx rfl (hb hby at_55)) ?_
    show Go p e below s _ _ _ T5 (mkF m 56 #[.val (.int x0), .val (.int x1), .val (.int x2), .val (.int x3), .val (.int f), .val (.ref b1), .val (.int (0 : Int32)), .val (.int (x0.toInt8.toInt32)), .val (.int (x1.toInt8.toInt32)), .unset, .unset, .unset, .unset, .unset] [(.int (2 : Int32)), (.int (0 : Int32)), (.ref b1)])
    refine Go.st (fun _ => XS.iadd X5.here hx rfl (hb hby at_56) rfl) ?_
    show Go p e below s _ _ _ T5 (mkF m 57 #[.val (.int x0), .val (.int x1), .val (.int x2), .val (.int x3), .val (.int f), .val (.ref b1), .val (.int (0 : Int32)), .val (.int (x0.toInt8.toInt32)), .val (.int (x1.toInt8.toInt32)), .unset, .unset, .unset, .unset, .unset] [(.int ((0 : Int32) + (2 : Int32))), (.ref b1)])
    rw [show ((0 : Int32) + (2 : Int32)) = (2 : Int32) from by decide]
    show Go p e below s _ _ _ T5 (mkF m 57 #[.val (.int x0), .val (.int x1), .val (.int x2), .val (.int x3), .val (.int f), .val (.ref b1), .val (.int (0 : Int32)), .val (.int (x0.toInt8.toInt32)), .val (.int (x1.toInt8.toInt32)), .unset, .unset, .unset, .unset, .unset] [(.int (2 : Int32)), (.ref b1)])
    obtain ⟨cl9, Ar9, q9, S9, M9, H9, G9⟩ := id V5
    have hin9 : ¬ ((2 : Int32) < 0 ∨ cl9.slots.size ≤ ((2 : Int32)).toNatClampNeg) := inb_of S9 ⟨by decide, by decide⟩
    have hat9 : cl9.slots[((2 : Int32)).toNatClampNeg]? = some (.int (x2.toInt8.toInt32)) := H9.at hin9 rfl
    refine Go.st (fun tG => X5.baloadBytes hx (j := (2 : Int32)) (v := (.int (x2.toInt8.toInt32))) (by rw [e5]; exact Ar9.1) (State.isArrayOf_alike hZ.alike Ar9.2.1) Ar9.2.2 hin9 hat9 (g := (mkF m 57 #[.val (.int x0), .val (.int x1), .val (.int x2), .val (.int x3), .val (.int f), .val (.ref b1), .val (.int (0 : Int32)), .val (.int (x0.toInt8.toInt32)), .val (.int (x1.toInt8.toInt32)), .unset, .unset, .unset, .unset, .unset] [(.int (2 : Int32)), (.ref b1)])) rfl rfl (hb hby at_57) tG) ?_
    show Go p e below s _ _ _ T5 (mkF m 58 #[.val (.int x0), .val (.int x1), .val (.int x2), .val (.int x3), .val (.int f), .val (.ref b1), .val (.int (0 : Int32)), .val (.int (x0.toInt8.toInt32)), .val (.int (x1.toInt8.toInt32)), .unset, .unset, .unset, .unset, .unset] [(.int (x2.toInt8.toInt32))])
    refine Go.st (fun _ => XS.istore X5.here hx rfl (hb hby at_58) rfl (l' := #[.val (.int x0), .val (.int x1), .val (.int x2), .val (.int x3), .val (.int f), .val (.ref b1), .val (.int (0 : Int32)), .val (.int (x0.toInt8.toInt32)), .val (.int (x1.toInt8.toInt32)), .val (.int (x2.toInt8.toInt32)), .unset, .unset, .unset, .unset]) rfl) ?_
    show Go p e below s _ _ _ T5 (mkF m 60 #[.val (.int x0), .val (.int x1), .val (.int x2), .val (.int x3), .val (.int f), .val (.ref b1), .val (.int (0 : Int32)), .val (.int (x0.toInt8.toInt32)), .val (.int (x1.toInt8.toInt32)), .val (.int (x2.toInt8.toInt32)), .unset, .unset, .unset, .unset] [])
    obtain ⟨T10, h10, X10, e10, E10, A10, D10, -, st10⟩ := newO X5 hx hZ hown (hw _ (List.mem_of_getElem? (i := 1) rfl)) (hw _ (List.mem_of_getElem? (i := 2) rfl)) (hw _ (List.mem_of_getElem? (i := 3) rfl)) e5 (g := (mkF m 60 #[.val (.int x0), .val (.int x1), .val (.int x2), .val (.int x3), .val (.int f), .val (.ref b1), .val (.int (0 : Int32)), .val (.int (x0.toInt8.toInt32)), .val (.int (x1.toInt8.toInt32)), .val (.int (x2.toInt8.toInt32)), .unset, .unset, .unset, .unset] [])) rfl (hb hby at_60) (by decide) (by decide)
    obtain ⟨b10, g10⟩ : ∃ z, z = h5.size := ⟨_, rfl⟩
    rw [← g10] at A10 D10 st10
    refine Go.st st10 ?_
    have ne_b1_b10 : b1 ≠ b10 := Nat.ne_of_lt (Nat.lt_of_lt_of_eq V5.lt g10.symm)
    have gg10 : n0 ≤ b10 := Nat.le_trans z5 (Nat.le_of_eq g10.symm)
    have z10 : n0 ≤ h10.size := Nat.le_trans z5 E10.1
    have F_bytes_b10 : Fld Z h10 b10 "com/example/reapd/reapd/storage/ByteReader" "bytes" "[B" .null := D10 (Or.inr (hw _ (List.mem_of_getElem? (i := 11) rfl))) (ty := (.array .byte)) (by decide)
    have F_first_b10 : Fld Z h10 b10 "com/example/reapd/reapd/storage/ByteReader" "first" "I" (.int (0 : Int32)) := D10 (Or.inr (hw _ (List.mem_of_getElem? (i := 13) rfl))) (ty := .int) (by decide)
    have F_next_b10 : Fld Z h10 b10 "com/example/reapd/reapd/storage/ByteReader" "next" "I" (.int (0 : Int32)) := D10 (Or.inl (hw _ (List.mem_of_getElem? (i := 15) rfl))) (ty := .int) (by decide)
    show Go p e below s _ _ _ T10 (mkF m 63 #[.val (.int x0), .val (.int x1), .val (.int x2), .val (.int x3), .val (.int f), .val (.ref b1), .val (.int (0 : Int32)), .val (.int (x0.toInt8.toInt32)), .val (.int (x1.toInt8.toInt32)), .val (.int (x2.toInt8.toInt32)), .unset, .unset, .unset, .unset] [(.ref b10)])
    refine Go.st (fun _ => XS.dup X10.here hx rfl (hb hby at_63) rfl rfl) ?_
    show Go p e below s _ _ _ T10 (mkF m 64 #[.val (.int x0), .val (.int x1), .val (.int x2), .val (.int x3), .val (.int f), .val (.ref b1), .val (.int (0 : Int32)), .val (.int (x0.toInt8.toInt32)), .val (.int (x1.toInt8.toInt32)), .val (.int (x2.toInt8.toInt32)), .unset, .unset, .unset, .unset] [(.ref b10), (.ref b10)])
    refine Go.st (fun _ => XS.aload X10.here hx rfl (hb hby at_64) rfl rfl) ?_
    show Go p e below s _ _ _ T10 (mkF m 66 #[.val (.int x0), .val (.int x1), .val (.int x2), .val (.int x3), .val (.int f), .val (.ref b1), .val (.int (0 : Int32)), .val (.int (x0.toInt8.toInt32)), .val (.int (x1.toInt8.toInt32)), .val (.int (x2.toInt8.toInt32)), .unset, .unset, .unset, .unset] [(.ref b1), (.ref b10), (.ref b10)])
    refine Go.st (fun _ => XS.iload X10.here hx rfl (hb hby at_66) rfl) ?_
    show Go p e below s _ _ _ T10 (mkF m 68 #[.val (.int x0), .val (.int x1), .val (.int x2), .val (.int x3), .val (.int f), .val (.ref b1), .val (.int (0 : Int32)), .val (.int (x0.toInt8.toInt32)), .val (.int (x1.toInt8.toInt32)), .val (.int (x2.toInt8.toInt32)), .unset, .unset, .unset, .unset] [(.int (0 : Int32)), (.ref b1), (.ref b10), (.ref b10)])
    obtain ⟨_, _, ⟨T11, L11, kc11, nc11⟩, -, X11, ⟨Lc11, hQ11, l11, y11, z11⟩, st11⟩ := X10.specialBack hx (y := (⟨"com/example/reapd/reapd/storage/ByteReader", "<init>", "([BI)V"⟩ : MethodName)) rfl hown (mvT hZ (hw _ (List.mem_of_getElem? (i := 4) rfl))) (mvT hZ (hw _ (List.mem_of_getElem? (i := 5) rfl))) (mvT hZ (hw _ (List.mem_of_getElem? (i := 6) rfl))) (by decide) (backOf (W := 1) (rm1 l Z a0 hw [] b10 b1 (0 : Int32) h10 n0 z10 A10 F_bytes_b10 F_first_b10 F_next_b10 gg10) hZ (hw _ (List.mem_of_getElem? (i := 6) rfl)) (hw _ (List.mem_of_getElem? (i := 3) rfl)) (by decide) (by decide)) (g := (mkF m 68 #[.val (.int x0), .val (.int x1), .val (.int x2), .val (.int x3), .val (.int f), .val (.ref b1), .val (.int (0 : Int32)), .val (.int (x0.toInt8.toInt32)), .val (.int (x1.toInt8.toInt32)), .val (.int (x2.toInt8.toInt32)), .unset, .unset, .unset, .unset] [(.int (0 : Int32)), (.ref b1), (.ref b10), (.ref b10)])) rfl (by rw [hml]; rfl) (Steps.refl _) (a := b10) (argsL := [(.ref b1), (.int (0 : Int32))]) (rest := [(.ref b10)]) (lenOf pd_0 rfl) rfl (by show 2 * 0 + _ ≤ _; exact Nat.le_of_eq rfl) (hb hby at_68) (fun _ _ => ⟨rfl, e10, (by decide : 2 + 0 ≤ _), (by decide : 7 + 0 ≤ _)⟩)
    dsimp only [Pt.U, Pt.locs, Pt.cells, Pt.slots] at X11 l11 y11 z11 st11 hQ11
    subst l11 y11 z11
    obtain ⟨h11, e11⟩ : ∃ hh, T11.heap = hh := ⟨_, rfl⟩
    rw [e11] at hQ11
    obtain ⟨rfl, N11q, K11, p11_0, p11_1, p11_2⟩ := hQ11
    have N11 := Fr.app N5 N11q
    refine Go.st (fun _ kk => st11.trans kk) ?_
    have z11q : n0 ≤ h11.size := Nat.le_trans z10 K11.1
    show Go p e below s _ _ _ T11 (mkF m 71 #[.val (.int x0), .val (.int x1), .val (.int x2), .val (.int x3), .val (.int f), .val (.ref b1), .val (.int (0 : Int32)), .val (.int (x0.toInt8.toInt32)), .val (.int (x1.toInt8.toInt32)), .val (.int (x2.toInt8.toInt32)), .unset, .unset, .unset, .unset] [(.ref b10)])
    refine Go.st (fun _ => XS.astore X11.here hx rfl (hb hby at_71) rfl rfl (l' := #[.val (.int x0), .val (.int x1), .val (.int x2), .val (.int x3), .val (.int f), .val (.ref b1), .val (.int (0 : Int32)), .val (.int (x0.toInt8.toInt32)), .val (.int (x1.toInt8.toInt32)), .val (.int (x2.toInt8.toInt32)), .val (.ref b10), .unset, .unset, .unset]) rfl) ?_
    show Go p e below s _ _ _ T11 (mkF m 73 #[.val (.int x0), .val (.int x1), .val (.int x2), .val (.int x3), .val (.int f), .val (.ref b1), .val (.int (0 : Int32)), .val (.int (x0.toInt8.toInt32)), .val (.int (x1.toInt8.toInt32)), .val (.int (x2.toInt8.toInt32)), .val (.ref b10), .unset, .unset, .unset] [])
    refine Go.st (fun _ => XS.aload X11.here hx rfl (hb hby at_73) rfl rfl) ?_
    show Go p e below s _ _ _ T11 (mkF m 75 #[.val (.int x0), .val (.int x1), .val (.int x2), .val (.int x3), .val (.int f), .val (.ref b1), .val (.int (0 : Int32)), .val (.int (x0.toInt8.toInt32)), .val (.int (x1.toInt8.toInt32)), .val (.int (x2.toInt8.toInt32)), .val (.ref b10), .unset, .unset, .unset] [(.ref b10)])
    have f13 := ((V5.ext E10).keep K11 (ninS ne_b1_b10 nin0))
    obtain ⟨cq12, kq12, q12a, q12b, q12c⟩ := isOf hZ e11 p11_0
    obtain ⟨_, _, ⟨T12, L12, kc12, nc12⟩, -, X12, ⟨Lc12, hQ12, l12, y12, z12⟩, st12⟩ := X11.virtualBack hx (y := (⟨"com/example/reapd/reapd/storage/ByteReader", "readByte", "()B"⟩ : MethodName)) (z := (⟨"com/example/reapd/reapd/storage/ByteReader", "readByte", "()B"⟩ : MethodName)) hown (mvT hZ (hw _ (List.mem_of_getElem? (i := 16) rfl))) (mvT hZ (hw _ (List.mem_of_getElem? (i := 17) rfl))) (notFace_of_selects (args := #[]) (mvT hZ (hw _ (List.mem_of_getElem? (i := 19) rfl)))) (mvT hZ (hw _ (List.mem_of_getElem? (i := 19) rfl))) (mvT hZ (hw _ (List.mem_of_getElem? (i := 18) rfl))) (by decide) (backOf (W := 0) (rm3 l Z a0 hw [] b10 b1 kA1 (4 : Int32) [(.int (x0.toInt8.toInt32)), (.int (x1.toInt8.toInt32)), (.int (x2.toInt8.toInt32)), (.int (x3.toInt8.toInt32))] (.int (0 : Int32)) (0 : Int32) (x0.toInt8.toInt32) h11 n0 z11q p11_0 p11_1 p11_2 f13 gg10 ne_b1_b10 (by decide) rfl (own_nbv _)) hZ (hw _ (List.mem_of_getElem? (i := 20) rfl)) (hw _ (List.mem_of_getElem? (i := 3) rfl)) (by decide) (by decide)) q12a q12c (g := (mkF m 75 #[.val (.int x0), .val (.int x1), .val (.int x2), .val (.int x3), .val (.int f), .val (.ref b1), .val (.int (0 : Int32)), .val (.int (x0.toInt8.toInt32)), .val (.int (x1.toInt8.toInt32)), .val (.int (x2.toInt8.toInt32)), .val (.ref b10), .unset, .unset, .unset] [(.ref b10)])) rfl (by rw [hml]; rfl) (Steps.refl _) (argsL := []) (rest := []) (lenOf pd_1 rfl) rfl (by show 2 * 0 + _ ≤ _; exact Nat.le_of_eq rfl) (hb hby at_75) (fun _ _ => ⟨rfl, e11, (by decide : 2 + 0 ≤ _), (by decide : 7 + 0 ≤ _)⟩)
    dsimp only [Pt.U, Pt.locs, Pt.cells, Pt.slots] at X12 l12 y12 z12 st12 hQ12
    subst l12 y12 z12
    obtain ⟨h12, e12⟩ : ∃ hh, T12.heap = hh := ⟨_, rfl⟩
    rw [e12] at hQ12
    obtain ⟨rfl, N12q, K12, p12_0, p12_1, p12_2⟩ := hQ12
    have N12 := Fr.app N11 N12q
    refine Go.st (fun _ kk => st12.trans kk) ?_
    have z12q : n0 ≤ h12.size := Nat.le_trans z11q K12.1
    rw [show ((0 : Int32) + (1 : Int32)) = (1 : Int32) from by decide] at p12_2
    show Go p e below s _ _ _ T12 (mkF m 78 #[.val (.int x0), .val (.int x1), .val (.int x2), .val (.int x3), .val (.int f), .val (.ref b1), .val (.int (0 : Int32)), .val (.int (x0.toInt8.toInt32)), .val (.int (x1.toInt8.toInt32)), .val (.int (x2.toInt8.toInt32)), .val (.ref b10), .unset, .unset, .unset] [(.int (x0.toInt8.toInt32))])
    refine Go.st (fun _ => XS.istore X12.here hx rfl (hb hby at_78) rfl (l' := #[.val (.int x0), .val (.int x1), .val (.int x2), .val (.int x3), .val (.int f), .val (.ref b1), .val (.int (0 : Int32)), .val (.int (x0.toInt8.toInt32)), .val (.int (x1.toInt8.toInt32)), .val (.int (x2.toInt8.toInt32)), .val (.ref b10), .val (.int (x0.toInt8.toInt32)), .unset, .unset]) rfl) ?_
    show Go p e below s _ _ _ T12 (mkF m 80 #[.val (.int x0), .val (.int x1), .val (.int x2), .val (.int x3), .val (.int f), .val (.ref b1), .val (.int (0 : Int32)), .val (.int (x0.toInt8.toInt32)), .val (.int (x1.toInt8.toInt32)), .val (.int (x2.toInt8.toInt32)), .val (.ref b10), .val (.int (x0.toInt8.toInt32)), .unset, .unset] [])
    refine Go.st (fun _ => XS.aload X12.here hx rfl (hb hby at_80) rfl rfl) ?_
    show Go p e below s _ _ _ T12 (mkF m 82 #[.val (.int x0), .val (.int x1), .val (.int x2), .val (.int x3), .val (.int f), .val (.ref b1), .val (.int (0 : Int32)), .val (.int (x0.toInt8.toInt32)), .val (.int (x1.toInt8.toInt32)), .val (.int (x2.toInt8.toInt32)), .val (.ref b10), .val (.int (x0.toInt8.toInt32)), .unset, .unset] [(.ref b10)])
    have f15 := (f13.keep K12 (ninS ne_b1_b10 nin0))
    obtain ⟨cq14, kq14, q14a, q14b, q14c⟩ := isOf hZ e12 p12_0
    obtain ⟨_, _, ⟨T14, L14, kc14, nc14⟩, -, X14, ⟨Lc14, hQ14, l14, y14, z14⟩, st14⟩ := X12.virtualBack hx (y := (⟨"com/example/reapd/reapd/storage/ByteReader", "readByte", "()B"⟩ : MethodName)) (z := (⟨"com/example/reapd/reapd/storage/ByteReader", "readByte", "()B"⟩ : MethodName)) hown (mvT hZ (hw _ (List.mem_of_getElem? (i := 16) rfl))) (mvT hZ (hw _ (List.mem_of_getElem? (i := 17) rfl))) (notFace_of_selects (args := #[]) (mvT hZ (hw _ (List.mem_of_getElem? (i := 19) rfl)))) (mvT hZ (hw _ (List.mem_of_getElem? (i := 19) rfl))) (mvT hZ (hw _ (List.mem_of_getElem? (i := 18) rfl))) (by decide) (backOf (W := 0) (rm3 l Z a0 hw [] b10 b1 kA1 (4 : Int32) [(.int (x0.toInt8.toInt32)), (.int (x1.toInt8.toInt32)), (.int (x2.toInt8.toInt32)), (.int (x3.toInt8.toInt32))] (.int (0 : Int32)) (1 : Int32) (x1.toInt8.toInt32) h12 n0 z12q p12_0 p12_1 p12_2 f15 gg10 ne_b1_b10 (by decide) rfl (own_nbv _)) hZ (hw _ (List.mem_of_getElem? (i := 20) rfl)) (hw _ (List.mem_of_getElem? (i := 3) rfl)) (by decide) (by decide)) q14a q14c (g := (mkF m 82 #[.val (.int x0), .val (.int x1), .val (.int x2), .val (.int x3), .val (.int f), .val (.ref b1), .val (.int (0 : Int32)), .val (.int (x0.toInt8.toInt32)), .val (.int (x1.toInt8.toInt32)), .val (.int (x2.toInt8.toInt32)), .val (.ref b10), .val (.int (x0.toInt8.toInt32)), .unset, .unset] [(.ref b10)])) rfl (by rw [hml]; rfl) (Steps.refl _) (argsL := []) (rest := []) (lenOf pd_1 rfl) rfl (by show 2 * 0 + _ ≤ _; exact Nat.le_of_eq rfl) (hb hby at_82) (fun _ _ => ⟨rfl, e12, (by decide : 2 + 0 ≤ _), (by decide : 7 + 0 ≤ _)⟩)
    dsimp only [Pt.U, Pt.locs, Pt.cells, Pt.slots] at X14 l14 y14 z14 st14 hQ14
    subst l14 y14 z14
    obtain ⟨h14, e14⟩ : ∃ hh, T14.heap = hh := ⟨_, rfl⟩
    rw [e14] at hQ14
    obtain ⟨rfl, N14q, K14, p14_0, p14_1, p14_2⟩ := hQ14
    have N14 := Fr.app N12 N14q
    refine Go.st (fun _ kk => st14.trans kk) ?_
    have z14q : n0 ≤ h14.size := Nat.le_trans z12q K14.1
    rw [show ((1 : Int32) + (1 : Int32)) = (2 : Int32) from by decide] at p14_2
    show Go p e below s _ _ _ T14 (mkF m 85 #[.val (.int x0), .val (.int x1), .val (.int x2), .val (.int x3), .val (.int f), .val (.ref b1), .val (.int (0 : Int32)), .val (.int (x0.toInt8.toInt32)), .val (.int (x1.toInt8.toInt32)), .val (.int (x2.toInt8.toInt32)), .val (.ref b10), .val (.int (x0.toInt8.toInt32)), .unset, .unset] [(.int (x1.toInt8.toInt32))])
    refine Go.st (fun _ => XS.istore X14.here hx rfl (hb hby at_85) rfl (l' := #[.val (.int x0), .val (.int x1), .val (.int x2), .val (.int x3), .val (.int f), .val (.ref b1), .val (.int (0 : Int32)), .val (.int (x0.toInt8.toInt32)), .val (.int (x1.toInt8.toInt32)), .val (.int (x2.toInt8.toInt32)), .val (.ref b10), .val (.int (x0.toInt8.toInt32)), .val (.int (x1.toInt8.toInt32)), .unset]) rfl) ?_
    show Go p e below s _ _ _ T14 (mkF m 87 #[.val (.int x0), .val (.int x1), .val (.int x2), .val (.int x3), .val (.int f), .val (.ref b1), .val (.int (0 : Int32)), .val (.int (x0.toInt8.toInt32)), .val (.int (x1.toInt8.toInt32)), .val (.int (x2.toInt8.toInt32)), .val (.ref b10), .val (.int (x0.toInt8.toInt32)), .val (.int (x1.toInt8.toInt32)), .unset] [])
    refine Go.st (fun _ => XS.aload X14.here hx rfl (hb hby at_87) rfl rfl) ?_
    show Go p e below s _ _ _ T14 (mkF m 89 #[.val (.int x0), .val (.int x1), .val (.int x2), .val (.int x3), .val (.int f), .val (.ref b1), .val (.int (0 : Int32)), .val (.int (x0.toInt8.toInt32)), .val (.int (x1.toInt8.toInt32)), .val (.int (x2.toInt8.toInt32)), .val (.ref b10), .val (.int (x0.toInt8.toInt32)), .val (.int (x1.toInt8.toInt32)), .unset] [(.ref b10)])
    have f17 := (f15.keep K14 (ninS ne_b1_b10 nin0))
    obtain ⟨cq16, kq16, q16a, q16b, q16c⟩ := isOf hZ e14 p14_0
    obtain ⟨_, _, ⟨T16, L16, kc16, nc16⟩, -, X16, ⟨Lc16, hQ16, l16, y16, z16⟩, st16⟩ := X14.virtualBack hx (y := (⟨"com/example/reapd/reapd/storage/ByteReader", "readByte", "()B"⟩ : MethodName)) (z := (⟨"com/example/reapd/reapd/storage/ByteReader", "readByte", "()B"⟩ : MethodName)) hown (mvT hZ (hw _ (List.mem_of_getElem? (i := 16) rfl))) (mvT hZ (hw _ (List.mem_of_getElem? (i := 17) rfl))) (notFace_of_selects (args := #[]) (mvT hZ (hw _ (List.mem_of_getElem? (i := 19) rfl)))) (mvT hZ (hw _ (List.mem_of_getElem? (i := 19) rfl))) (mvT hZ (hw _ (List.mem_of_getElem? (i := 18) rfl))) (by decide) (backOf (W := 0) (rm3 l Z a0 hw [] b10 b1 kA1 (4 : Int32) [(.int (x0.toInt8.toInt32)), (.int (x1.toInt8.toInt32)), (.int (x2.toInt8.toInt32)), (.int (x3.toInt8.toInt32))] (.int (0 : Int32)) (2 : Int32) (x2.toInt8.toInt32) h14 n0 z14q p14_0 p14_1 p14_2 f17 gg10 ne_b1_b10 (by decide) rfl (own_nbv _)) hZ (hw _ (List.mem_of_getElem? (i := 20) rfl)) (hw _ (List.mem_of_getElem? (i := 3) rfl)) (by decide) (by decide)) q16a q16c (g := (mkF m 89 #[.val (.int x0), .val (.int x1), .val (.int x2), .val (.int x3), .val (.int f), .val (.ref b1), .val (.int (0 : Int32)), .val (.int (x0.toInt8.toInt32)), .val (.int (x1.toInt8.toInt32)), .val (.int (x2.toInt8.toInt32)), .val (.ref b10), .val (.int (x0.toInt8.toInt32)), .val (.int (x1.toInt8.toInt32)), .unset] [(.ref b10)])) rfl (by rw [hml]; rfl) (Steps.refl _) (argsL := []) (rest := []) (lenOf pd_1 rfl) rfl (by show 2 * 0 + _ ≤ _; exact Nat.le_of_eq rfl) (hb hby at_89) (fun _ _ => ⟨rfl, e14, (by decide : 2 + 0 ≤ _), (by decide : 7 + 0 ≤ _)⟩)
    dsimp only [Pt.U, Pt.locs, Pt.cells, Pt.slots] at X16 l16 y16 z16 st16 hQ16
    subst l16 y16 z16
    obtain ⟨h16, e16⟩ : ∃ hh, T16.heap = hh := ⟨_, rfl⟩
    rw [e16] at hQ16
    obtain ⟨rfl, N16q, K16, p16_0, p16_1, p16_2⟩ := hQ16
    have N16 := Fr.app N14 N16q
    refine Go.st (fun _ kk => st16.trans kk) ?_
    have z16q : n0 ≤ h16.size := Nat.le_trans z14q K16.1
    rw [show ((2 : Int32) + (1 : Int32)) = (3 : Int32) from by decide] at p16_2
    show Go p e below s _ _ _ T16 (mkF m 92 #[.val (.int x0), .val (.int x1), .val (.int x2), .val (.int x3), .val (.int f), .val (.ref b1), .val (.int (0 : Int32)), .val (.int (x0.toInt8.toInt32)), .val (.int (x1.toInt8.toInt32)), .val (.int (x2.toInt8.toInt32)), .val (.ref b10), .val (.int (x0.toInt8.toInt32)), .val (.int (x1.toInt8.toInt32)), .unset] [(.int (x2.toInt8.toInt32))])
    refine Go.st (fun _ => XS.istore X16.here hx rfl (hb hby at_92) rfl (l' := #[.val (.int x0), .val (.int x1), .val (.int x2), .val (.int x3), .val (.int f), .val (.ref b1), .val (.int (0 : Int32)), .val (.int (x0.toInt8.toInt32)), .val (.int (x1.toInt8.toInt32)), .val (.int (x2.toInt8.toInt32)), .val (.ref b10), .val (.int (x0.toInt8.toInt32)), .val (.int (x1.toInt8.toInt32)), .val (.int (x2.toInt8.toInt32))]) rfl) ?_
    show Go p e below s _ _ _ T16 (mkF m 94 #[.val (.int x0), .val (.int x1), .val (.int x2), .val (.int x3), .val (.int f), .val (.ref b1), .val (.int (0 : Int32)), .val (.int (x0.toInt8.toInt32)), .val (.int (x1.toInt8.toInt32)), .val (.int (x2.toInt8.toInt32)), .val (.ref b10), .val (.int (x0.toInt8.toInt32)), .val (.int (x1.toInt8.toInt32)), .val (.int (x2.toInt8.toInt32))] [])
    refine Go.st (fun _ => XS.iload X16.here hx rfl (hb hby at_94) rfl) ?_
    show Go p e below s _ _ _ T16 (mkF m 96 #[.val (.int x0), .val (.int x1), .val (.int x2), .val (.int x3), .val (.int f), .val (.ref b1), .val (.int (0 : Int32)), .val (.int (x0.toInt8.toInt32)), .val (.int (x1.toInt8.toInt32)), .val (.int (x2.toInt8.toInt32)), .val (.ref b10), .val (.int (x0.toInt8.toInt32)), .val (.int (x1.toInt8.toInt32)), .val (.int (x2.toInt8.toInt32))] [(.int (x0.toInt8.toInt32))])
    refine Go.st (fun _ => XS.iload X16.here hx rfl (hb hby at_96) rfl) ?_
    show Go p e below s _ _ _ T16 (mkF m 98 #[.val (.int x0), .val (.int x1), .val (.int x2), .val (.int x3), .val (.int f), .val (.ref b1), .val (.int (0 : Int32)), .val (.int (x0.toInt8.toInt32)), .val (.int (x1.toInt8.toInt32)), .val (.int (x2.toInt8.toInt32)), .val (.ref b10), .val (.int (x0.toInt8.toInt32)), .val (.int (x1.toInt8.toInt32)), .val (.int (x2.toInt8.toInt32))] [(.int (x0.toInt8.toInt32)), (.int (x0.toInt8.toInt32))])
    refine Go.st (fun _ => XS.icmpNo X16.here hx rfl (hb hby at_98) rfl (teq (rfl : (x0.toInt8.toInt32) = (x0.toInt8.toInt32))).2) ?_
    show Go p e below s _ _ _ T16 (mkF m 101 #[.val (.int x0), .val (.int x1), .val (.int x2), .val (.int x3), .val (.int f), .val (.ref b1), .val (.int (0 : Int32)), .val (.int (x0.toInt8.toInt32)), .val (.int (x1.toInt8.toInt32)), .val (.int (x2.toInt8.toInt32)), .val (.ref b10), .val (.int (x0.toInt8.toInt32)), .val (.int (x1.toInt8.toInt32)), .val (.int (x2.toInt8.toInt32))] [])
    refine Go.st (fun _ => XS.iload X16.here hx rfl (hb hby at_101) rfl) ?_
    show Go p e below s _ _ _ T16 (mkF m 103 #[.val (.int x0), .val (.int x1), .val (.int x2), .val (.int x3), .val (.int f), .val (.ref b1), .val (.int (0 : Int32)), .val (.int (x0.toInt8.toInt32)), .val (.int (x1.toInt8.toInt32)), .val (.int (x2.toInt8.toInt32)), .val (.ref b10), .val (.int (x0.toInt8.toInt32)), .val (.int (x1.toInt8.toInt32)), .val (.int (x2.toInt8.toInt32))] [(.int (x1.toInt8.toInt32))])
    refine Go.st (fun _ => XS.iload X16.here hx rfl (hb hby at_103) rfl) ?_
    show Go p e below s _ _ _ T16 (mkF m 105 #[.val (.int x0), .val (.int x1), .val (.int x2), .val (.int x3), .val (.int f), .val (.ref b1), .val (.int (0 : Int32)), .val (.int (x0.toInt8.toInt32)), .val (.int (x1.toInt8.toInt32)), .val (.int (x2.toInt8.toInt32)), .val (.ref b10), .val (.int (x0.toInt8.toInt32)), .val (.int (x1.toInt8.toInt32)), .val (.int (x2.toInt8.toInt32))] [(.int (x1.toInt8.toInt32)), (.int (x1.toInt8.toInt32))])
    refine Go.st (fun _ => XS.icmpNo X16.here hx rfl (hb hby at_105) rfl (teq (rfl : (x1.toInt8.toInt32) = (x1.toInt8.toInt32))).2) ?_
    show Go p e below s _ _ _ T16 (mkF m 108 #[.val (.int x0), .val (.int x1), .val (.int x2), .val (.int x3), .val (.int f), .val (.ref b1), .val (.int (0 : Int32)), .val (.int (x0.toInt8.toInt32)), .val (.int (x1.toInt8.toInt32)), .val (.int (x2.toInt8.toInt32)), .val (.ref b10), .val (.int (x0.toInt8.toInt32)), .val (.int (x1.toInt8.toInt32)), .val (.int (x2.toInt8.toInt32))] [])
    refine Go.st (fun _ => XS.iload X16.here hx rfl (hb hby at_108) rfl) ?_
    show Go p e below s _ _ _ T16 (mkF m 110 #[.val (.int x0), .val (.int x1), .val (.int x2), .val (.int x3), .val (.int f), .val (.ref b1), .val (.int (0 : Int32)), .val (.int (x0.toInt8.toInt32)), .val (.int (x1.toInt8.toInt32)), .val (.int (x2.toInt8.toInt32)), .val (.ref b10), .val (.int (x0.toInt8.toInt32)), .val (.int (x1.toInt8.toInt32)), .val (.int (x2.toInt8.toInt32))] [(.int (x2.toInt8.toInt32))])
    refine Go.st (fun _ => XS.iload X16.here hx rfl (hb hby at_110) rfl) ?_
    show Go p e below s _ _ _ T16 (mkF m 112 #[.val (.int x0), .val (.int x1), .val (.int x2), .val (.int x3), .val (.int f), .val (.ref b1), .val (.int (0 : Int32)), .val (.int (x0.toInt8.toInt32)), .val (.int (x1.toInt8.toInt32)), .val (.int (x2.toInt8.toInt32)), .val (.ref b10), .val (.int (x0.toInt8.toInt32)), .val (.int (x1.toInt8.toInt32)), .val (.int (x2.toInt8.toInt32))] [(.int (x2.toInt8.toInt32)), (.int (x2.toInt8.toInt32))])
    refine Go.st (fun _ => XS.icmpNo X16.here hx rfl (hb hby at_112) rfl (teq (rfl : (x2.toInt8.toInt32) = (x2.toInt8.toInt32))).2) ?_
    show Go p e below s _ _ _ T16 (mkF m 115 #[.val (.int x0), .val (.int x1), .val (.int x2), .val (.int x3), .val (.int f), .val (.ref b1), .val (.int (0 : Int32)), .val (.int (x0.toInt8.toInt32)), .val (.int (x1.toInt8.toInt32)), .val (.int (x2.toInt8.toInt32)), .val (.ref b10), .val (.int (x0.toInt8.toInt32)), .val (.int (x1.toInt8.toInt32)), .val (.int (x2.toInt8.toInt32))] [])
    refine Go.st (fun _ => XS.iconst X16.here hx rfl (hb hby at_115)) ?_
    show Go p e below s _ _ _ T16 (mkF m 116 #[.val (.int x0), .val (.int x1), .val (.int x2), .val (.int x3), .val (.int f), .val (.ref b1), .val (.int (0 : Int32)), .val (.int (x0.toInt8.toInt32)), .val (.int (x1.toInt8.toInt32)), .val (.int (x2.toInt8.toInt32)), .val (.ref b10), .val (.int (x0.toInt8.toInt32)), .val (.int (x1.toInt8.toInt32)), .val (.int (x2.toInt8.toInt32))] [(.int (1 : Int32))])
    refine Go.st (fun _ => XS.goto X16.here hx rfl (pc0 := 116) (pc' := 120) rfl (hb hby at_116) (by decide) (by decide)) ?_
    show Go p e below s _ _ _ T16 (mkF m 120 #[.val (.int x0), .val (.int x1), .val (.int x2), .val (.int x3), .val (.int f), .val (.ref b1), .val (.int (0 : Int32)), .val (.int (x0.toInt8.toInt32)), .val (.int (x1.toInt8.toInt32)), .val (.int (x2.toInt8.toInt32)), .val (.ref b10), .val (.int (x0.toInt8.toInt32)), .val (.int (x1.toInt8.toInt32)), .val (.int (x2.toInt8.toInt32))] [(.int (1 : Int32))])
    exact Go.retZ X16 hx hlk Bd.returns (hb hby at_120) rfl (by rw [e16]; exact ⟨rfl, N16⟩) (by decide) (by decide)
  · rw [show (f &&& (1 : Int32)) = (1 : Int32) from hd6]
    show Go p e below s _ _ _ T5 (mkF m 33 #[.val (.int x0), .val (.int x1), .val (.int x2), .val (.int x3), .val (.int f), .val (.ref b1), .unset, .unset, .unset, .unset, .unset, .unset, .unset, .unset] [(.int (1 : Int32))])
    refine Go.st (fun _ => XS.istore X5.here hx rfl (hb hby at_33) rfl (l' := #[.val (.int x0), .val (.int x1), .val (.int x2), .val (.int x3), .val (.int f), .val (.ref b1), .val (.int (1 : Int32)), .unset, .unset, .unset, .unset, .unset, .unset, .unset]) rfl) ?_
    show Go p e below s _ _ _ T5 (mkF m 35 #[.val (.int x0), .val (.int x1), .val (.int x2), .val (.int x3), .val (.int f), .val (.ref b1), .val (.int (1 : Int32)), .unset, .unset, .unset, .unset, .unset, .unset, .unset] [])
    refine Go.st (fun _ => XS.aload X5.here hx rfl (hb hby at_35) rfl rfl) ?_
    show Go p e below s _ _ _ T5 (mkF m 37 #[.val (.int x0), .val (.int x1), .val (.int x2), .val (.int x3), .val (.int f), .val (.ref b1), .val (.int (1 : Int32)), .unset, .unset, .unset, .unset, .unset, .unset, .unset] [(.ref b1)])
    refine Go.st (fun _ => XS.iload X5.here hx rfl (hb hby at_37) rfl) ?_
    show Go p e below s _ _ _ T5 (mkF m 39 #[.val (.int x0), .val (.int x1), .val (.int x2), .val (.int x3), .val (.int f), .val (.ref b1), .val (.int (1 : Int32)), .unset, .unset, .unset, .unset, .unset, .unset, .unset] [(.int (1 : Int32)), (.ref b1)])
    obtain ⟨cl18, Ar18, q18, S18, M18, H18, G18⟩ := id V5
    have hin18 : ¬ ((1 : Int32) < 0 ∨ cl18.slots.size ≤ ((1 : Int32)).toNatClampNeg) := inb_of S18 ⟨by decide, by decide⟩
    have hat18 : cl18.slots[((1 : Int32)).toNatClampNeg]? = some (.int (x1.toInt8.toInt32)) := H18.at hin18 rfl
    refine Go.st (fun tG => X5.baloadBytes hx (j := (1 : Int32)) (v := (.int (x1.toInt8.toInt32))) (by rw [e5]; exact Ar18.1) (State.isArrayOf_alike hZ.alike Ar18.2.1) Ar18.2.2 hin18 hat18 (g := (mkF m 39 #[.val (.int x0), .val (.int x1), .val (.int x2), .val (.int x3), .val (.int f), .val (.ref b1), .val (.int (1 : Int32)), .unset, .unset, .unset, .unset, .unset, .unset, .unset] [(.int (1 : Int32)), (.ref b1)])) rfl rfl (hb hby at_39) tG) ?_
    show Go p e below s _ _ _ T5 (mkF m 40 #[.val (.int x0), .val (.int x1), .val (.int x2), .val (.int x3), .val (.int f), .val (.ref b1), .val (.int (1 : Int32)), .unset, .unset, .unset, .unset, .unset, .unset, .unset] [(.int (x1.toInt8.toInt32))])
    refine Go.st (fun _ => XS.istore X5.here hx rfl (hb hby at_40) rfl (l' := #[.val (.int x0), .val (.int x1), .val (.int x2), .val (.int x3), .val (.int f), .val (.ref b1), .val (.int (1 : Int32)), .val (.int (x1.toInt8.toInt32)), .unset, .unset, .unset, .unset, .unset, .unset]) rfl) ?_
    show Go p e below s _ _ _ T5 (mkF m 42 #[.val (.int x0), .val (.int x1), .val (.int x2), .val (.int x3), .val (.int f), .val (.ref b1), .val (.int (1 : Int32)), .val (.int (x1.toInt8.toInt32)), .unset, .unset, .unset, .unset, .unset, .unset] [])
    refine Go.st (fun _ => XS.aload X5.here hx rfl (hb hby at_42) rfl rfl) ?_
    show Go p e below s _ _ _ T5 (mkF m 44 #[.val (.int x0), .val (.int x1), .val (.int x2), .val (.int x3), .val (.int f), .val (.ref b1), .val (.int (1 : Int32)), .val (.int (x1.toInt8.toInt32)), .unset, .unset, .unset, .unset, .unset, .unset] [(.ref b1)])
    refine Go.st (fun _ => XS.iload X5.here hx rfl (hb hby at_44) rfl) ?_
    show Go p e below s _ _ _ T5 (mkF m 46 #[.val (.int x0), .val (.int x1), .val (.int x2), .val (.int x3), .val (.int f), .val (.ref b1), .val (.int (1 : Int32)), .val (.int (x1.toInt8.toInt32)), .unset, .unset, .unset, .unset, .unset, .unset] [(.int (1 : Int32)), (.ref b1)])
    refine Go.st (fun _ => XS.iconst X5.here hx rfl (hb hby at_46)) ?_
    show Go p e below s _ _ _ T5 (mkF m 47 #[.val (.int x0), .val (.int x1), .val (.int x2), .val (.int x3), .val (.int f), .val (.ref b1), .val (.int (1 : Int32)), .val (.int (x1.toInt8.toInt32)), .unset, .unset, .unset, .unset, .unset, .unset] [(.int (1 : Int32)), (.int (1 : Int32)), (.ref b1)])
    refine Go.st (fun _ => XS.iadd X5.here hx rfl (hb hby at_47) rfl) ?_
    show Go p e below s _ _ _ T5 (mkF m 48 #[.val (.int x0), .val (.int x1), .val (.int x2), .val (.int x3), .val (.int f), .val (.ref b1), .val (.int (1 : Int32)), .val (.int (x1.toInt8.toInt32)), .unset, .unset, .unset, .unset, .unset, .unset] [(.int ((1 : Int32) + (1 : Int32))), (.ref b1)])
    rw [show ((1 : Int32) + (1 : Int32)) = (2 : Int32) from by decide]
    show Go p e below s _ _ _ T5 (mkF m 48 #[.val (.int x0), .val (.int x1), .val (.int x2), .val (.int x3), .val (.int f), .val (.ref b1), .val (.int (1 : Int32)), .val (.int (x1.toInt8.toInt32)), .unset, .unset, .unset, .unset, .unset, .unset] [(.int (2 : Int32)), (.ref b1)])
    obtain ⟨cl19, Ar19, q19, S19, M19, H19, G19⟩ := id V5
    have hin19 : ¬ ((2 : Int32) < 0 ∨ cl19.slots.size ≤ ((2 : Int32)).toNatClampNeg) := inb_of S19 ⟨by decide, by decide⟩
    have hat19 : cl19.slots[((2 : Int32)).toNatClampNeg]? = some (.int (x2.toInt8.toInt32)) := H19.at hin19 rfl
    refine Go.st (fun tG => X5.baloadBytes hx (j := (2 : Int32)) (v := (.int (x2.toInt8.toInt32))) (by rw [e5]; exact Ar19.1) (State.isArrayOf_alike hZ.alike Ar19.2.1) Ar19.2.2 hin19 hat19 (g := (mkF m 48 #[.val (.int x0), .val (.int x1), .val (.int x2), .val (.int x3), .val (.int f), .val (.ref b1), .val (.int (1 : Int32)), .val (.int (x1.toInt8.toInt32)), .unset, .unset, .unset, .unset, .unset, .unset] [(.int (2 : Int32)), (.ref b1)])) rfl rfl (hb hby at_48) tG) ?_
    show Go p e below s _ _ _ T5 (mkF m 49 #[.val (.int x0), .val (.int x1), .val (.int x2), .val (.int x3), .val (.int f), .val (.ref b1), .val (.int (1 : Int32)), .val (.int (x1.toInt8.toInt32)), .unset, .unset, .unset, .unset, .unset, .unset] [(.int (x2.toInt8.toInt32))])
    refine Go.st (fun _ => XS.istore X5.here hx rfl (hb hby at_49) rfl (l' := #[.val (.int x0), .val (.int x1), .val (.int x2), .val (.int x3), .val (.int f), .val (.ref b1), .val (.int (1 : Int32)), .val (.int (x1.toInt8.toInt32)), .val (.int (x2.toInt8.toInt32)), .unset, .unset, .unset, .unset, .unset]) rfl) ?_
    show Go p e below s _ _ _ T5 (mkF m 51 #[.val (.int x0), .val (.int x1), .val (.int x2), .val (.int x3), .val (.int f), .val (.ref b1), .val (.int (1 : Int32)), .val (.int (x1.toInt8.toInt32)), .val (.int (x2.toInt8.toInt32)), .unset, .unset, .unset, .unset, .unset] [])
    refine Go.st (fun _ => XS.aload X5.here hx rfl (hb hby at_51) rfl rfl) ?_
    show Go p e below s _ _ _ T5 (mkF m 53 #[.val (.int x0), .val (.int x1), .val (.int x2), .val (.int x3), .val (.int f), .val (.ref b1), .val (.int (1 : Int32)), .val (.int (x1.toInt8.toInt32)), .val (.int (x2.toInt8.toInt32)), .unset, .unset, .unset, .unset, .unset] [(.ref b1)])
    refine Go.st (fun _ => XS.iload X5.here hx rfl (hb hby at_53) rfl) ?_
    show Go p e below s _ _ _ T5 (mkF m 55 #[.val (.int x0), .val (.int x1), .val (.int x2), .val (.int x3), .val (.int f), .val (.ref b1), .val (.int (1 : Int32)), .val (.int (x1.toInt8.toInt32)), .val (.int (x2.toInt8.toInt32)), .unset, .unset, .unset, .unset, .unset] [(.int (1 : Int32)), (.ref b1)])
    refine Go.st (fun _ => XS.iconst X5.here hx rfl (hb hby at_55)) ?_
    show Go p e below s _ _ _ T5 (mkF m 56 #[.val (.int x0), .val (.int x1), .val (.int x2), .val (.int x3), .val (.int f), .val (.ref b1), .val (.int (1 : Int32)), .val (.int (x1.toInt8.toInt32)), .val (.int (x2.toInt8.toInt32)), .unset, .unset, .unset, .unset, .unset] [(.int (2 : Int32)), (.int (1 : Int32)), (.ref b1)])
    refine Go.st (fun _ => XS.iadd X5.here hx rfl (hb hby at_56) rfl) ?_
    show Go p e below s _ _ _ T5 (mkF m 57 #[.val (.int x0), .val (.int x1), .val (.int x2), .val (.int x3), .val (.int f), .val (.ref b1), .val (.int (1 : Int32)), .val (.int (x1.toInt8.toInt32)), .val (.int (x2.toInt8.toInt32)), .unset, .unset, .unset, .unset, .unset] [(.int ((1 : Int32) + (2 : Int32))), (.ref b1)])
    rw [show ((1 : Int32) + (2 : Int32)) = (3 : Int32) from by decide]
    show Go p e below s _ _ _ T5 (mkF m 57 #[.val (.int x0), .val (.int x1), .val (.int x2), .val (.int x3), .val (.int f), .val (.ref b1), .val (.int (1 : Int32)), .val (.int (x1.toInt8.toInt32)), .val (.int (x2.toInt8.toInt32)), .unset, .unset, .unset, .unset, .unset] [(.int (3 : Int32)), (.ref b1)])
    obtain ⟨cl20, Ar20, q20, S20, M20, H20, G20⟩ := id V5
    have hin20 : ¬ ((3 : Int32) < 0 ∨ cl20.slots.size ≤ ((3 : Int32)).toNatClampNeg) := inb_of S20 ⟨by decide, by decide⟩
    have hat20 : cl20.slots[((3 : Int32)).toNatClampNeg]? = some (.int (x3.toInt8.toInt32)) := H20.at hin20 rfl
    refine Go.st (fun tG => X5.baloadBytes hx (j := (3 : Int32)) (v := (.int (x3.toInt8.toInt32))) (by rw [e5]; exact Ar20.1) (State.isArrayOf_alike hZ.alike Ar20.2.1) Ar20.2.2 hin20 hat20 (g := (mkF m 57 #[.val (.int x0), .val (.int x1), .val (.int x2), .val (.int x3), .val (.int f), .val (.ref b1), .val (.int (1 : Int32)), .val (.int (x1.toInt8.toInt32)), .val (.int (x2.toInt8.toInt32)), .unset, .unset, .unset, .unset, .unset] [(.int (3 : Int32)), (.ref b1)])) rfl rfl (hb hby at_57) tG) ?_
    show Go p e below s _ _ _ T5 (mkF m 58 #[.val (.int x0), .val (.int x1), .val (.int x2), .val (.int x3), .val (.int f), .val (.ref b1), .val (.int (1 : Int32)), .val (.int (x1.toInt8.toInt32)), .val (.int (x2.toInt8.toInt32)), .unset, .unset, .unset, .unset, .unset] [(.int (x3.toInt8.toInt32))])
    refine Go.st (fun _ => XS.istore X5.here hx rfl (hb hby at_58) rfl (l' := #[.val (.int x0), .val (.int x1), .val (.int x2), .val (.int x3), .val (.int f), .val (.ref b1), .val (.int (1 : Int32)), .val (.int (x1.toInt8.toInt32)), .val (.int (x2.toInt8.toInt32)), .val (.int (x3.toInt8.toInt32)), .unset, .unset, .unset, .unset]) rfl) ?_
    show Go p e below s _ _ _ T5 (mkF m 60 #[.val (.int x0), .val (.int x1), .val (.int x2), .val (.int x3), .val (.int f), .val (.ref b1), .val (.int (1 : Int32)), .val (.int (x1.toInt8.toInt32)), .val (.int (x2.toInt8.toInt32)), .val (.int (x3.toInt8.toInt32)), .unset, .unset, .unset, .unset] [])
    obtain ⟨T21, h21, X21, e21, E21, A21, D21, -, st21⟩ := newO X5 hx hZ hown (hw _ (List.mem_of_getElem? (i := 1) rfl)) (hw _ (List.mem_of_getElem? (i := 2) rfl)) (hw _ (List.mem_of_getElem? (i := 3) rfl)) e5 (g := (mkF m 60 #[.val (.int x0), .val (.int x1), .val (.int x2), .val (.int x3), .val (.int f), .val (.ref b1), .val (.int (1 : Int32)), .val (.int (x1.toInt8.toInt32)), .val (.int (x2.toInt8.toInt32)), .val (.int (x3.toInt8.toInt32)), .unset, .unset, .unset, .unset] [])) rfl (hb hby at_60) (by decide) (by decide)
    obtain ⟨b21, g21⟩ : ∃ z, z = h5.size := ⟨_, rfl⟩
    rw [← g21] at A21 D21 st21
    refine Go.st st21 ?_
    have ne_b1_b21 : b1 ≠ b21 := Nat.ne_of_lt (Nat.lt_of_lt_of_eq V5.lt g21.symm)
    have gg21 : n0 ≤ b21 := Nat.le_trans z5 (Nat.le_of_eq g21.symm)
    have z21 : n0 ≤ h21.size := Nat.le_trans z5 E21.1
    have F_bytes_b21 : Fld Z h21 b21 "com/example/reapd/reapd/storage/ByteReader" "bytes" "[B" .null := D21 (Or.inr (hw _ (List.mem_of_getElem? (i := 11) rfl))) (ty := (.array .byte)) (by decide)
    have F_first_b21 : Fld Z h21 b21 "com/example/reapd/reapd/storage/ByteReader" "first" "I" (.int (0 : Int32)) := D21 (Or.inr (hw _ (List.mem_of_getElem? (i := 13) rfl))) (ty := .int) (by decide)
    have F_next_b21 : Fld Z h21 b21 "com/example/reapd/reapd/storage/ByteReader" "next" "I" (.int (0 : Int32)) := D21 (Or.inl (hw _ (List.mem_of_getElem? (i := 15) rfl))) (ty := .int) (by decide)
    show Go p e below s _ _ _ T21 (mkF m 63 #[.val (.int x0), .val (.int x1), .val (.int x2), .val (.int x3), .val (.int f), .val (.ref b1), .val (.int (1 : Int32)), .val (.int (x1.toInt8.toInt32)), .val (.int (x2.toInt8.toInt32)), .val (.int (x3.toInt8.toInt32)), .unset, .unset, .unset, .unset] [(.ref b21)])
    refine Go.st (fun _ => XS.dup X21.here hx rfl (hb hby at_63) rfl rfl) ?_
    show Go p e below s _ _ _ T21 (mkF m 64 #[.val (.int x0), .val (.int x1), .val (.int x2), .val (.int x3), .val (.int f), .val (.ref b1), .val (.int (1 : Int32)), .val (.int (x1.toInt8.toInt32)), .val (.int (x2.toInt8.toInt32)), .val (.int (x3.toInt8.toInt32)), .unset, .unset, .unset, .unset] [(.ref b21), (.ref b21)])
    refine Go.st (fun _ => XS.aload X21.here hx rfl (hb hby at_64) rfl rfl) ?_
    show Go p e below s _ _ _ T21 (mkF m 66 #[.val (.int x0), .val (.int x1), .val (.int x2), .val (.int x3), .val (.int f), .val (.ref b1), .val (.int (1 : Int32)), .val (.int (x1.toInt8.toInt32)), .val (.int (x2.toInt8.toInt32)), .val (.int (x3.toInt8.toInt32)), .unset, .unset, .unset, .unset] [(.ref b1), (.ref b21), (.ref b21)])
    refine Go.st (fun _ => XS.iload X21.here hx rfl (hb hby at_66) rfl) ?_
    show Go p e below s _ _ _ T21 (mkF m 68 #[.val (.int x0), .val (.int x1), .val (.int x2), .val (.int x3), .val (.int f), .val (.ref b1), .val (.int (1 : Int32)), .val (.int (x1.toInt8.toInt32)), .val (.int (x2.toInt8.toInt32)), .val (.int (x3.toInt8.toInt32)), .unset, .unset, .unset, .unset] [(.int (1 : Int32)), (.ref b1), (.ref b21), (.ref b21)])
    obtain ⟨_, _, ⟨T22, L22, kc22, nc22⟩, -, X22, ⟨Lc22, hQ22, l22, y22, z22⟩, st22⟩ := X21.specialBack hx (y := (⟨"com/example/reapd/reapd/storage/ByteReader", "<init>", "([BI)V"⟩ : MethodName)) rfl hown (mvT hZ (hw _ (List.mem_of_getElem? (i := 4) rfl))) (mvT hZ (hw _ (List.mem_of_getElem? (i := 5) rfl))) (mvT hZ (hw _ (List.mem_of_getElem? (i := 6) rfl))) (by decide) (backOf (W := 1) (rm1 l Z a0 hw [] b21 b1 (1 : Int32) h21 n0 z21 A21 F_bytes_b21 F_first_b21 F_next_b21 gg21) hZ (hw _ (List.mem_of_getElem? (i := 6) rfl)) (hw _ (List.mem_of_getElem? (i := 3) rfl)) (by decide) (by decide)) (g := (mkF m 68 #[.val (.int x0), .val (.int x1), .val (.int x2), .val (.int x3), .val (.int f), .val (.ref b1), .val (.int (1 : Int32)), .val (.int (x1.toInt8.toInt32)), .val (.int (x2.toInt8.toInt32)), .val (.int (x3.toInt8.toInt32)), .unset, .unset, .unset, .unset] [(.int (1 : Int32)), (.ref b1), (.ref b21), (.ref b21)])) rfl (by rw [hml]; rfl) (Steps.refl _) (a := b21) (argsL := [(.ref b1), (.int (1 : Int32))]) (rest := [(.ref b21)]) (lenOf pd_0 rfl) rfl (by show 2 * 0 + _ ≤ _; exact Nat.le_of_eq rfl) (hb hby at_68) (fun _ _ => ⟨rfl, e21, (by decide : 2 + 0 ≤ _), (by decide : 7 + 0 ≤ _)⟩)
    dsimp only [Pt.U, Pt.locs, Pt.cells, Pt.slots] at X22 l22 y22 z22 st22 hQ22
    subst l22 y22 z22
    obtain ⟨h22, e22⟩ : ∃ hh, T22.heap = hh := ⟨_, rfl⟩
    rw [e22] at hQ22
    obtain ⟨rfl, N22q, K22, p22_0, p22_1, p22_2⟩ := hQ22
    have N22 := Fr.app N5 N22q
    refine Go.st (fun _ kk => st22.trans kk) ?_
    have z22q : n0 ≤ h22.size := Nat.le_trans z21 K22.1
    show Go p e below s _ _ _ T22 (mkF m 71 #[.val (.int x0), .val (.int x1), .val (.int x2), .val (.int x3), .val (.int f), .val (.ref b1), .val (.int (1 : Int32)), .val (.int (x1.toInt8.toInt32)), .val (.int (x2.toInt8.toInt32)), .val (.int (x3.toInt8.toInt32)), .unset, .unset, .unset, .unset] [(.ref b21)])
    refine Go.st (fun _ => XS.astore X22.here hx rfl (hb hby at_71) rfl rfl (l' := #[.val (.int x0), .val (.int x1), .val (.int x2), .val (.int x3), .val (.int f), .val (.ref b1), .val (.int (1 : Int32)), .val (.int (x1.toInt8.toInt32)), .val (.int (x2.toInt8.toInt32)), .val (.int (x3.toInt8.toInt32)), .val (.ref b21), .unset, .unset, .unset]) rfl) ?_
    show Go p e below s _ _ _ T22 (mkF m 73 #[.val (.int x0), .val (.int x1), .val (.int x2), .val (.int x3), .val (.int f), .val (.ref b1), .val (.int (1 : Int32)), .val (.int (x1.toInt8.toInt32)), .val (.int (x2.toInt8.toInt32)), .val (.int (x3.toInt8.toInt32)), .val (.ref b21), .unset, .unset, .unset] [])
    refine Go.st (fun _ => XS.aload X22.here hx rfl (hb hby at_73) rfl rfl) ?_
    show Go p e below s _ _ _ T22 (mkF m 75 #[.val (.int x0), .val (.int x1), .val (.int x2), .val (.int x3), .val (.int f), .val (.ref b1), .val (.int (1 : Int32)), .val (.int (x1.toInt8.toInt32)), .val (.int (x2.toInt8.toInt32)), .val (.int (x3.toInt8.toInt32)), .val (.ref b21), .unset, .unset, .unset] [(.ref b21)])
    have f24 := ((V5.ext E21).keep K22 (ninS ne_b1_b21 nin0))
    obtain ⟨cq23, kq23, q23a, q23b, q23c⟩ := isOf hZ e22 p22_0
    obtain ⟨_, _, ⟨T23, L23, kc23, nc23⟩, -, X23, ⟨Lc23, hQ23, l23, y23, z23⟩, st23⟩ := X22.virtualBack hx (y := (⟨"com/example/reapd/reapd/storage/ByteReader", "readByte", "()B"⟩ : MethodName)) (z := (⟨"com/example/reapd/reapd/storage/ByteReader", "readByte", "()B"⟩ : MethodName)) hown (mvT hZ (hw _ (List.mem_of_getElem? (i := 16) rfl))) (mvT hZ (hw _ (List.mem_of_getElem? (i := 17) rfl))) (notFace_of_selects (args := #[]) (mvT hZ (hw _ (List.mem_of_getElem? (i := 19) rfl)))) (mvT hZ (hw _ (List.mem_of_getElem? (i := 19) rfl))) (mvT hZ (hw _ (List.mem_of_getElem? (i := 18) rfl))) (by decide) (backOf (W := 0) (rm3 l Z a0 hw [] b21 b1 kA1 (4 : Int32) [(.int (x0.toInt8.toInt32)), (.int (x1.toInt8.toInt32)), (.int (x2.toInt8.toInt32)), (.int (x3.toInt8.toInt32))] (.int (0 : Int32)) (1 : Int32) (x1.toInt8.toInt32) h22 n0 z22q p22_0 p22_1 p22_2 f24 gg21 ne_b1_b21 (by decide) rfl (own_nbv _)) hZ (hw _ (List.mem_of_getElem? (i := 20) rfl)) (hw _ (List.mem_of_getElem? (i := 3) rfl)) (by decide) (by decide)) q23a q23c (g := (mkF m 75 #[.val (.int x0), .val (.int x1), .val (.int x2), .val (.int x3), .val (.int f), .val (.ref b1), .val (.int (1 : Int32)), .val (.int (x1.toInt8.toInt32)), .val (.int (x2.toInt8.toInt32)), .val (.int (x3.toInt8.toInt32)), .val (.ref b21), .unset, .unset, .unset] [(.ref b21)])) rfl (by rw [hml]; rfl) (Steps.refl _) (argsL := []) (rest := []) (lenOf pd_1 rfl) rfl (by show 2 * 0 + _ ≤ _; exact Nat.le_of_eq rfl) (hb hby at_75) (fun _ _ => ⟨rfl, e22, (by decide : 2 + 0 ≤ _), (by decide : 7 + 0 ≤ _)⟩)
    dsimp only [Pt.U, Pt.locs, Pt.cells, Pt.slots] at X23 l23 y23 z23 st23 hQ23
    subst l23 y23 z23
    obtain ⟨h23, e23⟩ : ∃ hh, T23.heap = hh := ⟨_, rfl⟩
    rw [e23] at hQ23
    obtain ⟨rfl, N23q, K23, p23_0, p23_1, p23_2⟩ := hQ23
    have N23 := Fr.app N22 N23q
    refine Go.st (fun _ kk => st23.trans kk) ?_
    have z23q : n0 ≤ h23.size := Nat.le_trans z22q K23.1
    rw [show ((1 : Int32) + (1 : Int32)) = (2 : Int32) from by decide] at p23_2
    show Go p e below s _ _ _ T23 (mkF m 78 #[.val (.int x0), .val (.int x1), .val (.int x2), .val (.int x3), .val (.int f), .val (.ref b1), .val (.int (1 : Int32)), .val (.int (x1.toInt8.toInt32)), .val (.int (x2.toInt8.toInt32)), .val (.int (x3.toInt8.toInt32)), .val (.ref b21), .unset, .unset, .unset] [(.int (x1.toInt8.toInt32))])
    refine Go.st (fun _ => XS.istore X23.here hx rfl (hb hby at_78) rfl (l' := #[.val (.int x0), .val (.int x1), .val (.int x2), .val (.int x3), .val (.int f), .val (.ref b1), .val (.int (1 : Int32)), .val (.int (x1.toInt8.toInt32)), .val (.int (x2.toInt8.toInt32)), .val (.int (x3.toInt8.toInt32)), .val (.ref b21), .val (.int (x1.toInt8.toInt32)), .unset, .unset]) rfl) ?_
    show Go p e below s _ _ _ T23 (mkF m 80 #[.val (.int x0), .val (.int x1), .val (.int x2), .val (.int x3), .val (.int f), .val (.ref b1), .val (.int (1 : Int32)), .val (.int (x1.toInt8.toInt32)), .val (.int (x2.toInt8.toInt32)), .val (.int (x3.toInt8.toInt32)), .val (.ref b21), .val (.int (x1.toInt8.toInt32)), .unset, .unset] [])
    refine Go.st (fun _ => XS.aload X23.here hx rfl (hb hby at_80) rfl rfl) ?_
    show Go p e below s _ _ _ T23 (mkF m 82 #[.val (.int x0), .val (.int x1), .val (.int x2), .val (.int x3), .val (.int f), .val (.ref b1), .val (.int (1 : Int32)), .val (.int (x1.toInt8.toInt32)), .val (.int (x2.toInt8.toInt32)), .val (.int (x3.toInt8.toInt32)), .val (.ref b21), .val (.int (x1.toInt8.toInt32)), .unset, .unset] [(.ref b21)])
    have f26 := (f24.keep K23 (ninS ne_b1_b21 nin0))
    obtain ⟨cq25, kq25, q25a, q25b, q25c⟩ := isOf hZ e23 p23_0
    obtain ⟨_, _, ⟨T25, L25, kc25, nc25⟩, -, X25, ⟨Lc25, hQ25, l25, y25, z25⟩, st25⟩ := X23.virtualBack hx (y := (⟨"com/example/reapd/reapd/storage/ByteReader", "readByte", "()B"⟩ : MethodName)) (z := (⟨"com/example/reapd/reapd/storage/ByteReader", "readByte", "()B"⟩ : MethodName)) hown (mvT hZ (hw _ (List.mem_of_getElem? (i := 16) rfl))) (mvT hZ (hw _ (List.mem_of_getElem? (i := 17) rfl))) (notFace_of_selects (args := #[]) (mvT hZ (hw _ (List.mem_of_getElem? (i := 19) rfl)))) (mvT hZ (hw _ (List.mem_of_getElem? (i := 19) rfl))) (mvT hZ (hw _ (List.mem_of_getElem? (i := 18) rfl))) (by decide) (backOf (W := 0) (rm3 l Z a0 hw [] b21 b1 kA1 (4 : Int32) [(.int (x0.toInt8.toInt32)), (.int (x1.toInt8.toInt32)), (.int (x2.toInt8.toInt32)), (.int (x3.toInt8.toInt32))] (.int (0 : Int32)) (2 : Int32) (x2.toInt8.toInt32) h23 n0 z23q p23_0 p23_1 p23_2 f26 gg21 ne_b1_b21 (by decide) rfl (own_nbv _)) hZ (hw _ (List.mem_of_getElem? (i := 20) rfl)) (hw _ (List.mem_of_getElem? (i := 3) rfl)) (by decide) (by decide)) q25a q25c (g := (mkF m 82 #[.val (.int x0), .val (.int x1), .val (.int x2), .val (.int x3), .val (.int f), .val (.ref b1), .val (.int (1 : Int32)), .val (.int (x1.toInt8.toInt32)), .val (.int (x2.toInt8.toInt32)), .val (.int (x3.toInt8.toInt32)), .val (.ref b21), .val (.int (x1.toInt8.toInt32)), .unset, .unset] [(.ref b21)])) rfl (by rw [hml]; rfl) (Steps.refl _) (argsL := []) (rest := []) (lenOf pd_1 rfl) rfl (by show 2 * 0 + _ ≤ _; exact Nat.le_of_eq rfl) (hb hby at_82) (fun _ _ => ⟨rfl, e23, (by decide : 2 + 0 ≤ _), (by decide : 7 + 0 ≤ _)⟩)
    dsimp only [Pt.U, Pt.locs, Pt.cells, Pt.slots] at X25 l25 y25 z25 st25 hQ25
    subst l25 y25 z25
    obtain ⟨h25, e25⟩ : ∃ hh, T25.heap = hh := ⟨_, rfl⟩
    rw [e25] at hQ25
    obtain ⟨rfl, N25q, K25, p25_0, p25_1, p25_2⟩ := hQ25
    have N25 := Fr.app N23 N25q
    refine Go.st (fun _ kk => st25.trans kk) ?_
    have z25q : n0 ≤ h25.size := Nat.le_trans z23q K25.1
    rw [show ((2 : Int32) + (1 : Int32)) = (3 : Int32) from by decide] at p25_2
    show Go p e below s _ _ _ T25 (mkF m 85 #[.val (.int x0), .val (.int x1), .val (.int x2), .val (.int x3), .val (.int f), .val (.ref b1), .val (.int (1 : Int32)), .val (.int (x1.toInt8.toInt32)), .val (.int (x2.toInt8.toInt32)), .val (.int (x3.toInt8.toInt32)), .val (.ref b21), .val (.int (x1.toInt8.toInt32)), .unset, .unset] [(.int (x2.toInt8.toInt32))])
    refine Go.st (fun _ => XS.istore X25.here hx rfl (hb hby at_85) rfl (l' := #[.val (.int x0), .val (.int x1), .val (.int x2), .val (.int x3), .val (.int f), .val (.ref b1), .val (.int (1 : Int32)), .val (.int (x1.toInt8.toInt32)), .val (.int (x2.toInt8.toInt32)), .val (.int (x3.toInt8.toInt32)), .val (.ref b21), .val (.int (x1.toInt8.toInt32)), .val (.int (x2.toInt8.toInt32)), .unset]) rfl) ?_
    show Go p e below s _ _ _ T25 (mkF m 87 #[.val (.int x0), .val (.int x1), .val (.int x2), .val (.int x3), .val (.int f), .val (.ref b1), .val (.int (1 : Int32)), .val (.int (x1.toInt8.toInt32)), .val (.int (x2.toInt8.toInt32)), .val (.int (x3.toInt8.toInt32)), .val (.ref b21), .val (.int (x1.toInt8.toInt32)), .val (.int (x2.toInt8.toInt32)), .unset] [])
    refine Go.st (fun _ => XS.aload X25.here hx rfl (hb hby at_87) rfl rfl) ?_
    show Go p e below s _ _ _ T25 (mkF m 89 #[.val (.int x0), .val (.int x1), .val (.int x2), .val (.int x3), .val (.int f), .val (.ref b1), .val (.int (1 : Int32)), .val (.int (x1.toInt8.toInt32)), .val (.int (x2.toInt8.toInt32)), .val (.int (x3.toInt8.toInt32)), .val (.ref b21), .val (.int (x1.toInt8.toInt32)), .val (.int (x2.toInt8.toInt32)), .unset] [(.ref b21)])
    have f28 := (f26.keep K25 (ninS ne_b1_b21 nin0))
    obtain ⟨cq27, kq27, q27a, q27b, q27c⟩ := isOf hZ e25 p25_0
    obtain ⟨_, _, ⟨T27, L27, kc27, nc27⟩, -, X27, ⟨Lc27, hQ27, l27, y27, z27⟩, st27⟩ := X25.virtualBack hx (y := (⟨"com/example/reapd/reapd/storage/ByteReader", "readByte", "()B"⟩ : MethodName)) (z := (⟨"com/example/reapd/reapd/storage/ByteReader", "readByte", "()B"⟩ : MethodName)) hown (mvT hZ (hw _ (List.mem_of_getElem? (i := 16) rfl))) (mvT hZ (hw _ (List.mem_of_getElem? (i := 17) rfl))) (notFace_of_selects (args := #[]) (mvT hZ (hw _ (List.mem_of_getElem? (i := 19) rfl)))) (mvT hZ (hw _ (List.mem_of_getElem? (i := 19) rfl))) (mvT hZ (hw _ (List.mem_of_getElem? (i := 18) rfl))) (by decide) (backOf (W := 0) (rm3 l Z a0 hw [] b21 b1 kA1 (4 : Int32) [(.int (x0.toInt8.toInt32)), (.int (x1.toInt8.toInt32)), (.int (x2.toInt8.toInt32)), (.int (x3.toInt8.toInt32))] (.int (0 : Int32)) (3 : Int32) (x3.toInt8.toInt32) h25 n0 z25q p25_0 p25_1 p25_2 f28 gg21 ne_b1_b21 (by decide) rfl (own_nbv _)) hZ (hw _ (List.mem_of_getElem? (i := 20) rfl)) (hw _ (List.mem_of_getElem? (i := 3) rfl)) (by decide) (by decide)) q27a q27c (g := (mkF m 89 #[.val (.int x0), .val (.int x1), .val (.int x2), .val (.int x3), .val (.int f), .val (.ref b1), .val (.int (1 : Int32)), .val (.int (x1.toInt8.toInt32)), .val (.int (x2.toInt8.toInt32)), .val (.int (x3.toInt8.toInt32)), .val (.ref b21), .val (.int (x1.toInt8.toInt32)), .val (.int (x2.toInt8.toInt32)), .unset] [(.ref b21)])) rfl (by rw [hml]; rfl) (Steps.refl _) (argsL := []) (rest := []) (lenOf pd_1 rfl) rfl (by show 2 * 0 + _ ≤ _; exact Nat.le_of_eq rfl) (hb hby at_89) (fun _ _ => ⟨rfl, e25, (by decide : 2 + 0 ≤ _), (by decide : 7 + 0 ≤ _)⟩)
    dsimp only [Pt.U, Pt.locs, Pt.cells, Pt.slots] at X27 l27 y27 z27 st27 hQ27
    subst l27 y27 z27
    obtain ⟨h27, e27⟩ : ∃ hh, T27.heap = hh := ⟨_, rfl⟩
    rw [e27] at hQ27
    obtain ⟨rfl, N27q, K27, p27_0, p27_1, p27_2⟩ := hQ27
    have N27 := Fr.app N25 N27q
    refine Go.st (fun _ kk => st27.trans kk) ?_
    have z27q : n0 ≤ h27.size := Nat.le_trans z25q K27.1
    rw [show ((3 : Int32) + (1 : Int32)) = (4 : Int32) from by decide] at p27_2
    show Go p e below s _ _ _ T27 (mkF m 92 #[.val (.int x0), .val (.int x1), .val (.int x2), .val (.int x3), .val (.int f), .val (.ref b1), .val (.int (1 : Int32)), .val (.int (x1.toInt8.toInt32)), .val (.int (x2.toInt8.toInt32)), .val (.int (x3.toInt8.toInt32)), .val (.ref b21), .val (.int (x1.toInt8.toInt32)), .val (.int (x2.toInt8.toInt32)), .unset] [(.int (x3.toInt8.toInt32))])
    refine Go.st (fun _ => XS.istore X27.here hx rfl (hb hby at_92) rfl (l' := #[.val (.int x0), .val (.int x1), .val (.int x2), .val (.int x3), .val (.int f), .val (.ref b1), .val (.int (1 : Int32)), .val (.int (x1.toInt8.toInt32)), .val (.int (x2.toInt8.toInt32)), .val (.int (x3.toInt8.toInt32)), .val (.ref b21), .val (.int (x1.toInt8.toInt32)), .val (.int (x2.toInt8.toInt32)), .val (.int (x3.toInt8.toInt32))]) rfl) ?_
    show Go p e below s _ _ _ T27 (mkF m 94 #[.val (.int x0), .val (.int x1), .val (.int x2), .val (.int x3), .val (.int f), .val (.ref b1), .val (.int (1 : Int32)), .val (.int (x1.toInt8.toInt32)), .val (.int (x2.toInt8.toInt32)), .val (.int (x3.toInt8.toInt32)), .val (.ref b21), .val (.int (x1.toInt8.toInt32)), .val (.int (x2.toInt8.toInt32)), .val (.int (x3.toInt8.toInt32))] [])
    refine Go.st (fun _ => XS.iload X27.here hx rfl (hb hby at_94) rfl) ?_
    show Go p e below s _ _ _ T27 (mkF m 96 #[.val (.int x0), .val (.int x1), .val (.int x2), .val (.int x3), .val (.int f), .val (.ref b1), .val (.int (1 : Int32)), .val (.int (x1.toInt8.toInt32)), .val (.int (x2.toInt8.toInt32)), .val (.int (x3.toInt8.toInt32)), .val (.ref b21), .val (.int (x1.toInt8.toInt32)), .val (.int (x2.toInt8.toInt32)), .val (.int (x3.toInt8.toInt32))] [(.int (x1.toInt8.toInt32))])
    refine Go.st (fun _ => XS.iload X27.here hx rfl (hb hby at_96) rfl) ?_
    show Go p e below s _ _ _ T27 (mkF m 98 #[.val (.int x0), .val (.int x1), .val (.int x2), .val (.int x3), .val (.int f), .val (.ref b1), .val (.int (1 : Int32)), .val (.int (x1.toInt8.toInt32)), .val (.int (x2.toInt8.toInt32)), .val (.int (x3.toInt8.toInt32)), .val (.ref b21), .val (.int (x1.toInt8.toInt32)), .val (.int (x2.toInt8.toInt32)), .val (.int (x3.toInt8.toInt32))] [(.int (x1.toInt8.toInt32)), (.int (x1.toInt8.toInt32))])
    refine Go.st (fun _ => XS.icmpNo X27.here hx rfl (hb hby at_98) rfl (teq (rfl : (x1.toInt8.toInt32) = (x1.toInt8.toInt32))).2) ?_
    show Go p e below s _ _ _ T27 (mkF m 101 #[.val (.int x0), .val (.int x1), .val (.int x2), .val (.int x3), .val (.int f), .val (.ref b1), .val (.int (1 : Int32)), .val (.int (x1.toInt8.toInt32)), .val (.int (x2.toInt8.toInt32)), .val (.int (x3.toInt8.toInt32)), .val (.ref b21), .val (.int (x1.toInt8.toInt32)), .val (.int (x2.toInt8.toInt32)), .val (.int (x3.toInt8.toInt32))] [])
    refine Go.st (fun _ => XS.iload X27.here hx rfl (hb hby at_101) rfl) ?_
    show Go p e below s _ _ _ T27 (mkF m 103 #[.val (.int x0), .val (.int x1), .val (.int x2), .val (.int x3), .val (.int f), .val (.ref b1), .val (.int (1 : Int32)), .val (.int (x1.toInt8.toInt32)), .val (.int (x2.toInt8.toInt32)), .val (.int (x3.toInt8.toInt32)), .val (.ref b21), .val (.int (x1.toInt8.toInt32)), .val (.int (x2.toInt8.toInt32)), .val (.int (x3.toInt8.toInt32))] [(.int (x2.toInt8.toInt32))])
    refine Go.st (fun _ => XS.iload X27.here hx rfl (hb hby at_103) rfl) ?_
    show Go p e below s _ _ _ T27 (mkF m 105 #[.val (.int x0), .val (.int x1), .val (.int x2), .val (.int x3), .val (.int f), .val (.ref b1), .val (.int (1 : Int32)), .val (.int (x1.toInt8.toInt32)), .val (.int (x2.toInt8.toInt32)), .val (.int (x3.toInt8.toInt32)), .val (.ref b21), .val (.int (x1.toInt8.toInt32)), .val (.int (x2.toInt8.toInt32)), .val (.int (x3.toInt8.toInt32))] [(.int (x2.toInt8.toInt32)), (.int (x2.toInt8.toInt32))])
    refine Go.st (fun _ => XS.icmpNo X27.here hx rfl (hb hby at_105) rfl (teq (rfl : (x2.toInt8.toInt32) = (x2.toInt8.toInt32))).2) ?_
    show Go p e below s _ _ _ T27 (mkF m 108 #[.val (.int x0), .val (.int x1), .val (.int x2), .val (.int x3), .val (.int f), .val (.ref b1), .val (.int (1 : Int32)), .val (.int (x1.toInt8.toInt32)), .val (.int (x2.toInt8.toInt32)), .val (.int (x3.toInt8.toInt32)), .val (.ref b21), .val (.int (x1.toInt8.toInt32)), .val (.int (x2.toInt8.toInt32)), .val (.int (x3.toInt8.toInt32))] [])
    refine Go.st (fun _ => XS.iload X27.here hx rfl (hb hby at_108) rfl) ?_
    show Go p e below s _ _ _ T27 (mkF m 110 #[.val (.int x0), .val (.int x1), .val (.int x2), .val (.int x3), .val (.int f), .val (.ref b1), .val (.int (1 : Int32)), .val (.int (x1.toInt8.toInt32)), .val (.int (x2.toInt8.toInt32)), .val (.int (x3.toInt8.toInt32)), .val (.ref b21), .val (.int (x1.toInt8.toInt32)), .val (.int (x2.toInt8.toInt32)), .val (.int (x3.toInt8.toInt32))] [(.int (x3.toInt8.toInt32))])
    refine Go.st (fun _ => XS.iload X27.here hx rfl (hb hby at_110) rfl) ?_
    show Go p e below s _ _ _ T27 (mkF m 112 #[.val (.int x0), .val (.int x1), .val (.int x2), .val (.int x3), .val (.int f), .val (.ref b1), .val (.int (1 : Int32)), .val (.int (x1.toInt8.toInt32)), .val (.int (x2.toInt8.toInt32)), .val (.int (x3.toInt8.toInt32)), .val (.ref b21), .val (.int (x1.toInt8.toInt32)), .val (.int (x2.toInt8.toInt32)), .val (.int (x3.toInt8.toInt32))] [(.int (x3.toInt8.toInt32)), (.int (x3.toInt8.toInt32))])
    refine Go.st (fun _ => XS.icmpNo X27.here hx rfl (hb hby at_112) rfl (teq (rfl : (x3.toInt8.toInt32) = (x3.toInt8.toInt32))).2) ?_
    show Go p e below s _ _ _ T27 (mkF m 115 #[.val (.int x0), .val (.int x1), .val (.int x2), .val (.int x3), .val (.int f), .val (.ref b1), .val (.int (1 : Int32)), .val (.int (x1.toInt8.toInt32)), .val (.int (x2.toInt8.toInt32)), .val (.int (x3.toInt8.toInt32)), .val (.ref b21), .val (.int (x1.toInt8.toInt32)), .val (.int (x2.toInt8.toInt32)), .val (.int (x3.toInt8.toInt32))] [])
    refine Go.st (fun _ => XS.iconst X27.here hx rfl (hb hby at_115)) ?_
    show Go p e below s _ _ _ T27 (mkF m 116 #[.val (.int x0), .val (.int x1), .val (.int x2), .val (.int x3), .val (.int f), .val (.ref b1), .val (.int (1 : Int32)), .val (.int (x1.toInt8.toInt32)), .val (.int (x2.toInt8.toInt32)), .val (.int (x3.toInt8.toInt32)), .val (.ref b21), .val (.int (x1.toInt8.toInt32)), .val (.int (x2.toInt8.toInt32)), .val (.int (x3.toInt8.toInt32))] [(.int (1 : Int32))])
    refine Go.st (fun _ => XS.goto X27.here hx rfl (pc0 := 116) (pc' := 120) rfl (hb hby at_116) (by decide) (by decide)) ?_
    show Go p e below s _ _ _ T27 (mkF m 120 #[.val (.int x0), .val (.int x1), .val (.int x2), .val (.int x3), .val (.int f), .val (.ref b1), .val (.int (1 : Int32)), .val (.int (x1.toInt8.toInt32)), .val (.int (x2.toInt8.toInt32)), .val (.int (x3.toInt8.toInt32)), .val (.ref b21), .val (.int (x1.toInt8.toInt32)), .val (.int (x2.toInt8.toInt32)), .val (.int (x3.toInt8.toInt32))] [(.int (1 : Int32))])
    exact Go.retZ X27 hx hlk Bd.returns (hb hby at_120) rfl (by rw [e27]; exact ⟨rfl, N27⟩) (by decide) (by decide)
set_option maxRecDepth 65536 in
set_option maxHeartbeats 40000000 in
theorem comes_1 {Post : Tables → Env → Array Value → State → Outcome → State → Prop} (hpost : ∀ tb e args s v u, (limb_1_1.after args s (.returned v) u = true ∧ limb_1_2.after args s (.returned v) u = true ∧ True) → FrameEnd s (.returned v) u (Jvm.fieldLocs frame_1_writes args s ++ Jvm.arrayLocs frame_1_arrays args s ++ Jvm.staticLocs frame_1_statics s) 16 128 → Post tb e args s (.returned v) u) :
    ArmFor flags0 classFile x code maxLocals ret World_1 tables_1 room_1 Calls_1 rest_1 Pre_1 Post := by
  intro l hfl _ _ p e ha hc hk s m args below hf hA hF happ hP
  obtain ⟨hcalls, hrest, hpre⟩ := hP
  obtain ⟨-, -, -, hnamed, -, -, -, hat⟩ := (Spec.applies_iff hf).mp happ
  obtain ⟨hg, hn⟩ := and_e (Cond.before_iff.mp (show (Jvm.Cond.and given_1 narrow_1).before args s = true from hpre))
  obtain ⟨g1, g2⟩ := and_e hg
  obtain ⟨g3, g4⟩ := and_e g2
  obtain ⟨g5, g6⟩ := and_e g4
  obtain ⟨g7, g8⟩ := and_e g6
  obtain ⟨g9, g10⟩ := and_e g8
  obtain ⟨w0, w1, w2, w3, w4, rfl⟩ : ∃ w0 w1 w2 w3 w4 : Value, args = #[w0, w1, w2, w3, w4] := by
    have hs : args.size = 5 := by simpa [Cond.value, given_1] using g1
    obtain ⟨L⟩ := args
    match L, hs with
    | [w0, w1, w2, w3, w4], _ => exact ⟨w0, w1, w2, w3, w4, rfl⟩
  have hw := fun d (hd : d ∈ tables_1) => atoms_spec (ws := Jvm.Cond.code x code maxLocals ret :: tables_1) hat d (List.mem_cons_of_mem _ hd)
  have hfit : Fit s := fun {y c} hc i hi => by
    obtain ⟨ha, rfl⟩ := Array.getElem?_eq_some_iff.mp hc
    have q := List.all_eq_true.mp ((Array.all_eq_true_iff_forall_mem.mp hF) _ (Array.getElem_mem ha)) i (List.mem_range.mpr hi)
    simpa [Array.getElem?_eq_getElem hi] using q
  obtain ⟨i0, ei0⟩ := is_v g3
  obtain rfl : w0 = (.int i0) := Option.some.inj ei0
  obtain ⟨i1, ei1⟩ := is_v g5
  obtain rfl : w1 = (.int i1) := Option.some.inj ei1
  obtain ⟨i2, ei2⟩ := is_v g7
  obtain rfl : w2 = (.int i2) := Option.some.inj ei2
  obtain ⟨i3, ei3⟩ := is_v g9
  obtain rfl : w3 = (.int i3) := Option.some.inj ei3
  obtain ⟨i4, ei4⟩ := is_v g10
  obtain rfl : w4 = (.int i4) := Option.some.inj ei4
  obtain ⟨n, o, h1, h2, h3, _, L, rfl, ⟨rfl, N⟩, hq⟩ := rm0 l s _ hw tables_1 i0 i1 i2 i3 i4 s.heap s.heap.size (Nat.le_refl _)  p e ha hc hk s m _ below hf ((Spec.applies_iff_loose hf).mp happ).1 ⟨rfl, State.Warmed39.refl s, rfl⟩ trivial
  refine ⟨n, _, h1, h2, h3, hpost _ _ _ _ _ _ ⟨Cond.after_iff.mpr rfl, Cond.after_iff.mpr (eq_i res_at (Term.int_eval (1)) rfl), trivial⟩ ⟨hq.1, hq.2.1, (hq.2.2.sift fun y hy => Or.inr (N y hy)).mono (by decide) (by decide)⟩⟩
theorem main_1_1 : Claimed_1_1 := comes_1 fun _ _ _ _ _ _ h hF => ⟨h.1, hF⟩
theorem main_1_2 : Claimed_1_2 := comes_1 fun _ _ _ _ _ _ h hF => ⟨h.2.1, hF⟩
end Jvm.Pilot.@@N@@
namespace Jvm.Pilot.@@N@@
open Jvm Jvm.ClassFile Sem Op Lib Jvm.Free Jvm.Stand Jvm.Pilot.@@N@@.Jvm.D
/-! MADE BY PROGRAM (witnessworld.py) out of the Statement's table words and the real class files: 9 classes; the members and pool entries that the words name. The judged class is class 1, her method 1. -/
namespace start1
open Jvm.ClassFile
def u (s : String) : CpInfo := .utf8 (stringToUtf16 s)
/-- a pool by its gaps: so many unusable entries, then the entry; so many at the end -/
def gap : Nat → List CpInfo → List CpInfo
  | 0, r => r
  | n + 1, r => .unusable :: gap n r
def poolList (es : List (Nat × CpInfo)) (last : Nat) : List CpInfo := es.foldr (fun e r => gap e.1 (e.2 :: r)) (gap last [])
def pool (es : List (Nat × CpInfo)) (last : Nat) : Array CpInfo := ⟨poolList es last⟩
def fileOf (pool : Array CpInfo) (this : Nat) (attrs : Array Attribute := #[]) (ms : Array MethodInfo := #[]) (fl : Nat := 33) (sup : Nat := 0) (ifs : Array Nat := #[]) (fds : Array FieldInfo := #[]) : ClassFile where
  minorVersion := 0
  majorVersion := 65
  constantPool := pool
  accessFlags := fl
  thisClass := this
  superClass := sup
  interfaces := ifs
  fields := fds
  methods := ms
  attributes := attrs
def plain (name : String) (sup : Option ClassId) : Class where
  name := name
  kind := .ordinary
  loader := none
  accessFlags := 33
  super := sup
  interfaces := #[]
  cf := none
  fields := #[]
  methods := #[]
  instanceTypes := #[]
  staticTypes := #[]
  resolved := #[]
  callSites := []
  init := .initialized
  statics := none
  mirror := none

def pool0 : Array CpInfo := pool [(5, u "<init>"), (0, u "()V"), (1, .class_ 10), (1, u "java/lang/Object")] 113

def k0c0 : Code := { maxStack := 0, maxLocals := 1, code := object_method_1_code, exceptionTable := #[], attributes := #[] }
def k0m0 : Method := { name := "<init>", desc := "()V", sig := { parameters := [], returnType := none }, accessFlags := 1, code := some k0c0 }
/-- java/lang/Object -/
def k0 : Class := { plain "java/lang/Object" none with
  accessFlags := 33
  interfaces := #[]
  cf := some (fileOf pool0 8 #[] #[{ accessFlags := 1, nameIndex := 5, descriptorIndex := 6, attributes := #[] }] 33 0 #[] #[])
  fields := #[]
  methods := #[k0m0]
  instanceTypes := #[]
  staticTypes := #[]
  resolved := Array.replicate 124 none
  statics := none }

def pool1 : Array CpInfo := pool [(2, .class_ 4), (1, u "java/lang/Object"), (0, u "<init>"), (0, u "()V"), (0, .class_ 8), (0, u "com/example/reapd/reapd/storage/ByteReader"), (0, .methodref 7 10), (0, .nameAndType 5 11), (0, u "([BI)V"), (0, .methodref 7 13), (0, .nameAndType 14 15), (0, u "readByte"), (0, u "()B"), (0, .class_ 17), (0, u "com/example/reapd/reapd/storage/ByteReaderReadBytePinLaw"), (2, u "law"), (0, u "(IIIII)Z")] 5

def k1m0 : Method := { name := "<init>", desc := "()V", sig := { parameters := [], returnType := none }, accessFlags := 1, code := none }
def k1c1 : Code := { maxStack := 4, maxLocals := 14, code := code, exceptionTable := #[], attributes := #[] }
def k1m1 : Method := { name := "law", desc := "(IIIII)Z", sig := { parameters := [.int, .int, .int, .int, .int], returnType := some .boolean }, accessFlags := 9, code := some k1c1 }
/-- com/example/reapd/reapd/storage/ByteReaderReadBytePinLaw -/
def k1 : Class := { plain "com/example/reapd/reapd/storage/ByteReaderReadBytePinLaw" (some 0) with
  accessFlags := 49
  interfaces := #[]
  cf := some (fileOf pool1 16 #[] #[{ accessFlags := 1, nameIndex := 5, descriptorIndex := 6, attributes := #[] }, { accessFlags := 9, nameIndex := 20, descriptorIndex := 21, attributes := #[] }] 49 2 #[] #[])
  fields := #[]
  methods := #[k1m0, k1m1]
  instanceTypes := #[]
  staticTypes := #[]
  resolved := Array.replicate 27 none
  statics := none }

def pool2 : Array CpInfo := pool [(1, .methodref 2 3), (0, .class_ 4), (0, .nameAndType 5 6), (0, u "java/lang/Object"), (0, u "<init>"), (0, u "()V"), (0, .fieldref 8 9), (0, .class_ 10), (0, .nameAndType 11 12), (0, u "com/example/reapd/reapd/storage/ByteReader"), (0, u "bytes"), (0, u "[B"), (0, .fieldref 8 14), (0, .nameAndType 15 16), (0, u "first"), (0, u "I"), (0, .fieldref 8 18), (0, .nameAndType 19 16), (0, u "next"), (2, u "([BI)V"), (35, u "readByte"), (0, u "()B")] 6

def k2c0 : Code := { maxStack := 2, maxLocals := 3, code := prog_37_method_1_code, exceptionTable := #[], attributes := #[] }
def k2m0 : Method := { name := "<init>", desc := "([BI)V", sig := { parameters := [(.array .byte), .int], returnType := none }, accessFlags := 1, code := some k2c0 }
def k2c1 : Code := { maxStack := 5, maxLocals := 1, code := prog_37_method_5_code, exceptionTable := #[], attributes := #[] }
def k2m1 : Method := { name := "readByte", desc := "()B", sig := { parameters := [], returnType := some .byte }, accessFlags := 1, code := some k2c1 }
/-- com/example/reapd/reapd/storage/ByteReader -/
def k2 : Class := { plain "com/example/reapd/reapd/storage/ByteReader" (some 0) with
  accessFlags := 49
  interfaces := #[]
  cf := some (fileOf pool2 8 #[] #[{ accessFlags := 1, nameIndex := 5, descriptorIndex := 22, attributes := #[] }, { accessFlags := 1, nameIndex := 58, descriptorIndex := 59, attributes := #[] }] 49 2 #[] #[{ accessFlags := 18, nameIndex := 11, descriptorIndex := 12, attributes := #[] }, { accessFlags := 18, nameIndex := 15, descriptorIndex := 16, attributes := #[] }, { accessFlags := 2, nameIndex := 19, descriptorIndex := 16, attributes := #[] }])
  fields := #[{ name := "bytes", type := (.array .byte), accessFlags := 18, slot := 0, constantValue := 0 }, { name := "first", type := .int, accessFlags := 18, slot := 1, constantValue := 0 }, { name := "next", type := .int, accessFlags := 2, slot := 2, constantValue := 0 }]
  methods := #[k2m0, k2m1]
  instanceTypes := #[(.array .byte), .int, .int]
  staticTypes := #[]
  resolved := Array.replicate 66 none
  statics := none }

def pool3 : Array CpInfo := pool [(1, u "java/lang/Cloneable"), (0, .class_ 1), (0, u "java/lang/Object"), (0, .class_ 3)] 3

/-- java/lang/Cloneable -/
def k3 : Class := { plain "java/lang/Cloneable" (some 0) with
  accessFlags := 1537
  interfaces := #[]
  cf := some (fileOf pool3 2 #[] #[] 1537 4 #[] #[])
  fields := #[]
  methods := #[]
  instanceTypes := #[]
  staticTypes := #[]
  resolved := Array.replicate 8 none
  statics := none }

def pool4 : Array CpInfo := pool [(1, u "java/io/Serializable"), (0, .class_ 1), (0, u "java/lang/Object"), (0, .class_ 3)] 3

/-- java/io/Serializable -/
def k4 : Class := { plain "java/io/Serializable" (some 0) with
  accessFlags := 1537
  interfaces := #[]
  cf := some (fileOf pool4 2 #[] #[] 1537 4 #[] #[])
  fields := #[]
  methods := #[]
  instanceTypes := #[]
  staticTypes := #[]
  resolved := Array.replicate 8 none
  statics := none }

/-- the primitive byte -/
def k5 : Class := { plain "byte" none with kind := .primitive 'B', accessFlags := 0x411 }
/-- [B -/
def k6 : Class := { plain "[B" (some 0) with kind := .array 5 .byte, interfaces := #[3, 4], accessFlags := 1041 }

/-- the primitive int -/
def k7 : Class := { plain "int" none with kind := .primitive 'I', accessFlags := 0x411 }
/-- [I -/
def k8 : Class := { plain "[I" (some 0) with kind := .array 7 .int, interfaces := #[3, 4], accessFlags := 1041 }

def heap : Heap := #[]
def classes : Array Class := #[k0, k1, k2, k3, k4, k5, k6, k7, k8]
def interned : List (Array UInt16 × Addr) := []
def slotsUsed : Nat := 0
def theMethod : MethodId := ⟨1, 1⟩
def args0 : Array Value := #[.int 5, .int 6, .int 7, .int 8, .int 1]
def aboutOver (below : List Frame) : State where
  vm := { classes := classes, interned := interned.toArray }
  heap := heap
  slotsUsed := slotsUsed
  threads := #[{ frames := .invoking theMethod args0 :: below }]
def below0 : List Frame := [.native { method := ⟨0, 0⟩, args := #[] }]
def about1 : State := aboutOver below0
def p0 : Program := .bare "" "" ""
def e0 : Env := launch0.env 0 0 0
theorem w_frames : about1.frames = Frame.invoking theMethod args0 :: below0 := rfl
set_option maxRecDepth 65536 in
theorem w_args : argsFit about1.vm theMethod args0 = true := by decide +kernel
set_option maxRecDepth 65536 in
theorem w_heap : heapFits about1 = true := by decide +kernel
set_option maxRecDepth 65536 in
theorem w_runnable : about1.curStatus? = some .runnable := by decide +kernel
set_option maxRecDepth 65536 in
theorem w_alone : about1.alone = true := by decide +kernel
set_option maxRecDepth 65536 in
theorem w_named : about1.methodNamed? x = some theMethod := by decide +kernel
set_option maxRecDepth 65536 in
theorem w_hears : about1.hears theMethod below0 = true := by decide +kernel
set_option maxRecDepth 65536 in
theorem w_ripe : about1.ripe theMethod args0 below0 = true := by decide +kernel
theorem w_running : about1.status = .running := rfl
set_option maxRecDepth 65536 in
theorem w_room : about1.hasRoom e0.platform room_1 = true :=
  launch0.hasRoom_least _ room_1 (by decide +kernel) (by decide +kernel) (by decide +kernel) (by decide +kernel) (by decide +kernel) (by decide +kernel)
theorem allAtoms_all (ts : List Jvm.Cond) (a : Array Jvm.Value) (st : Jvm.State) : (allAtoms ts).before a st = ts.all (fun c => c.before a st) := by
  induction ts with
  | nil => rfl
  | cons c t ih =>
    show (Jvm.Cond.and c (allAtoms t)).before a st = _
    rw [Jvm.Cond.before_and, ih, List.all_cons]
def words1 : List Jvm.Cond := Jvm.Cond.code x code maxLocals ret :: tables_1
/-- a 'code' word, met by the world's own term for the bytes: nothing is compared byte by byte -/
theorem code_word {y : MethodName} {bytes : ByteArray} {mx : Nat} {rt : Option FieldType} {a : Array Value} {s : State} {m : MethodId} {meth : Method} {c : Code} (h1 : s.methodNamed? y = some m) (h2 : s.vm.method? m = some meth) (h3 : meth.code = some c) (h4 : c.code = bytes)
    (h5 : (c.maxLocals == mx && c.exceptionTable.isEmpty && decide (c.maxStack ≤ mostOperands) && decide (meth.sig.returnType = rt) && !meth.locks && decide (parseMethodDescriptor y.desc = some meth.sig)) = true) : (Jvm.Cond.code y bytes mx rt).before a s = true := by
  simp only [Bool.and_eq_true, beq_iff_eq, Bool.not_eq_true', decide_eq_true_eq] at h5
  obtain ⟨⟨⟨⟨⟨g1, g2⟩, g3⟩, g4⟩, g5⟩, g6⟩ := h5
  simp [Cond.before, Cond.holds, Cond.value, h1, h2, h3, h4, g1, g2, g3, g4, g5, g6]
def isCode : Jvm.Cond → Bool
  | .code _ _ _ _ => true
  | _ => false
theorem all_split {L : List Jvm.Cond} {P : Jvm.Cond → Bool} (h1 : L.all (fun c => isCode c || P c) = true) (h2 : ∀ c ∈ L.filter isCode, P c = true) : L.all P = true := by
  refine List.all_eq_true.mpr fun c hc => ?_
  have h := List.all_eq_true.mp h1 c hc
  rcases Bool.eq_false_or_eq_true (isCode c) with hi | hi
  · exact h2 c (List.mem_filter.mpr ⟨hc, hi⟩)
  · simpa [hi] using h
set_option maxRecDepth 65536 in
theorem w_c0 : (Jvm.Cond.code x code maxLocals ret).before args0 about1 = true := code_word (m := ⟨1, 1⟩) (meth := k1m1) (c := k1c1) (by decide +kernel) rfl rfl rfl (by decide +kernel)
set_option maxRecDepth 65536 in
theorem w_c1 : (Jvm.Cond.code ({ cls := "com/example/reapd/reapd/storage/ByteReader", name := "<init>", desc := "([BI)V" } : Jvm.MethodName) prog_37_method_1_code (3 : Nat) (Option.none : Option Jvm.ClassFile.FieldType)).before args0 about1 = true := code_word (m := ⟨2, 0⟩) (meth := k2m0) (c := k2c0) (by decide +kernel) rfl rfl rfl (by decide +kernel)
set_option maxRecDepth 65536 in
theorem w_c2 : (Jvm.Cond.code ({ cls := "java/lang/Object", name := "<init>", desc := "()V" } : Jvm.MethodName) object_method_1_code (1 : Nat) (Option.none : Option Jvm.ClassFile.FieldType)).before args0 about1 = true := code_word (m := ⟨0, 0⟩) (meth := k0m0) (c := k0c0) (by decide +kernel) rfl rfl rfl (by decide +kernel)
set_option maxRecDepth 65536 in
theorem w_c3 : (Jvm.Cond.code ({ cls := "com/example/reapd/reapd/storage/ByteReader", name := "readByte", desc := "()B" } : Jvm.MethodName) prog_37_method_5_code (1 : Nat) (Option.some Jvm.ClassFile.FieldType.byte)).before args0 about1 = true := code_word (m := ⟨2, 1⟩) (meth := k2m1) (c := k2c1) (by decide +kernel) rfl rfl rfl (by decide +kernel)
def codes1 : List Jvm.Cond := [Jvm.Cond.code x code maxLocals ret, Jvm.Cond.code ({ cls := "com/example/reapd/reapd/storage/ByteReader", name := "<init>", desc := "([BI)V" } : Jvm.MethodName) prog_37_method_1_code (3 : Nat) (Option.none : Option Jvm.ClassFile.FieldType), Jvm.Cond.code ({ cls := "java/lang/Object", name := "<init>", desc := "()V" } : Jvm.MethodName) object_method_1_code (1 : Nat) (Option.none : Option Jvm.ClassFile.FieldType), Jvm.Cond.code ({ cls := "com/example/reapd/reapd/storage/ByteReader", name := "readByte", desc := "()B" } : Jvm.MethodName) prog_37_method_5_code (1 : Nat) (Option.some Jvm.ClassFile.FieldType.byte)]
set_option maxRecDepth 65536 in
theorem codes_eq : words1.filter isCode = codes1 := rfl
theorem w_codes : ∀ c ∈ words1.filter isCode, c.before args0 about1 = true := by
  rw [codes_eq]
  intro c hc
  simp only [codes1, List.mem_cons, List.not_mem_nil, or_false] at hc
  rcases hc with rfl | rfl | rfl | rfl
  · exact w_c0
  · exact w_c1
  · exact w_c2
  · exact w_c3
set_option maxRecDepth 65536 in
theorem w_t1 : words1.all (fun c => isCode c || c.before args0 about1) = true := by decide +kernel
theorem w_tables : (allAtoms (Jvm.Cond.code x code maxLocals ret :: tables_1)).before args0 about1 = true := by
  rw [allAtoms_all]
  show words1.all (fun c => c.before args0 about1) = true
  refine all_split ?_ w_codes
  rw [w_t1]
set_option maxRecDepth 65536 in
theorem w_case : (Jvm.Cond.and given_1 narrow_1).before args0 about1 = true := by decide +kernel
theorem w_applies : (headSpec (Jvm.Cond.code x code maxLocals ret :: tables_1) room_1).applies x e0.platform about1 = true :=
  (Spec.applies_iff w_frames).mpr ⟨w_running, w_runnable, w_alone, w_named, w_hears, w_ripe, w_room, w_tables⟩
theorem atStart : AtStart classFile x code maxLocals ret World_1 tables_1 room_1 Calls_1 rest_1 Pre_1 launch0 p0 e0 about1 theMethod args0 below0 :=
  ⟨lists_1, trivial, launch0.admits_env _ _ _, launch0.least_env, fairChoices_fair.cas, fairChoices_fair.clock, w_frames, w_args, w_heap, w_applies, trivial, trivial, w_case⟩
end start1
theorem witness_1 : WitnessClaimed_1 := ⟨start1.p0, start1.e0, start1.about1, start1.theMethod, start1.args0, start1.below0, start1.atStart⟩
end Jvm.Pilot.@@N@@
