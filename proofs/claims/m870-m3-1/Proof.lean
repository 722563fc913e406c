import JvmDerived
import JvmDerived.Pilot.@@N@@Statement
import JvmDerived.Pilot.@@N@@Code
set_option linter.unusedVariables false
set_option linter.unusedSimpArgs false
namespace Jvm.OwnKit
open Sem ClassFile Op Lib Jvm.Stand Jvm.Free Jvm.LawKit Jvm.RoadKit
/-- from the frame g over T the run ends, and what it leaves is Q's -/
def Go (p : Program) (e : Env) (below : List Frame) (s : State) (Q : Option Value → Heap → List Loc → Prop) (C S : Nat) (T : State) (g : JFrame) : Prop :=
  ∃ s₂ o, Steps p.tables e below (T.setTop g) s₂ ∧ s₂.status = .running ∧ Ended s₂ below o ∧ ∃ v L, o = .returned v ∧ Q v s₂.heap L ∧ FrameEnd s o s₂ L C S
section OwnGo
variable {p : Program} {l : Launch} {e : Env} {R : Room} {s : State} {m : MethodId} {args : Array Value} {below : List Frame} {meth : Method} {c : Code} {T T' : State} {locs : List Loc} {cells slots : Nat} {Q : Option Value → Heap → List Loc → Prop} {C S : Nat} {g g' : JFrame}
theorem Go.st (h : ∀ t, Steps p.tables e below (T'.setTop g') t → Steps p.tables e below (T.setTop g) t) (k : Go p e below s Q C S T' g') : Go p e below s Q C S T g := by
  obtain ⟨s₂, o, h1, h2⟩ := k
  exact ⟨s₂, o, h _ h1, h2⟩
theorem Go.eq (q : g = g') (k : Go p e below s Q C S T g') : Go p e below s Q C S T g := q ▸ k
theorem Go.retV (X : Stand p l e R s m args below meth c T locs cells slots) (hx : p.tables.exec = Jvm.exec) (hlk : meth.locks = false) {pc : Nat} {Ls : Array Slot} {w : Value} {t : FieldType} {i : Instr} {rest : List Value} (hret : meth.sig.returnType = some t) (hn : narrow t w = w)
    (hi : (i = .ireturn ∧ (t = .int ∨ t = .boolean ∨ t = .byte ∨ t = .char ∨ t = .short) ∧ ∃ z, w = .int z) ∨ (i = .lreturn ∧ t = .long ∧ ∃ z, w = .long z) ∨ (i = .dreturn ∧ t = .double ∧ ∃ z, w = .double z) ∨ (i = .freturn ∧ t = .float ∧ ∃ z, w = .float z) ∨ (i = .areturn ∧ t.isReference = true ∧ w.isRef = true))
    (hd : decode c.code pc = .ok (i, 1)) (hQ : Q (some w) T.heap locs) (hc : cells ≤ C) (hs : slots ≤ S) : Go p e below s Q C S T (mkF m pc Ls (w :: rest)) := by
  obtain ⟨fs, hr, hrun, hended, hW, hsame⟩ := X.leave (v := some w) (fun h => by rw [hret] at h; cases h) hlk
  exact ⟨_, _, retOut X hx hret hn hi hd hr, hrun, hended, _, _, rfl, hQ, ⟨_, rfl⟩, hW, hsame.mono hc hs⟩
theorem Go.retI (X : Stand p l e R s m args below meth c T locs cells slots) (hx : p.tables.exec = Jvm.exec) (hlk : meth.locks = false) {pc : Nat} {Ls : Array Slot} {z : Int32} {rest : List Value} (hret : meth.sig.returnType = some .int) (hd : decode c.code pc = .ok (.ireturn, 1)) (hQ : Q (some (.int z)) T.heap locs) (hc : cells ≤ C) (hs : slots ≤ S) : Go p e below s Q C S T (mkF m pc Ls (.int z :: rest)) :=
  Go.retV X hx hlk hret rfl (Or.inl ⟨rfl, Or.inl rfl, _, rfl⟩) hd hQ hc hs
theorem Go.retZ (X : Stand p l e R s m args below meth c T locs cells slots) (hx : p.tables.exec = Jvm.exec) (hlk : meth.locks = false) {pc : Nat} {Ls : Array Slot} {z : Int32} {rest : List Value} (hret : meth.sig.returnType = some .boolean) (hd : decode c.code pc = .ok (.ireturn, 1)) (hn : narrow .boolean (.int z) = .int z) (hQ : Q (some (.int z)) T.heap locs) (hc : cells ≤ C) (hs : slots ≤ S) : Go p e below s Q C S T (mkF m pc Ls (.int z :: rest)) :=
  Go.retV X hx hlk hret hn (Or.inl ⟨rfl, Or.inr (Or.inl rfl), _, rfl⟩) hd hQ hc hs
theorem Go.retB (X : Stand p l e R s m args below meth c T locs cells slots) (hx : p.tables.exec = Jvm.exec) (hlk : meth.locks = false) {pc : Nat} {Ls : Array Slot} {z : Int32} {rest : List Value} (hret : meth.sig.returnType = some .byte) (hd : decode c.code pc = .ok (.ireturn, 1)) (hn : narrow .byte (.int z) = .int z) (hQ : Q (some (.int z)) T.heap locs) (hc : cells ≤ C) (hs : slots ≤ S) : Go p e below s Q C S T (mkF m pc Ls (.int z :: rest)) :=
  Go.retV X hx hlk hret hn (Or.inl ⟨rfl, Or.inr (Or.inr (Or.inl rfl)), _, rfl⟩) hd hQ hc hs
theorem Go.retC (X : Stand p l e R s m args below meth c T locs cells slots) (hx : p.tables.exec = Jvm.exec) (hlk : meth.locks = false) {pc : Nat} {Ls : Array Slot} {z : Int32} {rest : List Value} (hret : meth.sig.returnType = some .char) (hd : decode c.code pc = .ok (.ireturn, 1)) (hn : narrow .char (.int z) = .int z) (hQ : Q (some (.int z)) T.heap locs) (hc : cells ≤ C) (hs : slots ≤ S) : Go p e below s Q C S T (mkF m pc Ls (.int z :: rest)) :=
  Go.retV X hx hlk hret hn (Or.inl ⟨rfl, Or.inr (Or.inr (Or.inr (Or.inl rfl))), _, rfl⟩) hd hQ hc hs
theorem Go.retJ (X : Stand p l e R s m args below meth c T locs cells slots) (hx : p.tables.exec = Jvm.exec) (hlk : meth.locks = false) {pc : Nat} {Ls : Array Slot} {z : Int64} {rest : List Value} (hret : meth.sig.returnType = some .long) (hd : decode c.code pc = .ok (.lreturn, 1)) (hQ : Q (some (.long z)) T.heap locs) (hc : cells ≤ C) (hs : slots ≤ S) : Go p e below s Q C S T (mkF m pc Ls (.long z :: rest)) :=
  Go.retV X hx hlk hret rfl (Or.inr (Or.inl ⟨rfl, rfl, _, rfl⟩)) hd hQ hc hs
theorem Go.retD (X : Stand p l e R s m args below meth c T locs cells slots) (hx : p.tables.exec = Jvm.exec) (hlk : meth.locks = false) {pc : Nat} {Ls : Array Slot} {z : UInt64} {rest : List Value} (hret : meth.sig.returnType = some .double) (hd : decode c.code pc = .ok (.dreturn, 1)) (hQ : Q (some (.double z)) T.heap locs) (hc : cells ≤ C) (hs : slots ≤ S) : Go p e below s Q C S T (mkF m pc Ls (.double z :: rest)) :=
  Go.retV X hx hlk hret rfl (Or.inr (Or.inr (Or.inl ⟨rfl, rfl, _, rfl⟩))) hd hQ hc hs
theorem own_nar_ref {t : FieldType} {w : Value} (hw : w.isRef = true) : narrow t w = w := by
  rcases ref_cases hw with rfl | ⟨_, rfl⟩ <;> cases t <;> rfl
theorem Go.retA (X : Stand p l e R s m args below meth c T locs cells slots) (hx : p.tables.exec = Jvm.exec) (hlk : meth.locks = false) {pc : Nat} {Ls : Array Slot} {w : Value} {t : FieldType} {rest : List Value} (hret : meth.sig.returnType = some t) (ht : t.isReference = true) (hw : w.isRef = true) (hd : decode c.code pc = .ok (.areturn, 1)) (hQ : Q (some w) T.heap locs) (hc : cells ≤ C) (hs : slots ≤ S) : Go p e below s Q C S T (mkF m pc Ls (w :: rest)) :=
  Go.retV X hx hlk hret (own_nar_ref hw) (Or.inr (Or.inr (Or.inr (Or.inr ⟨rfl, ht, hw⟩)))) hd hQ hc hs
theorem Go.ret0 (X : Stand p l e R s m args below meth c T locs cells slots) (hx : p.tables.exec = Jvm.exec) (hlk : meth.locks = false) {pc : Nat} {Ls : Array Slot} (hret : meth.sig.returnType = none) (hd : decode c.code pc = .ok (.return_, 1)) (hQ : Q none T.heap locs) (hc : cells ≤ C) (hs : slots ≤ S) : Go p e below s Q C S T (mkF m pc Ls []) := by
  obtain ⟨fs, hr, hrun, hended, hW, hsame⟩ := X.leave (v := none) (fun _ => rfl) hlk
  exact ⟨_, _, X.returnOut hx hret hd hr, hrun, hended, _, _, rfl, hQ, ⟨_, rfl⟩, hW, hsame.mono hc hs⟩
end OwnGo
/-- a proposition as Java's boolean -/
def b2i (P : Prop) [Decidable P] : Int32 := if P then 1 else 0
theorem b2i_pos {P : Prop} [Decidable P] (h : P) : b2i P = 1 := if_pos h
theorem b2i_neg {P : Prop} [Decidable P] (h : ¬ P) : b2i P = 0 := if_neg h
theorem b2i_ne {P : Prop} [Decidable P] (h : P) : ¬ b2i P = 0 := by rw [b2i_pos h]; decide
theorem b2i_zero {P : Prop} [Decidable P] (h : ¬ P) : b2i P = 0 := b2i_neg h
theorem own_b2i_t {P : Prop} [Decidable P] (h : P) : some (Value.int 1) = some (Value.int (b2i P)) := by rw [b2i_pos h]
theorem own_b2i_f {P : Prop} [Decidable P] (h : ¬ P) : some (Value.int 0) = some (Value.int (b2i P)) := by rw [b2i_neg h]
theorem own_nb (y : Int32) : nar .byte (y.toInt8.toInt32) = y.toInt8.toInt32 := by
  show y.toInt8.toInt32.toInt8.toInt32 = y.toInt8.toInt32
  simp
theorem own_nc (y : Int32) : nar .char (y.toUInt32.toUInt16.toUInt32.toInt32) = y.toUInt32.toUInt16.toUInt32.toInt32 := by
  show (y.toUInt32.toUInt16.toUInt32.toInt32).toUInt32.toUInt16.toUInt32.toInt32 = y.toUInt32.toUInt16.toUInt32.toInt32
  rw [UInt32.toUInt32_toInt32, UInt16.toUInt16_toUInt32]
theorem own_nbv (y : Int32) : narrow .byte (.int (y.toInt8.toInt32)) = .int (y.toInt8.toInt32) := congrArg Value.int (own_nb y)
theorem own_and1 (a : Int32) : a &&& (1 : Int32) = (0 : Int32) ∨ a &&& (1 : Int32) = (1 : Int32) := and_one a
theorem own_and3 (a : Int32) : a &&& (3 : Int32) = (0 : Int32) ∨ a &&& (3 : Int32) = (1 : Int32) ∨ a &&& (3 : Int32) = (2 : Int32) ∨ a &&& (3 : Int32) = (3 : Int32) := by
  have e := c_mask a 3 2 (by decide) (by decide)
  have h : (a &&& (3 : Int32)).toInt = 0 ∨ (a &&& (3 : Int32)).toInt = 1 ∨ (a &&& (3 : Int32)).toInt = 2 ∨ (a &&& (3 : Int32)).toInt = 3 := by omega
  rcases h with h | h | h | h
  · exact Or.inl (Int32.toInt_inj.mp (h.trans (by decide)))
  · exact Or.inr (Or.inl (Int32.toInt_inj.mp (h.trans (by decide))))
  · exact Or.inr (Or.inr (Or.inl (Int32.toInt_inj.mp (h.trans (by decide)))))
  · exact Or.inr (Or.inr (Or.inr (Int32.toInt_inj.mp (h.trans (by decide)))))
theorem own_ord {s : State} {args : Array Value} {t : Term} {a : Addr} {C n d : String} {k : Int32} (ev : t.eval args s none [] s = some (.ref a)) (h : (Jvm.Cond.eq (Term.field t C n d) (Term.int k)).value args s none s [] = some true) : Fld s s.heap a C n d (.int k) := by
  obtain ⟨u, w, hu, hw, k1, k2⟩ := cmp_v (Or.inl h)
  have hw' : (Term.int k).eval args s none [] s = some (.int k) := Term.int_eval k
  cases hw.symm.trans hw'
  obtain ⟨z, rfl⟩ : ∃ z, u = .int z := k2
  have hz : z = k := gotT (Cond.eq_ints hu hw') h
  subst hz
  exact Fld.start ((fld_at ev).symm.trans hu)
section OwnBounds
variable {c a b : Int32} {n : Int}
theorem own_i1 (h : c < a) (q : a.toInt ≤ b.toInt) : c < b := by rw [Int32.lt_iff_toInt_lt] at *; omega
theorem own_i2 (h : ¬ a < c) (q : a.toInt < b.toInt) : c < b := by rw [Int32.lt_iff_toInt_lt] at *; omega
theorem own_i3 (h : ¬ c < a) (q : b.toInt ≤ a.toInt) : ¬ c < b := by rw [Int32.lt_iff_toInt_lt] at *; omega
theorem own_i4 (h : a < c) (q : b.toInt ≤ a.toInt + 1) : ¬ c < b := by rw [Int32.lt_iff_toInt_lt] at *; omega
theorem own_j1 (h : c < a) (q : a.toInt ≤ b.toInt + 1) : ¬ b < c := by rw [Int32.lt_iff_toInt_lt] at *; omega
theorem own_j2 (h : ¬ a < c) (q : a.toInt ≤ b.toInt) : ¬ b < c := by rw [Int32.lt_iff_toInt_lt] at *; omega
theorem own_j3 (h : ¬ c < a) (q : b.toInt < a.toInt) : b < c := by rw [Int32.lt_iff_toInt_lt] at *; omega
theorem own_j4 (h : a < c) (q : b.toInt ≤ a.toInt) : b < c := by rw [Int32.lt_iff_toInt_lt] at *; omega
theorem own_k1 (h : c < a) (q : a.toInt ≤ b.toInt) : ¬ c = b := fun e => by rw [e, Int32.lt_iff_toInt_lt] at h; omega
theorem own_k2 (h : ¬ a < c) (q : a.toInt < b.toInt) : ¬ c = b := fun e => by rw [e, Int32.lt_iff_toInt_lt] at h; omega
theorem own_k3 (h : ¬ c < a) (q : b.toInt < a.toInt) : ¬ c = b := fun e => by rw [e, Int32.lt_iff_toInt_lt] at h; omega
theorem own_k4 (h : a < c) (q : b.toInt ≤ a.toInt) : ¬ c = b := fun e => by rw [e, Int32.lt_iff_toInt_lt] at h; omega
theorem own_c1 (h : c < a) (q : a.toInt = n) : c.toInt < n := by rw [Int32.lt_iff_toInt_lt] at h; omega
theorem own_c2 (h : ¬ a < c) (q : a.toInt = n) : c.toInt ≤ n := by rw [Int32.lt_iff_toInt_lt] at h; omega
theorem own_c3 (h : ¬ c < a) (q : a.toInt = n) : n ≤ c.toInt := by rw [Int32.lt_iff_toInt_lt] at h; omega
theorem own_c4 (h : a < c) (q : a.toInt = n) : n < c.toInt := by rw [Int32.lt_iff_toInt_lt] at h; omega
theorem own_c5 (h : c = a) (q : a.toInt = n) : c.toInt = n := by rw [h]; exact q
theorem own_c6 (h : ¬ c = a) (q : a.toInt = n) : ¬ c.toInt = n := fun e => h (Int32.toInt_inj.mp (e.trans q.symm))
end OwnBounds
theorem own_addc {a b c d : Int32} (h : b + c = d) : (a + b) + c = a + d := by rw [Int32.add_assoc, h]
theorem own_byte_of {v : Value} (h : fits .byte v = true) : ∃ w, v = .int w ∧ narrow .byte (.int w) = .int w := by
  cases v with
  | int w =>
    refine ⟨w, rfl, ?_⟩
    obtain ⟨h1, h2⟩ := rng_byte h
    have e := c_i2b w
    have e1 : (-128 : Int32).toInt = -128 := by decide
    have e2 : (127 : Int32).toInt = 127 := by decide
    rw [Int32.lt_iff_toInt_lt, e1] at h1
    rw [Int32.lt_iff_toInt_lt, e2] at h2
    have e3 : w.toInt8.toInt32 = w := Int32.toInt_inj.mp (by omega)
    exact congrArg Value.int e3
  | _ => simp [fits] at h
theorem own_arv_nostat {Z : State} {h : Heap} {a : Addr} {k : ClassId} {ty : FieldType} {z : Int32} {vs : List Value} {dv : Value} (F : Arv Z h a k ty z vs dv) : ∀ cell : Cell, h[a]? = some cell → cell.vm.isStatics = false := by
  obtain ⟨c, A, -⟩ := F
  intro cell hc
  cases A.1.symm.trans hc
  exact A.plain
theorem own_selP {s : State} {args : Array Value} {y y' : MethodName} (hsel : (Jvm.Cond.selects y'.cls y' y').before args s = true) (he : y.cls = y'.cls) (hp : s.PrivateAt y) (hi : (Jvm.Cond.instanceMethod y).before args s = true) (hy : y.cls ≠ "java/lang/invoke/MethodHandle" ∧ y.cls ≠ "java/lang/invoke/VarHandle") : (Jvm.Cond.selects y.cls y y).before args s = true := by
  obtain ⟨c2, r2, m2, -, -, q3, -, kP, hkP, hkPi⟩ := Cond.selects_spec hsel
  exact Jvm.Stand.selects_self_of_private (by rw [he]; exact findClass_of_methodNamed q3) hkP hkPi hp hi hy
theorem own_irr {a : Int32} : ¬ (a < a) := Int32.lt_irrefl
theorem own_irrL {a : Int64} : ¬ (a < a) := Int64.lt_irrefl
theorem own_sta_keep {Z : State} {h h' : Heap} {C n d : String} {v : Value} {ws : List Addr} (F : Sta Z h C n d v) (K : Keep h h' ws) (q : ∀ x ∈ ws, ∀ cell : Cell, h[x]? = some cell → cell.vm.isStatics = false) : Sta Z h' C n d v := by
  obtain ⟨cf, i, k, f, st, cell, h1, h2, h3, h4, h5, h6, h7⟩ := F
  refine ⟨cf, i, k, f, st, cell, h1, h2, h3, h4, K.2.1 _ _ h5 (fun hm => ?_), h6, h7⟩
  have := q _ hm _ h5
  rw [h6] at this
  cases this
end Jvm.OwnKit
namespace Jvm.Pilot.@@N@@
open Jvm Jvm.ClassFile Sem Op Lib Jvm.Free Jvm.Stand Jvm.LawKit Jvm.RoadKit Jvm.OwnKit Bundle Jvm.Pilot.@@N@@.Jvm.D
theorem own_c255 (a : Int32) : ¬ (255 : Int32) < ((a &&& (255 : Int32)).toUInt32.toUInt16.toUInt32.toInt32) := by
  have e := c_mask a 255 8 (by decide) (by decide)
  have e2 := c_i2c (a &&& (255 : Int32))
  have h0 : (255 : Int32).toInt = 255 := by decide
  rw [Int32.lt_iff_toInt_lt, h0]
  omega
theorem own_negz {a : Int32} (h : a = (0 : Int32)) : FP.Core.DInt a.toInt (9223372036854775808 : UInt64) := by
  subst h
  have e := FP.Core.dneg_int (FP.Core.i2d_int (0 : Int32))
  have q : FP.Core.dneg (FP.Core.i2d (0 : Int32)) = (9223372036854775808 : UInt64) := by decide +kernel
  rw [q] at e
  have z : -((0 : Int32).toInt) = (0 : Int32).toInt := by decide
  rw [z] at e
  exact e
theorem own_dc {a b : Int32} {x1 y1 : UInt64} (ha : FP.Core.DInt a.toInt x1) (hb : FP.Core.DInt b.toInt y1) : (cmpValue (FP.dcmp x1 y1) .l) = (0 : Int32) ↔ a = b := by
  have e : FP.dcmp x1 y1 = some (compare a.toInt b.toInt) := FP.Core.dcmp_int ha hb
  rw [cmpV_l, e]
  rcases Int.lt_trichotomy a.toInt b.toInt with h | h | h
  · rw [Int.compare_eq_lt.mpr h]
    exact ⟨fun q => absurd q (by decide), fun q => absurd (congrArg Int32.toInt q) (by omega)⟩
  · rw [h, Int.compare_eq_eq.mpr rfl]
    exact ⟨fun _ => Int32.toInt_inj.mp h, fun _ => rfl⟩
  · rw [Int.compare_eq_gt.mpr h]
    exact ⟨fun q => absurd q (by decide), fun q => absurd (congrArg Int32.toInt q) (by omega)⟩
theorem d2_0 : decode jdk_43_method_3_code 0 = .ok (.iload_n 0, 1) := by decide +kernel
theorem d2_1 : decode jdk_43_method_3_code 1 = .ok (.sipush 255, 3) := by decide +kernel
theorem d2_4 : decode jdk_43_method_3_code 4 = .ok (.if_icmp .gt 7, 3) := by decide +kernel
theorem d2_11 : decode jdk_43_method_3_code 11 = .ok (.iconst 0, 1) := by decide +kernel
theorem d2_12 : decode jdk_43_method_3_code 12 = .ok (.ireturn, 1) := by decide +kernel
theorem d2_7 : decode jdk_43_method_3_code 7 = .ok (.iconst 1, 1) := by decide +kernel
theorem d2_8 : decode jdk_43_method_3_code 8 = .ok (.goto 4, 3) := by decide +kernel
theorem pn_0 : plainName "java/lang/StringLatin1" = true := by first | (simp [plainName, overriddenIn]; done) | decide +kernel
theorem ef_rmCan (m : MethodId) (ch : Int32) : entryFrame m #[(.int ch)] 1 = mkF m 0 #[.val (.int ch)] [] := by first | (simp [entryFrame, mkF, argsToLocals, Value.category]; done) | rfl
def QrmCan (Z : State) (ch : Int32) (h0 : Heap) (n0 : Nat) (rV : Option Value) (hE : Heap) (LE : List Loc) : Prop := rV = some (.int (b2i (¬ ((255 : Int32) < ch)))) ∧ Fr n0 LE ∧ hE = h0
set_option maxRecDepth 65536 in
set_option maxHeartbeats 40000000 in
theorem rmCan (l : Launch) (Z : State) (a0 : Array Value) (hw : ∀ d ∈ tables_1, d.before a0 Z = true) (ws : List Jvm.Cond) (ch : Int32) (h0 : Heap) (n0 : Nat) (Z0 : n0 ≤ h0.size) :
    MetFree l (⟨"java/lang/StringLatin1", "canEncode", "(C)Z"⟩ : MethodName) (head1 (Jvm.Cond.code (⟨"java/lang/StringLatin1", "canEncode", "(C)Z"⟩ : MethodName) jdk_43_method_3_code 1 (some .boolean) :: ws) ({ frames := 0, cells := 0, slots := 0, locals := 0 } : Room)) (fun aA UA => aA = #[(.int ch)] ∧ Z.Warmed39 UA.vm ∧ UA.heap = h0) (fun _ _ _ _ _ => True) (fun _ UA oA UB => ∃ rV LE, oA = .returned rV ∧ QrmCan Z ch h0 n0 rV UB.heap LE ∧ FrameEnd UA oA UB LE ({ frames := 0, cells := 0, slots := 0, locals := 0 } : Room).cells ({ frames := 0, cells := 0, slots := 0, locals := 0 } : Room).slots) := by
  refine MetFree.of_bodySF (plainFor_of_name pn_0) hisR ?_
  intro p e s m args below meth c s₁ Bd hml0 hP hK
  obtain ⟨rfl, hZ, hh⟩ := hP
  have hx := Bd.exec
  have hby := Bd.bytes
  have hml : c.maxLocals = 1 := hml0
  have hown : s.vm.findClass "java/lang/StringLatin1" = some m.cls := findClass_of_methodNamed Bd.named
  have hnm := (name_of_methodNamed Bd.named Bd.method).1
  have hlk := Bd.notSynchronized
  have X0 : Stand p l e ({ frames := 0, cells := 0, slots := 0, locals := 0 } : Room) s m #[(.int ch)] below meth c s₁ [] 0 0 := Stand.of_body Bd
  have e0 : s₁.heap = h0 := by rw [← hh, Bd.state]; rfl
  have N0 := Fr.nil n0
  show Go p e below s (QrmCan Z ch h0 n0) ({ frames := 0, cells := 0, slots := 0, locals := 0 } : Room).cells ({ frames := 0, cells := 0, slots := 0, locals := 0 } : Room).slots s₁ (entryFrame m #[(.int ch)] 1)
  refine Go.eq (ef_rmCan m ch) ?_
  show Go p e below s _ _ _ s₁ (mkF m 0 #[.val (.int ch)] [])
  refine Go.st (fun _ => XS.iloadN X0.here hx rfl (hb hby d2_0) rfl) ?_
  show Go p e below s _ _ _ s₁ (mkF m 1 #[.val (.int ch)] [(.int ch)])
  refine Go.st (fun _ => XS.sipush X0.here hx rfl (hb hby d2_1)) ?_
  show Go p e below s _ _ _ s₁ (mkF m 4 #[.val (.int ch)] [(.int (255 : Int32)), (.int ch)])
  by_cases hc_1 : (255 : Int32) < ch
  · refine Go.st (fun _ => XS.icmpYes X0.here hx rfl (pc0 := 4) (pc' := 11) rfl (hb hby d2_4) rfl (tlt hc_1).2.2.1 (by decide) (by decide)) ?_
    show Go p e below s _ _ _ s₁ (mkF m 11 #[.val (.int ch)] [])
    refine Go.st (fun _ => XS.iconst X0.here hx rfl (hb hby d2_11)) ?_
    show Go p e below s _ _ _ s₁ (mkF m 12 #[.val (.int ch)] [(.int (0 : Int32))])
    exact Go.retZ X0 hx hlk Bd.returns (hb hby d2_12) rfl (by rw [e0]; exact ⟨(own_b2i_f (not_not_intro hc_1)), N0, rfl⟩) (by decide) (by decide)
  · refine Go.st (fun _ => XS.icmpNo X0.here hx rfl (hb hby d2_4) rfl (flt hc_1).2.2.1) ?_
    show Go p e below s _ _ _ s₁ (mkF m 7 #[.val (.int ch)] [])
    refine Go.st (fun _ => XS.iconst X0.here hx rfl (hb hby d2_7)) ?_
    show Go p e below s _ _ _ s₁ (mkF m 8 #[.val (.int ch)] [(.int (1 : Int32))])
    refine Go.st (fun _ => XS.goto X0.here hx rfl (pc0 := 8) (pc' := 12) rfl (hb hby d2_8) (by decide) (by decide)) ?_
    show Go p e below s _ _ _ s₁ (mkF m 12 #[.val (.int ch)] [(.int (1 : Int32))])
    exact Go.retZ X0 hx hlk Bd.returns (hb hby d2_12) rfl (by rw [e0]; exact ⟨(own_b2i_t hc_1), N0, rfl⟩) (by decide) (by decide)
theorem d3_0 : decode jdk_43_method_46_code 0 = .ok (.iconst 1, 1) := by decide +kernel
theorem d3_1 : decode jdk_43_method_46_code 1 = .ok (.newarray .byte, 2) := by decide +kernel
theorem d3_3 : decode jdk_43_method_46_code 3 = .ok (.dup, 1) := by decide +kernel
theorem d3_4 : decode jdk_43_method_46_code 4 = .ok (.iconst 0, 1) := by decide +kernel
theorem d3_5 : decode jdk_43_method_46_code 5 = .ok (.iload_n 0, 1) := by decide +kernel
theorem d3_6 : decode jdk_43_method_46_code 6 = .ok (.i2b, 1) := by decide +kernel
theorem d3_7 : decode jdk_43_method_46_code 7 = .ok (.bastore, 1) := by decide +kernel
theorem d3_8 : decode jdk_43_method_46_code 8 = .ok (.areturn, 1) := by decide +kernel
theorem ef_rmTob (m : MethodId) (ch : Int32) : entryFrame m #[(.int ch)] 1 = mkF m 0 #[.val (.int ch)] [] := by first | (simp [entryFrame, mkF, argsToLocals, Value.category]; done) | rfl
def QrmTob (Z : State) (ch : Int32) (h0 : Heap) (n0 : Nat) (rV : Option Value) (hE : Heap) (LE : List Loc) : Prop := ∃ d : Addr, ∃ kd : ClassId, rV = some (.ref d) ∧ Fr n0 LE ∧ Keep h0 hE [] ∧ h0.size ≤ d ∧ n0 ≤ d ∧ Arv Z hE d kd .byte (1 : Int32) [(.int (ch.toInt8.toInt32))] (.int (0 : Int32))
set_option maxRecDepth 65536 in
set_option maxHeartbeats 40000000 in
theorem rmTob (l : Launch) (Z : State) (a0 : Array Value) (hw : ∀ d ∈ tables_1, d.before a0 Z = true) (ws : List Jvm.Cond) (ch : Int32) (h0 : Heap) (n0 : Nat) (Z0 : n0 ≤ h0.size) :
    MetFree l (⟨"java/lang/StringLatin1", "toBytes", "(C)[B"⟩ : MethodName) (head1 (Jvm.Cond.code (⟨"java/lang/StringLatin1", "toBytes", "(C)[B"⟩ : MethodName) jdk_43_method_46_code 1 (some (.array .byte)) :: ws) ({ frames := 0, cells := 1, slots := 1, locals := 0 } : Room)) (fun aA UA => aA = #[(.int ch)] ∧ Z.Warmed39 UA.vm ∧ UA.heap = h0) (fun _ _ _ _ _ => True) (fun _ UA oA UB => ∃ rV LE, oA = .returned rV ∧ QrmTob Z ch h0 n0 rV UB.heap LE ∧ FrameEnd UA oA UB LE ({ frames := 0, cells := 1, slots := 1, locals := 0 } : Room).cells ({ frames := 0, cells := 1, slots := 1, locals := 0 } : Room).slots) := by
  refine MetFree.of_bodySF (plainFor_of_name pn_0) hisR ?_
  intro p e s m args below meth c s₁ Bd hml0 hP hK
  obtain ⟨rfl, hZ, hh⟩ := hP
  have hx := Bd.exec
  have hby := Bd.bytes
  have hml : c.maxLocals = 1 := hml0
  have hown : s.vm.findClass "java/lang/StringLatin1" = some m.cls := findClass_of_methodNamed Bd.named
  have hnm := (name_of_methodNamed Bd.named Bd.method).1
  have hlk := Bd.notSynchronized
  have X0 : Stand p l e ({ frames := 0, cells := 1, slots := 1, locals := 0 } : Room) s m #[(.int ch)] below meth c s₁ [] 0 0 := Stand.of_body Bd
  have e0 : s₁.heap = h0 := by rw [← hh, Bd.state]; rfl
  have N0 := Fr.nil n0
  show Go p e below s (QrmTob Z ch h0 n0) ({ frames := 0, cells := 1, slots := 1, locals := 0 } : Room).cells ({ frames := 0, cells := 1, slots := 1, locals := 0 } : Room).slots s₁ (entryFrame m #[(.int ch)] 1)
  refine Go.eq (ef_rmTob m ch) ?_
  show Go p e below s _ _ _ s₁ (mkF m 0 #[.val (.int ch)] [])
  refine Go.st (fun _ => XS.iconst X0.here hx rfl (hb hby d3_0)) ?_
  show Go p e below s _ _ _ s₁ (mkF m 1 #[.val (.int ch)] [(.int (1 : Int32))])
  obtain ⟨T_1, h_1, kA_1, X_1, e_1, E_1, A_1, st_1⟩ := newP X0 hx hZ (hw _ (List.mem_of_getElem? (i := 17) rfl)) e0 (g := (mkF m 1 #[.val (.int ch)] [(.int (1 : Int32))])) rfl (hb hby d3_1) rfl (by decide) (cap := 1) (by decide) (by decide) (by decide) (by decide)
  obtain ⟨b_1, g_1⟩ : ∃ z, z = h0.size := ⟨_, rfl⟩
  rw [← g_1] at A_1 st_1
  refine Go.st st_1 ?_
  have gg_1 : n0 ≤ b_1 := Nat.le_trans Z0 (Nat.le_of_eq g_1.symm)
  have sz_1 : h0.size ≤ b_1 := Nat.le_trans (Keep.refl h0 []).1 (Nat.le_of_eq g_1.symm)
  have K_1 : Keep h0 h_1 [] := (Keep.refl h0 []).ext E_1
  have z_1 : n0 ≤ h_1.size := Nat.le_trans Z0 E_1.1
  have V_b_1 : Arv Z h_1 b_1 kA_1 .byte (1 : Int32) [(.int (0 : Int32))] (.int (0 : Int32)) := (Arv.new A_1 (by decide)).pad (pad_rep [] (.int (0 : Int32)) 1)
  show Go p e below s _ _ _ T_1 (mkF m 3 #[.val (.int ch)] [(.ref b_1)])
  refine Go.st (fun _ => XS.dup X_1.here hx rfl (hb hby d3_3) rfl rfl) ?_
  show Go p e below s _ _ _ T_1 (mkF m 4 #[.val (.int ch)] [(.ref b_1), (.ref b_1)])
  refine Go.st (fun _ => XS.iconst X_1.here hx rfl (hb hby d3_4)) ?_
  show Go p e below s _ _ _ T_1 (mkF m 5 #[.val (.int ch)] [(.int (0 : Int32)), (.ref b_1), (.ref b_1)])
  refine Go.st (fun _ => XS.iloadN X_1.here hx rfl (hb hby d3_5) rfl) ?_
  show Go p e below s _ _ _ T_1 (mkF m 6 #[.val (.int ch)] [(.int ch), (.int (0 : Int32)), (.ref b_1), (.ref b_1)])
  refine Go.st (fun _ => XS.i2b X_1.here hx rfl (hb hby d3_6) rfl) ?_
  show Go p e below s _ _ _ T_1 (mkF m 7 #[.val (.int ch)] [(.int (ch.toInt8.toInt32)), (.int (0 : Int32)), (.ref b_1), (.ref b_1)])
  obtain ⟨cl_2, Ar_2, q_2, S_2, M_2, H_2, G_2⟩ := id V_b_1
  have hin_2 : ¬ ((0 : Int32) < 0 ∨ cl_2.slots.size ≤ ((0 : Int32)).toNatClampNeg) := inb_of S_2 ⟨by decide, by decide⟩
  obtain ⟨T_2, h_2, X_2, e_2, W_2, st_2⟩ := stB X_1 hx hZ e_1 Ar_2 (j := (0 : Int32)) hin_2 (g := (mkF m 7 #[.val (.int ch)] [(.int (ch.toInt8.toInt32)), (.int (0 : Int32)), (.ref b_1), (.ref b_1)])) rfl rfl (hb hby d3_7)
  refine Go.st st_2 ?_
  rw [own_nb] at W_2
  have V_2 : Arv Z h_2 b_1 kA_1 .byte (1 : Int32) [(.int (ch.toInt8.toInt32))] (.int (0 : Int32)) := Arv.set Ar_2 q_2 S_2 M_2 H_2 G_2 (fits_nar_byte _) W_2 0 rfl (Nat.le_of_ble_eq_true rfl)
  have N_2 := Fr.snoc X_2 N0 gg_1
  have K_2 : Keep h0 h_2 [] := K_1.wr W_2 (Or.inr sz_1)
  have z_2 : n0 ≤ h_2.size := Nat.le_trans z_1 (Nat.le_of_eq W_2.size.symm)
  show Go p e below s _ _ _ T_2 (mkF m 8 #[.val (.int ch)] [(.ref b_1)])
  exact Go.retA X_2 hx hlk Bd.returns rfl rfl (hb hby d3_8) (by rw [e_2]; exact ⟨b_1, kA_1, rfl, N_2, K_2, sz_1, gg_1, V_2⟩) (by decide) (by decide)
theorem d4_0 : decode jdk_42_method_151_code 0 = .ok (.aload_n 0, 1) := by decide +kernel
theorem d4_1 : decode jdk_42_method_151_code 1 = .ok (.invokespecial 1, 3) := by decide +kernel
theorem d4_4 : decode jdk_42_method_151_code 4 = .ok (.aload_n 0, 1) := by decide +kernel
theorem d4_5 : decode jdk_42_method_151_code 5 = .ok (.aload_n 1, 1) := by decide +kernel
theorem d4_6 : decode jdk_42_method_151_code 6 = .ok (.putfield 9, 3) := by decide +kernel
theorem d4_9 : decode jdk_42_method_151_code 9 = .ok (.aload_n 0, 1) := by decide +kernel
theorem d4_10 : decode jdk_42_method_151_code 10 = .ok (.iload_n 2, 1) := by decide +kernel
theorem d4_11 : decode jdk_42_method_151_code 11 = .ok (.putfield 15, 3) := by decide +kernel
theorem d4_14 : decode jdk_42_method_151_code 14 = .ok (.return_, 1) := by decide +kernel
theorem pn_1 : plainName "java/lang/String" = true := by first | (simp [plainName, overriddenIn]; done) | decide +kernel
theorem ef_rmSi (m : MethodId) (a : Addr) (t : Addr) : entryFrame m #[(.ref a), (.ref t), (.int (0 : Int32))] 3 = mkF m 0 #[.val (.ref a), .val (.ref t), .val (.int (0 : Int32))] [] := by first | (simp [entryFrame, mkF, argsToLocals, Value.category]; done) | rfl
def QrmSi (Z : State) (a : Addr) (t : Addr) (h0 : Heap) (n0 : Nat) (rV : Option Value) (hE : Heap) (LE : List Loc) : Prop := rV = none ∧ Fr n0 LE ∧ Keep h0 hE [a] ∧ Exa Z hE a "java/lang/String" ∧ Fld Z hE a "java/lang/String" "value" "[B" (.ref t) ∧ Fld Z hE a "java/lang/String" "coder" "B" (.int (0 : Int32))
set_option maxRecDepth 65536 in
set_option maxHeartbeats 40000000 in
theorem rmSi (l : Launch) (Z : State) (a0 : Array Value) (hw : ∀ d ∈ tables_1, d.before a0 Z = true) (ws : List Jvm.Cond) (a : Addr) (t : Addr) (h0 : Heap) (n0 : Nat) (Z0 : n0 ≤ h0.size) (E_a : Exa Z h0 a "java/lang/String") (F_value_a : Fld Z h0 a "java/lang/String" "value" "[B" .null) (F_coder_a : Fld Z h0 a "java/lang/String" "coder" "B" (.int (0 : Int32))) (g_a : n0 ≤ a) :
    MetFree l (⟨"java/lang/String", "<init>", "([BB)V"⟩ : MethodName) (head1 (Jvm.Cond.code (⟨"java/lang/String", "<init>", "([BB)V"⟩ : MethodName) jdk_42_method_151_code 3 none :: ws) ({ frames := 1, cells := 0, slots := 0, locals := 12 } : Room)) (fun aA UA => aA = #[(.ref a), (.ref t), (.int (0 : Int32))] ∧ Z.Warmed39 UA.vm ∧ UA.heap = h0) (fun _ _ _ _ _ => True) (fun _ UA oA UB => ∃ rV LE, oA = .returned rV ∧ QrmSi Z a t h0 n0 rV UB.heap LE ∧ FrameEnd UA oA UB LE ({ frames := 1, cells := 0, slots := 0, locals := 12 } : Room).cells ({ frames := 1, cells := 0, slots := 0, locals := 12 } : Room).slots) := by
  refine MetFree.of_bodySF (plainFor_of_name pn_1) hisR ?_
  intro p e s m args below meth c s₁ Bd hml0 hP hK
  obtain ⟨rfl, hZ, hh⟩ := hP
  have hx := Bd.exec
  have hby := Bd.bytes
  have hml : c.maxLocals = 3 := hml0
  have hown : s.vm.findClass "java/lang/String" = some m.cls := findClass_of_methodNamed Bd.named
  have hnm := (name_of_methodNamed Bd.named Bd.method).1
  have hlk := Bd.notSynchronized
  have X0 : Stand p l e ({ frames := 1, cells := 0, slots := 0, locals := 12 } : Room) s m #[(.ref a), (.ref t), (.int (0 : Int32))] below meth c s₁ [] 0 0 := Stand.of_body Bd
  have e0 : s₁.heap = h0 := by rw [← hh, Bd.state]; rfl
  have N0 := Fr.nil n0
  show Go p e below s (QrmSi Z a t h0 n0) ({ frames := 1, cells := 0, slots := 0, locals := 12 } : Room).cells ({ frames := 1, cells := 0, slots := 0, locals := 12 } : Room).slots s₁ (entryFrame m #[(.ref a), (.ref t), (.int (0 : Int32))] 3)
  refine Go.eq (ef_rmSi m a t) ?_
  show Go p e below s _ _ _ s₁ (mkF m 0 #[.val (.ref a), .val (.ref t), .val (.int (0 : Int32))] [])
  refine Go.st (fun _ => XS.aloadN X0.here hx rfl (hb hby d4_0) rfl rfl) ?_
  show Go p e below s _ _ _ s₁ (mkF m 1 #[.val (.ref a), .val (.ref t), .val (.int (0 : Int32))] [(.ref a)])
  obtain ⟨T_1, X_1, e_1, st_1⟩ := initO X0 hx hZ hown (hw _ (List.mem_of_getElem? (i := 22) rfl)) (hw _ (List.mem_of_getElem? (i := 23) rfl)) (hw _ (List.mem_of_getElem? (i := 24) rfl)) e0 (g := (mkF m 1 #[.val (.ref a), .val (.ref t), .val (.int (0 : Int32))] [(.ref a)])) rfl (by rw [hml]; rfl) rfl (hb hby d4_1) (by decide) (W := 0) (by show 2 * 0 + _ ≤ _; exact Nat.le_of_eq rfl) (by decide)
  refine Go.st st_1 ?_
  show Go p e below s _ _ _ T_1 (mkF m 4 #[.val (.ref a), .val (.ref t), .val (.int (0 : Int32))] [])
  refine Go.st (fun _ => XS.aloadN X_1.here hx rfl (hb hby d4_4) rfl rfl) ?_
  show Go p e below s _ _ _ T_1 (mkF m 5 #[.val (.ref a), .val (.ref t), .val (.int (0 : Int32))] [(.ref a)])
  refine Go.st (fun _ => XS.aloadN X_1.here hx rfl (hb hby d4_5) rfl rfl) ?_
  show Go p e below s _ _ _ T_1 (mkF m 6 #[.val (.ref a), .val (.ref t), .val (.int (0 : Int32))] [(.ref t), (.ref a)])
  obtain ⟨T_2, h_2, X_2, e_2, W_2, st_2⟩ := putF X_1 hx hZ hown (host := "") (Or.inl (hw _ (List.mem_of_getElem? (i := 25) rfl))) Via.refl e_1 F_value_a E_a (Or.inr ⟨(hw _ (List.mem_of_getElem? (i := 26) rfl)), rfl, hnm⟩) (hw _ (List.mem_of_getElem? (i := 13) rfl)) (ty := (.array .byte)) (by decide) rfl rfl (g := (mkF m 6 #[.val (.ref a), .val (.ref t), .val (.int (0 : Int32))] [(.ref t), (.ref a)])) rfl rfl (hb hby d4_6)
  refine Go.st st_2 ?_
  have N_2 := Fr.snoc X_2 N0 g_a
  have K_2 : Keep h0 h_2 [a] := (Keep.refl h0 [a]).wr W_2 (Or.inl (List.mem_of_getElem? (i := 0) rfl))
  have z_2 : n0 ≤ h_2.size := Nat.le_trans Z0 (Nat.le_of_eq W_2.size.symm)
  have Fw_2 := F_value_a.same W_2
  show Go p e below s _ _ _ T_2 (mkF m 9 #[.val (.ref a), .val (.ref t), .val (.int (0 : Int32))] [])
  refine Go.st (fun _ => XS.aloadN X_2.here hx rfl (hb hby d4_9) rfl rfl) ?_
  show Go p e below s _ _ _ T_2 (mkF m 10 #[.val (.ref a), .val (.ref t), .val (.int (0 : Int32))] [(.ref a)])
  refine Go.st (fun _ => XS.iloadN X_2.here hx rfl (hb hby d4_10) rfl) ?_
  show Go p e below s _ _ _ T_2 (mkF m 11 #[.val (.ref a), .val (.ref t), .val (.int (0 : Int32))] [(.int (0 : Int32)), (.ref a)])
  have f_3 := (E_a.wr W_2)
  have f_4 := (F_coder_a.other W_2 (Or.inr (slot_ne (Or.inr (hw _ (List.mem_of_getElem? (i := 28) rfl))) (Or.inr (hw _ (List.mem_of_getElem? (i := 26) rfl))) (by decide) (t := .byte) (t' := (.array .byte)) (by decide) (by decide))))
  obtain ⟨T_5, h_5, X_5, e_5, W_5, st_5⟩ := putF X_2 hx hZ hown (host := "") (Or.inl (hw _ (List.mem_of_getElem? (i := 27) rfl))) Via.refl e_2 f_4 f_3 (Or.inr ⟨(hw _ (List.mem_of_getElem? (i := 28) rfl)), rfl, hnm⟩) (hw _ (List.mem_of_getElem? (i := 13) rfl)) (ty := .byte) (by decide) rfl rfl (g := (mkF m 11 #[.val (.ref a), .val (.ref t), .val (.int (0 : Int32))] [(.int (0 : Int32)), (.ref a)])) rfl rfl (hb hby d4_11)
  refine Go.st st_5 ?_
  have N_5 := Fr.snoc X_5 N_2 g_a
  have K_5 : Keep h0 h_5 [a] := K_2.wr W_5 (Or.inl (List.mem_of_getElem? (i := 0) rfl))
  have z_5 : n0 ≤ h_5.size := Nat.le_trans z_2 (Nat.le_of_eq W_5.size.symm)
  have Fw_5 := f_4.same W_5
  show Go p e below s _ _ _ T_5 (mkF m 14 #[.val (.ref a), .val (.ref t), .val (.int (0 : Int32))] [])
  have f_6 := (f_3.wr W_5)
  have f_7 := (Fw_2.other W_5 (Or.inr (slot_ne (Or.inr (hw _ (List.mem_of_getElem? (i := 26) rfl))) (Or.inr (hw _ (List.mem_of_getElem? (i := 28) rfl))) (by decide) (t := (.array .byte)) (t' := .byte) (by decide) (by decide))))
  exact Go.ret0 X_5 hx hlk Bd.returns (hb hby d4_14) (by rw [e_5]; exact ⟨rfl, N_5, K_5, f_6, f_7, Fw_5⟩) (by decide) (by decide)
theorem d1_0 : decode jdk_42_method_139_code 0 = .ok (.getstatic 38, 3) := by decide +kernel
theorem d1_3 : decode jdk_42_method_139_code 3 = .ok (.ifCond .eq 23, 3) := by decide +kernel
theorem d1_6 : decode jdk_42_method_139_code 6 = .ok (.iload_n 0, 1) := by decide +kernel
theorem d1_7 : decode jdk_42_method_139_code 7 = .ok (.invokestatic 1015, 3) := by decide +kernel
theorem pd_0 : parseMethodDescriptor "(C)Z" = some ⟨[.char], some .boolean⟩ := by decide +kernel
theorem d1_10 : decode jdk_42_method_139_code 10 = .ok (.ifCond .eq 16, 3) := by decide +kernel
theorem d1_13 : decode jdk_42_method_139_code 13 = .ok (.new 10, 3) := by decide +kernel
theorem d1_16 : decode jdk_42_method_139_code 16 = .ok (.dup, 1) := by decide +kernel
theorem d1_17 : decode jdk_42_method_139_code 17 = .ok (.iload_n 0, 1) := by decide +kernel
theorem d1_18 : decode jdk_42_method_139_code 18 = .ok (.invokestatic 1018, 3) := by decide +kernel
theorem pd_1 : parseMethodDescriptor "(C)[B" = some ⟨[.char], some (.array .byte)⟩ := by decide +kernel
theorem d1_21 : decode jdk_42_method_139_code 21 = .ok (.iconst 0, 1) := by decide +kernel
theorem d1_22 : decode jdk_42_method_139_code 22 = .ok (.invokespecial 209, 3) := by decide +kernel
theorem pd_2 : parseMethodDescriptor "([BB)V" = some ⟨[(.array .byte), .byte], none⟩ := by decide +kernel
theorem d1_25 : decode jdk_42_method_139_code 25 = .ok (.areturn, 1) := by decide +kernel
theorem ef_rmVo (m : MethodId) (ch : Int32) : entryFrame m #[(.int ch)] 1 = mkF m 0 #[.val (.int ch)] [] := by first | (simp [entryFrame, mkF, argsToLocals, Value.category]; done) | rfl
def QrmVo (Z : State) (ch : Int32) (cs : Int32) (h0 : Heap) (n0 : Nat) (rV : Option Value) (hE : Heap) (LE : List Loc) : Prop := ∃ b : Addr, ∃ d : Addr, ∃ kd : ClassId, rV = some (.ref b) ∧ Fr n0 LE ∧ Keep h0 hE [] ∧ h0.size ≤ b ∧ n0 ≤ b ∧ Exa Z hE b "java/lang/String" ∧ Fld Z hE b "java/lang/String" "value" "[B" (.ref d) ∧ Fld Z hE b "java/lang/String" "coder" "B" (.int (0 : Int32)) ∧ h0.size ≤ d ∧ n0 ≤ d ∧ Arv Z hE d kd .byte (1 : Int32) [(.int (ch.toInt8.toInt32))] (.int (0 : Int32)) ∧ b ≠ d
set_option maxRecDepth 65536 in
set_option maxHeartbeats 40000000 in
theorem rmVo (l : Launch) (Z : State) (a0 : Array Value) (hw : ∀ d ∈ tables_1, d.before a0 Z = true) (ws : List Jvm.Cond) (ch : Int32) (cs : Int32) (h0 : Heap) (n0 : Nat) (Z0 : n0 ≤ h0.size) (S_COMPACT_STRINGS : Sta Z h0 "java/lang/String" "COMPACT_STRINGS" "Z" (.int cs)) (hcs : ¬ (cs = (0 : Int32))) (hch : ¬ ((255 : Int32) < ch)) :
    MetFree l (⟨"java/lang/String", "valueOf", "(C)Ljava/lang/String;"⟩ : MethodName) (head1 (Jvm.Cond.code (⟨"java/lang/String", "valueOf", "(C)Ljava/lang/String;"⟩ : MethodName) jdk_42_method_139_code 1 (some (.object "java/lang/String")) :: ws) ({ frames := 2, cells := 2, slots := 5, locals := 27 } : Room)) (fun aA UA => aA = #[(.int ch)] ∧ Z.Warmed39 UA.vm ∧ UA.heap = h0) (fun _ _ _ _ _ => True) (fun _ UA oA UB => ∃ rV LE, oA = .returned rV ∧ QrmVo Z ch cs h0 n0 rV UB.heap LE ∧ FrameEnd UA oA UB LE ({ frames := 2, cells := 2, slots := 5, locals := 27 } : Room).cells ({ frames := 2, cells := 2, slots := 5, locals := 27 } : Room).slots) := by
  refine MetFree.of_bodySF (plainFor_of_name pn_1) hisR ?_
  intro p e s m args below meth c s₁ Bd hml0 hP hK
  obtain ⟨rfl, hZ, hh⟩ := hP
  have hx := Bd.exec
  have hby := Bd.bytes
  have hml : c.maxLocals = 1 := hml0
  have hown : s.vm.findClass "java/lang/String" = some m.cls := findClass_of_methodNamed Bd.named
  have hnm := (name_of_methodNamed Bd.named Bd.method).1
  have hlk := Bd.notSynchronized
  have X0 : Stand p l e ({ frames := 2, cells := 2, slots := 5, locals := 27 } : Room) s m #[(.int ch)] below meth c s₁ [] 0 0 := Stand.of_body Bd
  have e0 : s₁.heap = h0 := by rw [← hh, Bd.state]; rfl
  have N0 := Fr.nil n0
  show Go p e below s (QrmVo Z ch cs h0 n0) ({ frames := 2, cells := 2, slots := 5, locals := 27 } : Room).cells ({ frames := 2, cells := 2, slots := 5, locals := 27 } : Room).slots s₁ (entryFrame m #[(.int ch)] 1)
  refine Go.eq (ef_rmVo m ch) ?_
  show Go p e below s _ _ _ s₁ (mkF m 0 #[.val (.int ch)] [])
  obtain ⟨T_1, X_1, e_1, st_1⟩ := getS2 X0 hx hZ hown (host := "") (Or.inl (hw _ (List.mem_of_getElem? (i := 7) rfl))) Via.refl e0 S_COMPACT_STRINGS (g := (mkF m 0 #[.val (.int ch)] [])) rfl (hb hby d1_0)
  refine Go.st st_1 ?_
  show Go p e below s _ _ _ T_1 (mkF m 3 #[.val (.int ch)] [(.int cs)])
  refine Go.st (fun _ => XS.ifNo X_1.here hx rfl (hb hby d1_3) rfl ((if0 _ _).trans (feq hcs).1)) ?_
  show Go p e below s _ _ _ T_1 (mkF m 6 #[.val (.int ch)] [])
  refine Go.st (fun _ => XS.iloadN X_1.here hx rfl (hb hby d1_6) rfl) ?_
  show Go p e below s _ _ _ T_1 (mkF m 7 #[.val (.int ch)] [(.int ch)])
  obtain ⟨_, _, ⟨T_2, L_2, kc_2, nc_2⟩, -, X_2, ⟨Lc_2, hQ_2, l_2, y_2, z_2⟩, st_2⟩ := Jvm.LawKit.callS X_1 hx (y := (⟨"java/lang/StringLatin1", "canEncode", "(C)Z"⟩ : MethodName)) hown (mvT hZ (hw _ (List.mem_of_getElem? (i := 8) rfl))) (mvT hZ (hw _ (List.mem_of_getElem? (i := 9) rfl))) (mvT hZ (hw _ (List.mem_of_getElem? (i := 10) rfl))) (mvT hZ (hw _ (List.mem_of_getElem? (i := 11) rfl))) (by decide) (backOf (W := 0) (rmCan l Z a0 hw [] ch h0 n0 Z0 ) hZ (hw _ (List.mem_of_getElem? (i := 11) rfl)) (hw _ (List.mem_of_getElem? (i := 10) rfl)) (by decide) (by decide)) (g := (mkF m 7 #[.val (.int ch)] [(.int ch)])) rfl (by rw [hml]; rfl) (argsL := [(.int ch)]) (rest := []) (lenOf pd_0 rfl) rfl (by show 2 * 0 + _ ≤ _; exact Nat.le_of_eq rfl) (hb hby d1_7) (fun _ _ => ⟨rfl, e_1, (by decide : 0 + 0 ≤ _), (by decide : 0 + 0 ≤ _)⟩)
  dsimp only [Pt.U, Pt.locs, Pt.cells, Pt.slots] at X_2 l_2 y_2 z_2 st_2 hQ_2
  obtain rfl : kc_2 = 0 := y_2
  obtain rfl : nc_2 = 0 := z_2
  obtain ⟨h_2, e_2⟩ : ∃ hh, T_2.heap = hh := ⟨_, rfl⟩
  rw [e_2] at hQ_2
  obtain ⟨rfl, N_2q, sm_2⟩ := hQ_2
  have N_2 : Fr n0 L_2 := by rw [l_2]; exact Fr.app N0 N_2q
  refine Go.st st_2 ?_
  rw [sm_2] at e_2
  show Go p e below s _ _ _ T_2 (mkF m 10 #[.val (.int ch)] [(.int (b2i (¬ ((255 : Int32) < ch))))])
  rw [show (b2i (¬ ((255 : Int32) < ch))) = (1 : Int32) from b2i_pos hch]
  show Go p e below s _ _ _ T_2 (mkF m 10 #[.val (.int ch)] [(.int (1 : Int32))])
  refine Go.st (fun _ => XS.ifNo X_2.here hx rfl (hb hby d1_10) rfl ((if0 _ _).trans (feq (by decide : ¬ ((1 : Int32) = (0 : Int32)))).1)) ?_
  show Go p e below s _ _ _ T_2 (mkF m 13 #[.val (.int ch)] [])
  obtain ⟨T_3, h_3, X_3, e_3, E_3, A_3, D_3, -, st_3⟩ := newO X_2 hx hZ hown (hw _ (List.mem_of_getElem? (i := 12) rfl)) (hw _ (List.mem_of_getElem? (i := 13) rfl)) (hw _ (List.mem_of_getElem? (i := 5) rfl)) e_2 (g := (mkF m 13 #[.val (.int ch)] [])) rfl (hb hby d1_13) (by decide) (by decide)
  obtain ⟨b_3, g_3⟩ : ∃ z, z = h0.size := ⟨_, rfl⟩
  rw [← g_3] at A_3 D_3 st_3
  refine Go.st st_3 ?_
  have gg_3 : n0 ≤ b_3 := Nat.le_trans Z0 (Nat.le_of_eq g_3.symm)
  have sz_3 : h0.size ≤ b_3 := Nat.le_trans (Keep.refl h0 []).1 (Nat.le_of_eq g_3.symm)
  have K_3 : Keep h0 h_3 [] := (Keep.refl h0 []).ext E_3
  have z_3 : n0 ≤ h_3.size := Nat.le_trans Z0 E_3.1
  have F_value_b_3 : Fld Z h_3 b_3 "java/lang/String" "value" "[B" .null := D_3 (Or.inr (hw _ (List.mem_of_getElem? (i := 26) rfl))) (ty := (.array .byte)) (by decide)
  have F_coder_b_3 : Fld Z h_3 b_3 "java/lang/String" "coder" "B" (.int (0 : Int32)) := D_3 (Or.inr (hw _ (List.mem_of_getElem? (i := 28) rfl))) (ty := .byte) (by decide)
  show Go p e below s _ _ _ T_3 (mkF m 16 #[.val (.int ch)] [(.ref b_3)])
  refine Go.st (fun _ => XS.dup X_3.here hx rfl (hb hby d1_16) rfl rfl) ?_
  show Go p e below s _ _ _ T_3 (mkF m 17 #[.val (.int ch)] [(.ref b_3), (.ref b_3)])
  refine Go.st (fun _ => XS.iloadN X_3.here hx rfl (hb hby d1_17) rfl) ?_
  show Go p e below s _ _ _ T_3 (mkF m 18 #[.val (.int ch)] [(.int ch), (.ref b_3), (.ref b_3)])
  obtain ⟨_, _, ⟨T_4, L_4, kc_4, nc_4⟩, -, X_4, ⟨Lc_4, hQ_4, l_4, y_4, z_4⟩, st_4⟩ := Jvm.LawKit.callS X_3 hx (y := (⟨"java/lang/StringLatin1", "toBytes", "(C)[B"⟩ : MethodName)) hown (mvT hZ (hw _ (List.mem_of_getElem? (i := 14) rfl))) (mvT hZ (hw _ (List.mem_of_getElem? (i := 15) rfl))) (mvT hZ (hw _ (List.mem_of_getElem? (i := 10) rfl))) (mvT hZ (hw _ (List.mem_of_getElem? (i := 16) rfl))) (by decide) (backOf (W := 2) (rmTob l Z a0 hw [] ch h_3 n0 z_3 ) hZ (hw _ (List.mem_of_getElem? (i := 16) rfl)) (hw _ (List.mem_of_getElem? (i := 10) rfl)) (by decide) (by decide)) (g := (mkF m 18 #[.val (.int ch)] [(.int ch), (.ref b_3), (.ref b_3)])) rfl (by rw [hml]; rfl) (argsL := [(.int ch)]) (rest := [(.ref b_3), (.ref b_3)]) (lenOf pd_1 rfl) rfl (by show 2 * 0 + _ ≤ _; exact Nat.le_of_eq rfl) (hb hby d1_18) (fun _ _ => ⟨rfl, e_3, (by decide : 1 + 1 ≤ _), (by decide : 4 + 1 ≤ _)⟩)
  dsimp only [Pt.U, Pt.locs, Pt.cells, Pt.slots] at X_4 l_4 y_4 z_4 st_4 hQ_4
  obtain rfl : kc_4 = 2 := y_4
  obtain rfl : nc_4 = 5 := z_4
  obtain ⟨h_4, e_4⟩ : ∃ hh, T_4.heap = hh := ⟨_, rfl⟩
  rw [e_4] at hQ_4
  obtain ⟨d__4, kd__4, rfl, N_4q, K_4, p_4_0, p_4_1, p_4_2⟩ := hQ_4
  have N_4 : Fr n0 L_4 := by rw [l_4]; exact Fr.app N_2 N_4q
  refine Go.st st_4 ?_
  have ne_b_3_d__4 : b_3 ≠ d__4 := Nat.ne_of_lt (Nat.lt_of_lt_of_le A_3.lt p_4_0)
  have KK_4 : Keep h0 h_4 [] := K_3.trans K_4 all0
  have z_4q : n0 ≤ h_4.size := Nat.le_trans z_3 K_4.1
  have ns_4 : ∀ x ∈ ([] : List Addr), ∀ cell : Cell, h_3[x]? = some cell → cell.vm.isStatics = false := all0
  have sz_4_0 : h0.size ≤ d__4 := Nat.le_trans K_3.1 p_4_0
  show Go p e below s _ _ _ T_4 (mkF m 21 #[.val (.int ch)] [(.ref d__4), (.ref b_3), (.ref b_3)])
  refine Go.st (fun _ => XS.iconst X_4.here hx rfl (hb hby d1_21)) ?_
  show Go p e below s _ _ _ T_4 (mkF m 22 #[.val (.int ch)] [(.int (0 : Int32)), (.ref d__4), (.ref b_3), (.ref b_3)])
  have f_6 := (A_3.keep K_4)
  have f_7 := (F_value_b_3.keep K_4 nin0)
  have f_8 := (F_coder_b_3.keep K_4 nin0)
  obtain ⟨_, _, ⟨T_5, L_5, kc_5, nc_5⟩, -, X_5, ⟨Lc_5, hQ_5, l_5, y_5, z_5⟩, st_5⟩ := X_4.specialBack hx (y := (⟨"java/lang/String", "<init>", "([BB)V"⟩ : MethodName)) rfl hown (mvT hZ (hw _ (List.mem_of_getElem? (i := 18) rfl))) (mvT hZ (hw _ (List.mem_of_getElem? (i := 19) rfl))) (mvT hZ (hw _ (List.mem_of_getElem? (i := 21) rfl))) (by decide) (backOf (W := 1) (rmSi l Z a0 hw [] b_3 d__4 h_4 n0 z_4q f_6 f_7 f_8 gg_3) hZ (hw _ (List.mem_of_getElem? (i := 21) rfl)) (hw _ (List.mem_of_getElem? (i := 5) rfl)) (by decide) (by decide)) (g := (mkF m 22 #[.val (.int ch)] [(.int (0 : Int32)), (.ref d__4), (.ref b_3), (.ref b_3)])) rfl (by rw [hml]; rfl) (Steps.refl _) (a := b_3) (argsL := [(.ref d__4), (.int (0 : Int32))]) (rest := [(.ref b_3)]) (lenOf pd_2 rfl) rfl (by show 2 * 0 + _ ≤ _; exact Nat.le_of_eq rfl) (hb hby d1_22) (fun _ _ => ⟨rfl, e_4, (by decide : 2 + 0 ≤ _), (by decide : 5 + 0 ≤ _)⟩)
  dsimp only [Pt.U, Pt.locs, Pt.cells, Pt.slots] at X_5 l_5 y_5 z_5 st_5 hQ_5
  obtain rfl : kc_5 = 2 := y_5
  obtain rfl : nc_5 = 5 := z_5
  obtain ⟨h_5, e_5⟩ : ∃ hh, T_5.heap = hh := ⟨_, rfl⟩
  rw [e_5] at hQ_5
  obtain ⟨rfl, N_5q, K_5, p_5_0, p_5_1, p_5_2⟩ := hQ_5
  have N_5 : Fr n0 L_5 := by rw [l_5]; exact Fr.app N_4 N_5q
  refine Go.st (fun _ kk => st_5.trans kk) ?_
  have KK_5 : Keep h0 h_5 [] := KK_4.trans K_5 (allS (Or.inr sz_3) all0)
  have z_5q : n0 ≤ h_5.size := Nat.le_trans z_4q K_5.1
  have ns_5 : ∀ x ∈ ([b_3] : List Addr), ∀ cell : Cell, h_4[x]? = some cell → cell.vm.isStatics = false := (allS f_6.nostat all0)
  show Go p e below s _ _ _ T_5 (mkF m 25 #[.val (.int ch)] [(.ref b_3)])
  have f_9 := (p_4_2.keep K_5 (ninS (Ne.symm ne_b_3_d__4) nin0))
  exact Go.retA X_5 hx hlk Bd.returns rfl rfl (hb hby d1_25) (by rw [e_5]; exact ⟨b_3, d__4, kd__4, rfl, N_5, KK_5, sz_3, gg_3, p_5_0, p_5_1, p_5_2, sz_4_0, p_4_1, f_9, ne_b_3_d__4⟩) (by decide) (by decide)
theorem d6_0 : decode prog_37_method_1_code 0 = .ok (.aload_n 0, 1) := by decide +kernel
theorem d6_1 : decode prog_37_method_1_code 1 = .ok (.invokespecial 1, 3) := by decide +kernel
theorem d6_4 : decode prog_37_method_1_code 4 = .ok (.aload_n 0, 1) := by decide +kernel
theorem d6_5 : decode prog_37_method_1_code 5 = .ok (.aload_n 1, 1) := by decide +kernel
theorem d6_6 : decode prog_37_method_1_code 6 = .ok (.putfield 7, 3) := by decide +kernel
theorem d6_9 : decode prog_37_method_1_code 9 = .ok (.aload_n 0, 1) := by decide +kernel
theorem d6_10 : decode prog_37_method_1_code 10 = .ok (.aload_n 2, 1) := by decide +kernel
theorem d6_11 : decode prog_37_method_1_code 11 = .ok (.putfield 13, 3) := by decide +kernel
theorem d6_14 : decode prog_37_method_1_code 14 = .ok (.aload_n 0, 1) := by decide +kernel
theorem d6_15 : decode prog_37_method_1_code 15 = .ok (.dload_n 3, 1) := by decide +kernel
theorem d6_16 : decode prog_37_method_1_code 16 = .ok (.putfield 16, 3) := by decide +kernel
theorem d6_19 : decode prog_37_method_1_code 19 = .ok (.return_, 1) := by decide +kernel
theorem pn_2 : plainName "com/example/sift_sentences/siftsentences/trec/RunLine" = true := by first | (simp [plainName, overriddenIn]; done) | decide +kernel
theorem ef_rmRi (m : MethodId) (a : Addr) (u1 : Addr) (u2 : Addr) (y : UInt64) : entryFrame m #[(.ref a), (.ref u1), (.ref u2), (.double y)] 5 = mkF m 0 #[.val (.ref a), .val (.ref u1), .val (.ref u2), .val (.double y), .second] [] := by first | (simp [entryFrame, mkF, argsToLocals, Value.category]; done) | rfl
def QrmRi (Z : State) (a : Addr) (u1 : Addr) (u2 : Addr) (y : UInt64) (h0 : Heap) (n0 : Nat) (rV : Option Value) (hE : Heap) (LE : List Loc) : Prop := rV = none ∧ Fr n0 LE ∧ Keep h0 hE [a] ∧ Exa Z hE a "com/example/sift_sentences/siftsentences/trec/RunLine" ∧ Fld Z hE a "com/example/sift_sentences/siftsentences/trec/RunLine" "score" "D" (.double y)
set_option maxRecDepth 65536 in
set_option maxHeartbeats 40000000 in
theorem rmRi (l : Launch) (Z : State) (a0 : Array Value) (hw : ∀ d ∈ tables_1, d.before a0 Z = true) (ws : List Jvm.Cond) (a : Addr) (u1 : Addr) (u2 : Addr) (y : UInt64) (h0 : Heap) (n0 : Nat) (Z0 : n0 ≤ h0.size) (E_a : Exa Z h0 a "com/example/sift_sentences/siftsentences/trec/RunLine") (F_pairId_a : Fld Z h0 a "com/example/sift_sentences/siftsentences/trec/RunLine" "pairId" "Ljava/lang/String;" .null) (F_sentenceId_a : Fld Z h0 a "com/example/sift_sentences/siftsentences/trec/RunLine" "sentenceId" "Ljava/lang/String;" .null) (F_score_a : Fld Z h0 a "com/example/sift_sentences/siftsentences/trec/RunLine" "score" "D" (.double (0 : UInt64))) (g_a : n0 ≤ a) :
    MetFree l (⟨"com/example/sift_sentences/siftsentences/trec/RunLine", "<init>", "(Ljava/lang/String;Ljava/lang/String;D)V"⟩ : MethodName) (head1 (Jvm.Cond.code (⟨"com/example/sift_sentences/siftsentences/trec/RunLine", "<init>", "(Ljava/lang/String;Ljava/lang/String;D)V"⟩ : MethodName) prog_37_method_1_code 5 none :: ws) ({ frames := 1, cells := 0, slots := 0, locals := 12 } : Room)) (fun aA UA => aA = #[(.ref a), (.ref u1), (.ref u2), (.double y)] ∧ Z.Warmed39 UA.vm ∧ UA.heap = h0) (fun _ _ _ _ _ => True) (fun _ UA oA UB => ∃ rV LE, oA = .returned rV ∧ QrmRi Z a u1 u2 y h0 n0 rV UB.heap LE ∧ FrameEnd UA oA UB LE ({ frames := 1, cells := 0, slots := 0, locals := 12 } : Room).cells ({ frames := 1, cells := 0, slots := 0, locals := 12 } : Room).slots) := by
  refine MetFree.of_bodySF (plainFor_of_name pn_2) hisR ?_
  intro p e s m args below meth c s₁ Bd hml0 hP hK
  obtain ⟨rfl, hZ, hh⟩ := hP
  have hx := Bd.exec
  have hby := Bd.bytes
  have hml : c.maxLocals = 5 := hml0
  have hown : s.vm.findClass "com/example/sift_sentences/siftsentences/trec/RunLine" = some m.cls := findClass_of_methodNamed Bd.named
  have hnm := (name_of_methodNamed Bd.named Bd.method).1
  have hlk := Bd.notSynchronized
  have X0 : Stand p l e ({ frames := 1, cells := 0, slots := 0, locals := 12 } : Room) s m #[(.ref a), (.ref u1), (.ref u2), (.double y)] below meth c s₁ [] 0 0 := Stand.of_body Bd
  have e0 : s₁.heap = h0 := by rw [← hh, Bd.state]; rfl
  have N0 := Fr.nil n0
  show Go p e below s (QrmRi Z a u1 u2 y h0 n0) ({ frames := 1, cells := 0, slots := 0, locals := 12 } : Room).cells ({ frames := 1, cells := 0, slots := 0, locals := 12 } : Room).slots s₁ (entryFrame m #[(.ref a), (.ref u1), (.ref u2), (.double y)] 5)
  refine Go.eq (ef_rmRi m a u1 u2 y) ?_
  show Go p e below s _ _ _ s₁ (mkF m 0 #[.val (.ref a), .val (.ref u1), .val (.ref u2), .val (.double y), .second] [])
  refine Go.st (fun _ => XS.aloadN X0.here hx rfl (hb hby d6_0) rfl rfl) ?_
  show Go p e below s _ _ _ s₁ (mkF m 1 #[.val (.ref a), .val (.ref u1), .val (.ref u2), .val (.double y), .second] [(.ref a)])
  obtain ⟨T_1, X_1, e_1, st_1⟩ := initO X0 hx hZ hown (hw _ (List.mem_of_getElem? (i := 35) rfl)) (hw _ (List.mem_of_getElem? (i := 23) rfl)) (hw _ (List.mem_of_getElem? (i := 24) rfl)) e0 (g := (mkF m 1 #[.val (.ref a), .val (.ref u1), .val (.ref u2), .val (.double y), .second] [(.ref a)])) rfl (by rw [hml]; rfl) rfl (hb hby d6_1) (by decide) (W := 0) (by show 2 * 0 + _ ≤ _; exact Nat.le_of_eq rfl) (by decide)
  refine Go.st st_1 ?_
  show Go p e below s _ _ _ T_1 (mkF m 4 #[.val (.ref a), .val (.ref u1), .val (.ref u2), .val (.double y), .second] [])
  refine Go.st (fun _ => XS.aloadN X_1.here hx rfl (hb hby d6_4) rfl rfl) ?_
  show Go p e below s _ _ _ T_1 (mkF m 5 #[.val (.ref a), .val (.ref u1), .val (.ref u2), .val (.double y), .second] [(.ref a)])
  refine Go.st (fun _ => XS.aloadN X_1.here hx rfl (hb hby d6_5) rfl rfl) ?_
  show Go p e below s _ _ _ T_1 (mkF m 6 #[.val (.ref a), .val (.ref u1), .val (.ref u2), .val (.double y), .second] [(.ref u1), (.ref a)])
  obtain ⟨T_2, h_2, X_2, e_2, W_2, st_2⟩ := putF X_1 hx hZ hown (host := "") (Or.inl (hw _ (List.mem_of_getElem? (i := 36) rfl))) Via.refl e_1 F_pairId_a E_a (Or.inr ⟨(hw _ (List.mem_of_getElem? (i := 37) rfl)), rfl, hnm⟩) (hw _ (List.mem_of_getElem? (i := 30) rfl)) (ty := (.object "java/lang/String")) (by decide) rfl rfl (g := (mkF m 6 #[.val (.ref a), .val (.ref u1), .val (.ref u2), .val (.double y), .second] [(.ref u1), (.ref a)])) rfl rfl (hb hby d6_6)
  refine Go.st st_2 ?_
  have N_2 := Fr.snoc X_2 N0 g_a
  have K_2 : Keep h0 h_2 [a] := (Keep.refl h0 [a]).wr W_2 (Or.inl (List.mem_of_getElem? (i := 0) rfl))
  have z_2 : n0 ≤ h_2.size := Nat.le_trans Z0 (Nat.le_of_eq W_2.size.symm)
  have Fw_2 := F_pairId_a.same W_2
  show Go p e below s _ _ _ T_2 (mkF m 9 #[.val (.ref a), .val (.ref u1), .val (.ref u2), .val (.double y), .second] [])
  refine Go.st (fun _ => XS.aloadN X_2.here hx rfl (hb hby d6_9) rfl rfl) ?_
  show Go p e below s _ _ _ T_2 (mkF m 10 #[.val (.ref a), .val (.ref u1), .val (.ref u2), .val (.double y), .second] [(.ref a)])
  refine Go.st (fun _ => XS.aloadN X_2.here hx rfl (hb hby d6_10) rfl rfl) ?_
  show Go p e below s _ _ _ T_2 (mkF m 11 #[.val (.ref a), .val (.ref u1), .val (.ref u2), .val (.double y), .second] [(.ref u2), (.ref a)])
  have f_3 := (E_a.wr W_2)
  have f_4 := (F_sentenceId_a.other W_2 (Or.inr (slot_ne (Or.inr (hw _ (List.mem_of_getElem? (i := 39) rfl))) (Or.inr (hw _ (List.mem_of_getElem? (i := 37) rfl))) (by decide) (t := (.object "java/lang/String")) (t' := (.object "java/lang/String")) (by decide) (by decide))))
  obtain ⟨T_5, h_5, X_5, e_5, W_5, st_5⟩ := putF X_2 hx hZ hown (host := "") (Or.inl (hw _ (List.mem_of_getElem? (i := 38) rfl))) Via.refl e_2 f_4 f_3 (Or.inr ⟨(hw _ (List.mem_of_getElem? (i := 39) rfl)), rfl, hnm⟩) (hw _ (List.mem_of_getElem? (i := 30) rfl)) (ty := (.object "java/lang/String")) (by decide) rfl rfl (g := (mkF m 11 #[.val (.ref a), .val (.ref u1), .val (.ref u2), .val (.double y), .second] [(.ref u2), (.ref a)])) rfl rfl (hb hby d6_11)
  refine Go.st st_5 ?_
  have N_5 := Fr.snoc X_5 N_2 g_a
  have K_5 : Keep h0 h_5 [a] := K_2.wr W_5 (Or.inl (List.mem_of_getElem? (i := 0) rfl))
  have z_5 : n0 ≤ h_5.size := Nat.le_trans z_2 (Nat.le_of_eq W_5.size.symm)
  have Fw_5 := f_4.same W_5
  show Go p e below s _ _ _ T_5 (mkF m 14 #[.val (.ref a), .val (.ref u1), .val (.ref u2), .val (.double y), .second] [])
  refine Go.st (fun _ => XS.aloadN X_5.here hx rfl (hb hby d6_14) rfl rfl) ?_
  show Go p e below s _ _ _ T_5 (mkF m 15 #[.val (.ref a), .val (.ref u1), .val (.ref u2), .val (.double y), .second] [(.ref a)])
  refine Go.st (fun _ => XS.dloadN X_5.here hx rfl (hb hby d6_15) rfl) ?_
  show Go p e below s _ _ _ T_5 (mkF m 16 #[.val (.ref a), .val (.ref u1), .val (.ref u2), .val (.double y), .second] [(.double y), (.ref a)])
  have f_6 := (f_3.wr W_5)
  have f_7 := ((F_score_a.other W_2 (Or.inr (slot_ne (Or.inr (hw _ (List.mem_of_getElem? (i := 41) rfl))) (Or.inr (hw _ (List.mem_of_getElem? (i := 37) rfl))) (by decide) (t := .double) (t' := (.object "java/lang/String")) (by decide) (by decide)))).other W_5 (Or.inr (slot_ne (Or.inr (hw _ (List.mem_of_getElem? (i := 41) rfl))) (Or.inr (hw _ (List.mem_of_getElem? (i := 39) rfl))) (by decide) (t := .double) (t' := (.object "java/lang/String")) (by decide) (by decide))))
  obtain ⟨T_8, h_8, X_8, e_8, W_8, st_8⟩ := putF X_5 hx hZ hown (host := "") (Or.inl (hw _ (List.mem_of_getElem? (i := 40) rfl))) Via.refl e_5 f_7 f_6 (Or.inr ⟨(hw _ (List.mem_of_getElem? (i := 41) rfl)), rfl, hnm⟩) (hw _ (List.mem_of_getElem? (i := 30) rfl)) (ty := .double) (by decide) rfl rfl (g := (mkF m 16 #[.val (.ref a), .val (.ref u1), .val (.ref u2), .val (.double y), .second] [(.double y), (.ref a)])) rfl rfl (hb hby d6_16)
  refine Go.st st_8 ?_
  have N_8 := Fr.snoc X_8 N_5 g_a
  have K_8 : Keep h0 h_8 [a] := K_5.wr W_8 (Or.inl (List.mem_of_getElem? (i := 0) rfl))
  have z_8 : n0 ≤ h_8.size := Nat.le_trans z_5 (Nat.le_of_eq W_8.size.symm)
  have Fw_8 := f_7.same W_8
  show Go p e below s _ _ _ T_8 (mkF m 19 #[.val (.ref a), .val (.ref u1), .val (.ref u2), .val (.double y), .second] [])
  have f_9 := (f_6.wr W_8)
  exact Go.ret0 X_8 hx hlk Bd.returns (hb hby d6_19) (by rw [e_8]; exact ⟨rfl, N_8, K_8, f_9, Fw_8⟩) (by decide) (by decide)
theorem d8_0 : decode prog_37_method_4_code 0 = .ok (.aload_n 0, 1) := by decide +kernel
theorem d8_1 : decode prog_37_method_4_code 1 = .ok (.getfield 16, 3) := by decide +kernel
theorem d8_4 : decode prog_37_method_4_code 4 = .ok (.dreturn, 1) := by decide +kernel
theorem ef_rmGs (m : MethodId) (a : Addr) : entryFrame m #[(.ref a)] 1 = mkF m 0 #[.val (.ref a)] [] := by first | (simp [entryFrame, mkF, argsToLocals, Value.category]; done) | rfl
def QrmGs (Z : State) (a : Addr) (y : UInt64) (h0 : Heap) (n0 : Nat) (rV : Option Value) (hE : Heap) (LE : List Loc) : Prop := rV = some (.double y) ∧ Fr n0 LE ∧ hE = h0
set_option maxRecDepth 65536 in
set_option maxHeartbeats 40000000 in
theorem rmGs (l : Launch) (Z : State) (a0 : Array Value) (hw : ∀ d ∈ tables_1, d.before a0 Z = true) (ws : List Jvm.Cond) (a : Addr) (y : UInt64) (h0 : Heap) (n0 : Nat) (Z0 : n0 ≤ h0.size) (F_score_a : Fld Z h0 a "com/example/sift_sentences/siftsentences/trec/RunLine" "score" "D" (.double y)) :
    MetFree l (⟨"com/example/sift_sentences/siftsentences/trec/RunLine", "getScore", "()D"⟩ : MethodName) (head1 (Jvm.Cond.code (⟨"com/example/sift_sentences/siftsentences/trec/RunLine", "getScore", "()D"⟩ : MethodName) prog_37_method_4_code 1 (some .double) :: ws) ({ frames := 0, cells := 0, slots := 0, locals := 0 } : Room)) (fun aA UA => aA = #[(.ref a)] ∧ Z.Warmed39 UA.vm ∧ UA.heap = h0) (fun _ _ _ _ _ => True) (fun _ UA oA UB => ∃ rV LE, oA = .returned rV ∧ QrmGs Z a y h0 n0 rV UB.heap LE ∧ FrameEnd UA oA UB LE ({ frames := 0, cells := 0, slots := 0, locals := 0 } : Room).cells ({ frames := 0, cells := 0, slots := 0, locals := 0 } : Room).slots) := by
  refine MetFree.of_bodySF (plainFor_of_name pn_2) hisR ?_
  intro p e s m args below meth c s₁ Bd hml0 hP hK
  obtain ⟨rfl, hZ, hh⟩ := hP
  have hx := Bd.exec
  have hby := Bd.bytes
  have hml : c.maxLocals = 1 := hml0
  have hown : s.vm.findClass "com/example/sift_sentences/siftsentences/trec/RunLine" = some m.cls := findClass_of_methodNamed Bd.named
  have hnm := (name_of_methodNamed Bd.named Bd.method).1
  have hlk := Bd.notSynchronized
  have X0 : Stand p l e ({ frames := 0, cells := 0, slots := 0, locals := 0 } : Room) s m #[(.ref a)] below meth c s₁ [] 0 0 := Stand.of_body Bd
  have e0 : s₁.heap = h0 := by rw [← hh, Bd.state]; rfl
  have N0 := Fr.nil n0
  show Go p e below s (QrmGs Z a y h0 n0) ({ frames := 0, cells := 0, slots := 0, locals := 0 } : Room).cells ({ frames := 0, cells := 0, slots := 0, locals := 0 } : Room).slots s₁ (entryFrame m #[(.ref a)] 1)
  refine Go.eq (ef_rmGs m a) ?_
  show Go p e below s _ _ _ s₁ (mkF m 0 #[.val (.ref a)] [])
  refine Go.st (fun _ => XS.aloadN X0.here hx rfl (hb hby d8_0) rfl rfl) ?_
  show Go p e below s _ _ _ s₁ (mkF m 1 #[.val (.ref a)] [(.ref a)])
  obtain ⟨T_1, X_1, e_1, st_1⟩ := getF X0 hx hZ hown (host := "") (Or.inl (hw _ (List.mem_of_getElem? (i := 40) rfl))) Via.refl e0 F_score_a (g := (mkF m 1 #[.val (.ref a)] [(.ref a)])) rfl rfl (hb hby d8_1)
  refine Go.st st_1 ?_
  show Go p e below s _ _ _ T_1 (mkF m 4 #[.val (.ref a)] [(.double y)])
  exact Go.retD X_1 hx hlk Bd.returns (hb hby d8_4) (by rw [e_1]; exact ⟨rfl, N0, rfl⟩) (by decide) (by decide)
theorem d7_0 : decode prog_13_method_5_code 0 = .ok (.aload_n 0, 1) := by decide +kernel
theorem d7_1 : decode prog_13_method_5_code 1 = .ok (.getfield 33, 3) := by decide +kernel
theorem d7_4 : decode prog_13_method_5_code 4 = .ok (.ifCond .eq 19, 3) := by decide +kernel
theorem d7_23 : decode prog_13_method_5_code 23 = .ok (.iconst 0, 1) := by decide +kernel
theorem d7_24 : decode prog_13_method_5_code 24 = .ok (.ireturn, 1) := by decide +kernel
theorem pn_3 : plainName "com/example/sift_sentences/siftsentences/eval/TieRule" = true := by first | (simp [plainName, overriddenIn]; done) | decide +kernel
theorem ef_rmG0 (m : MethodId) (a : Addr) (e1 : Addr) (e2 : Addr) : entryFrame m #[(.ref a), (.ref e1), (.ref e2)] 3 = mkF m 0 #[.val (.ref a), .val (.ref e1), .val (.ref e2)] [] := by first | (simp [entryFrame, mkF, argsToLocals, Value.category]; done) | rfl
def QrmG0 (Z : State) (a : Addr) (e1 : Addr) (e2 : Addr) (h0 : Heap) (n0 : Nat) (rV : Option Value) (hE : Heap) (LE : List Loc) : Prop := rV = some (.int (0 : Int32)) ∧ Fr n0 LE ∧ hE = h0
set_option maxRecDepth 65536 in
set_option maxHeartbeats 40000000 in
theorem rmG0 (l : Launch) (Z : State) (a0 : Array Value) (hw : ∀ d ∈ tables_1, d.before a0 Z = true) (ws : List Jvm.Cond) (a : Addr) (e1 : Addr) (e2 : Addr) (h0 : Heap) (n0 : Nat) (Z0 : n0 ≤ h0.size) (F_groupsEqualScores_a : Fld Z h0 a "com/example/sift_sentences/siftsentences/eval/TieRule" "groupsEqualScores" "Z" (.int (0 : Int32))) :
    MetFree l (⟨"com/example/sift_sentences/siftsentences/eval/TieRule", "groups", "(Lcom/example/sift_sentences/siftsentences/trec/RunLine;Lcom/example/sift_sentences/siftsentences/trec/RunLine;)Z"⟩ : MethodName) (head1 (Jvm.Cond.code (⟨"com/example/sift_sentences/siftsentences/eval/TieRule", "groups", "(Lcom/example/sift_sentences/siftsentences/trec/RunLine;Lcom/example/sift_sentences/siftsentences/trec/RunLine;)Z"⟩ : MethodName) prog_13_method_5_code 3 (some .boolean) :: ws) ({ frames := 0, cells := 0, slots := 0, locals := 0 } : Room)) (fun aA UA => aA = #[(.ref a), (.ref e1), (.ref e2)] ∧ Z.Warmed39 UA.vm ∧ UA.heap = h0) (fun _ _ _ _ _ => True) (fun _ UA oA UB => ∃ rV LE, oA = .returned rV ∧ QrmG0 Z a e1 e2 h0 n0 rV UB.heap LE ∧ FrameEnd UA oA UB LE ({ frames := 0, cells := 0, slots := 0, locals := 0 } : Room).cells ({ frames := 0, cells := 0, slots := 0, locals := 0 } : Room).slots) := by
  refine MetFree.of_bodySF (plainFor_of_name pn_3) hisR ?_
  intro p e s m args below meth c s₁ Bd hml0 hP hK
  obtain ⟨rfl, hZ, hh⟩ := hP
  have hx := Bd.exec
  have hby := Bd.bytes
  have hml : c.maxLocals = 3 := hml0
  have hown : s.vm.findClass "com/example/sift_sentences/siftsentences/eval/TieRule" = some m.cls := findClass_of_methodNamed Bd.named
  have hnm := (name_of_methodNamed Bd.named Bd.method).1
  have hlk := Bd.notSynchronized
  have X0 : Stand p l e ({ frames := 0, cells := 0, slots := 0, locals := 0 } : Room) s m #[(.ref a), (.ref e1), (.ref e2)] below meth c s₁ [] 0 0 := Stand.of_body Bd
  have e0 : s₁.heap = h0 := by rw [← hh, Bd.state]; rfl
  have N0 := Fr.nil n0
  show Go p e below s (QrmG0 Z a e1 e2 h0 n0) ({ frames := 0, cells := 0, slots := 0, locals := 0 } : Room).cells ({ frames := 0, cells := 0, slots := 0, locals := 0 } : Room).slots s₁ (entryFrame m #[(.ref a), (.ref e1), (.ref e2)] 3)
  refine Go.eq (ef_rmG0 m a e1 e2) ?_
  show Go p e below s _ _ _ s₁ (mkF m 0 #[.val (.ref a), .val (.ref e1), .val (.ref e2)] [])
  refine Go.st (fun _ => XS.aloadN X0.here hx rfl (hb hby d7_0) rfl rfl) ?_
  show Go p e below s _ _ _ s₁ (mkF m 1 #[.val (.ref a), .val (.ref e1), .val (.ref e2)] [(.ref a)])
  obtain ⟨T_1, X_1, e_1, st_1⟩ := getF X0 hx hZ hown (host := "") (Or.inl (hw _ (List.mem_of_getElem? (i := 47) rfl))) Via.refl e0 F_groupsEqualScores_a (g := (mkF m 1 #[.val (.ref a), .val (.ref e1), .val (.ref e2)] [(.ref a)])) rfl rfl (hb hby d7_1)
  refine Go.st st_1 ?_
  show Go p e below s _ _ _ T_1 (mkF m 4 #[.val (.ref a), .val (.ref e1), .val (.ref e2)] [(.int (0 : Int32))])
  refine Go.st (fun _ => XS.ifYes X_1.here hx rfl (pc0 := 4) (pc' := 23) rfl (hb hby d7_4) rfl ((if0 _ _).trans (teq (by decide : (0 : Int32) = (0 : Int32))).1) (by decide) (by decide)) ?_
  show Go p e below s _ _ _ T_1 (mkF m 23 #[.val (.ref a), .val (.ref e1), .val (.ref e2)] [])
  refine Go.st (fun _ => XS.iconst X_1.here hx rfl (hb hby d7_23)) ?_
  show Go p e below s _ _ _ T_1 (mkF m 24 #[.val (.ref a), .val (.ref e1), .val (.ref e2)] [(.int (0 : Int32))])
  exact Go.retZ X_1 hx hlk Bd.returns (hb hby d7_24) rfl (by rw [e_1]; exact ⟨rfl, N0, rfl⟩) (by decide) (by decide)
theorem d7_7 : decode prog_13_method_5_code 7 = .ok (.aload_n 1, 1) := by decide +kernel
theorem d7_8 : decode prog_13_method_5_code 8 = .ok (.invokevirtual 37, 3) := by decide +kernel
theorem pd_3 : parseMethodDescriptor "()D" = some ⟨[], some .double⟩ := by decide +kernel
theorem d7_11 : decode prog_13_method_5_code 11 = .ok (.aload_n 2, 1) := by decide +kernel
theorem d7_12 : decode prog_13_method_5_code 12 = .ok (.invokevirtual 37, 3) := by decide +kernel
theorem d7_15 : decode prog_13_method_5_code 15 = .ok (.dcmp .l, 1) := by decide +kernel
theorem d7_16 : decode prog_13_method_5_code 16 = .ok (.ifCond .ne 7, 3) := by decide +kernel
theorem d7_19 : decode prog_13_method_5_code 19 = .ok (.iconst 1, 1) := by decide +kernel
theorem d7_20 : decode prog_13_method_5_code 20 = .ok (.goto 4, 3) := by decide +kernel
theorem ef_rmG1 (m : MethodId) (a : Addr) (e1 : Addr) (e2 : Addr) : entryFrame m #[(.ref a), (.ref e1), (.ref e2)] 3 = mkF m 0 #[.val (.ref a), .val (.ref e1), .val (.ref e2)] [] := by first | (simp [entryFrame, mkF, argsToLocals, Value.category]; done) | rfl
def QrmG1 (Z : State) (a : Addr) (e1 : Addr) (e2 : Addr) (y1 : UInt64) (y2 : UInt64) (h0 : Heap) (n0 : Nat) (rV : Option Value) (hE : Heap) (LE : List Loc) : Prop := rV = some (.int (b2i ((cmpValue (FP.dcmp y1 y2) .l) = (0 : Int32)))) ∧ Fr n0 LE ∧ hE = h0
set_option maxRecDepth 65536 in
set_option maxHeartbeats 40000000 in
theorem rmG1 (l : Launch) (Z : State) (a0 : Array Value) (hw : ∀ d ∈ tables_1, d.before a0 Z = true) (ws : List Jvm.Cond) (a : Addr) (e1 : Addr) (e2 : Addr) (y1 : UInt64) (y2 : UInt64) (h0 : Heap) (n0 : Nat) (Z0 : n0 ≤ h0.size) (F_groupsEqualScores_a : Fld Z h0 a "com/example/sift_sentences/siftsentences/eval/TieRule" "groupsEqualScores" "Z" (.int (1 : Int32))) (E_e1 : Exa Z h0 e1 "com/example/sift_sentences/siftsentences/trec/RunLine") (E_e2 : Exa Z h0 e2 "com/example/sift_sentences/siftsentences/trec/RunLine") (F_score_e1 : Fld Z h0 e1 "com/example/sift_sentences/siftsentences/trec/RunLine" "score" "D" (.double y1)) (F_score_e2 : Fld Z h0 e2 "com/example/sift_sentences/siftsentences/trec/RunLine" "score" "D" (.double y2)) :
    MetFree l (⟨"com/example/sift_sentences/siftsentences/eval/TieRule", "groups", "(Lcom/example/sift_sentences/siftsentences/trec/RunLine;Lcom/example/sift_sentences/siftsentences/trec/RunLine;)Z"⟩ : MethodName) (head1 (Jvm.Cond.code (⟨"com/example/sift_sentences/siftsentences/eval/TieRule", "groups", "(Lcom/example/sift_sentences/siftsentences/trec/RunLine;Lcom/example/sift_sentences/siftsentences/trec/RunLine;)Z"⟩ : MethodName) prog_13_method_5_code 3 (some .boolean) :: ws) ({ frames := 1, cells := 0, slots := 0, locals := 14 } : Room)) (fun aA UA => aA = #[(.ref a), (.ref e1), (.ref e2)] ∧ Z.Warmed39 UA.vm ∧ UA.heap = h0) (fun _ _ _ _ _ => True) (fun _ UA oA UB => ∃ rV LE, oA = .returned rV ∧ QrmG1 Z a e1 e2 y1 y2 h0 n0 rV UB.heap LE ∧ FrameEnd UA oA UB LE ({ frames := 1, cells := 0, slots := 0, locals := 14 } : Room).cells ({ frames := 1, cells := 0, slots := 0, locals := 14 } : Room).slots) := by
  refine MetFree.of_bodySF (plainFor_of_name pn_3) hisR ?_
  intro p e s m args below meth c s₁ Bd hml0 hP hK
  obtain ⟨rfl, hZ, hh⟩ := hP
  have hx := Bd.exec
  have hby := Bd.bytes
  have hml : c.maxLocals = 3 := hml0
  have hown : s.vm.findClass "com/example/sift_sentences/siftsentences/eval/TieRule" = some m.cls := findClass_of_methodNamed Bd.named
  have hnm := (name_of_methodNamed Bd.named Bd.method).1
  have hlk := Bd.notSynchronized
  have X0 : Stand p l e ({ frames := 1, cells := 0, slots := 0, locals := 14 } : Room) s m #[(.ref a), (.ref e1), (.ref e2)] below meth c s₁ [] 0 0 := Stand.of_body Bd
  have e0 : s₁.heap = h0 := by rw [← hh, Bd.state]; rfl
  have N0 := Fr.nil n0
  show Go p e below s (QrmG1 Z a e1 e2 y1 y2 h0 n0) ({ frames := 1, cells := 0, slots := 0, locals := 14 } : Room).cells ({ frames := 1, cells := 0, slots := 0, locals := 14 } : Room).slots s₁ (entryFrame m #[(.ref a), (.ref e1), (.ref e2)] 3)
  refine Go.eq (ef_rmG1 m a e1 e2) ?_
  show Go p e below s _ _ _ s₁ (mkF m 0 #[.val (.ref a), .val (.ref e1), .val (.ref e2)] [])
  refine Go.st (fun _ => XS.aloadN X0.here hx rfl (hb hby d7_0) rfl rfl) ?_
  show Go p e below s _ _ _ s₁ (mkF m 1 #[.val (.ref a), .val (.ref e1), .val (.ref e2)] [(.ref a)])
  obtain ⟨T_1, X_1, e_1, st_1⟩ := getF X0 hx hZ hown (host := "") (Or.inl (hw _ (List.mem_of_getElem? (i := 47) rfl))) Via.refl e0 F_groupsEqualScores_a (g := (mkF m 1 #[.val (.ref a), .val (.ref e1), .val (.ref e2)] [(.ref a)])) rfl rfl (hb hby d7_1)
  refine Go.st st_1 ?_
  show Go p e below s _ _ _ T_1 (mkF m 4 #[.val (.ref a), .val (.ref e1), .val (.ref e2)] [(.int (1 : Int32))])
  refine Go.st (fun _ => XS.ifNo X_1.here hx rfl (hb hby d7_4) rfl ((if0 _ _).trans (feq (by decide : ¬ ((1 : Int32) = (0 : Int32)))).1)) ?_
  show Go p e below s _ _ _ T_1 (mkF m 7 #[.val (.ref a), .val (.ref e1), .val (.ref e2)] [])
  refine Go.st (fun _ => XS.aloadN X_1.here hx rfl (hb hby d7_7) rfl rfl) ?_
  show Go p e below s _ _ _ T_1 (mkF m 8 #[.val (.ref a), .val (.ref e1), .val (.ref e2)] [(.ref e1)])
  obtain ⟨cq_2, kq_2, q_2a, q_2b, q_2c⟩ := isOf hZ e_1 E_e1
  obtain ⟨_, _, ⟨T_2, L_2, kc_2, nc_2⟩, -, X_2, ⟨Lc_2, hQ_2, l_2, y_2, z_2⟩, st_2⟩ := X_1.virtualBack hx (y := (⟨"com/example/sift_sentences/siftsentences/trec/RunLine", "getScore", "()D"⟩ : MethodName)) (z := (⟨"com/example/sift_sentences/siftsentences/trec/RunLine", "getScore", "()D"⟩ : MethodName)) hown (mvT hZ (hw _ (List.mem_of_getElem? (i := 51) rfl))) (mvT hZ (hw _ (List.mem_of_getElem? (i := 52) rfl))) (notFace_of_selects (args := #[]) (mvT hZ (hw _ (List.mem_of_getElem? (i := 54) rfl)))) (mvT hZ (hw _ (List.mem_of_getElem? (i := 54) rfl))) (mvT hZ (hw _ (List.mem_of_getElem? (i := 53) rfl))) (by decide) (backOf (W := 0) (rmGs l Z a0 hw [] e1 y1 h0 n0 Z0 F_score_e1) hZ (hw _ (List.mem_of_getElem? (i := 55) rfl)) (hw _ (List.mem_of_getElem? (i := 31) rfl)) (by decide) (by decide)) q_2a q_2c (g := (mkF m 8 #[.val (.ref a), .val (.ref e1), .val (.ref e2)] [(.ref e1)])) rfl (by rw [hml]; rfl) (Steps.refl _) (argsL := []) (rest := []) (lenOf pd_3 rfl) rfl (by show 2 * 0 + _ ≤ _; exact Nat.le_of_eq rfl) (hb hby d7_8) (fun _ _ => ⟨rfl, e_1, (by decide : 0 + 0 ≤ _), (by decide : 0 + 0 ≤ _)⟩)
  dsimp only [Pt.U, Pt.locs, Pt.cells, Pt.slots] at X_2 l_2 y_2 z_2 st_2 hQ_2
  obtain rfl : kc_2 = 0 := y_2
  obtain rfl : nc_2 = 0 := z_2
  obtain ⟨h_2, e_2⟩ : ∃ hh, T_2.heap = hh := ⟨_, rfl⟩
  rw [e_2] at hQ_2
  obtain ⟨rfl, N_2q, sm_2⟩ := hQ_2
  have N_2 : Fr n0 L_2 := by rw [l_2]; exact Fr.app N0 N_2q
  refine Go.st (fun _ kk => st_2.trans kk) ?_
  rw [sm_2] at e_2
  show Go p e below s _ _ _ T_2 (mkF m 11 #[.val (.ref a), .val (.ref e1), .val (.ref e2)] [(.double y1)])
  refine Go.st (fun _ => XS.aloadN X_2.here hx rfl (hb hby d7_11) rfl rfl) ?_
  show Go p e below s _ _ _ T_2 (mkF m 12 #[.val (.ref a), .val (.ref e1), .val (.ref e2)] [(.ref e2), (.double y1)])
  obtain ⟨cq_3, kq_3, q_3a, q_3b, q_3c⟩ := isOf hZ e_2 E_e2
  obtain ⟨_, _, ⟨T_3, L_3, kc_3, nc_3⟩, -, X_3, ⟨Lc_3, hQ_3, l_3, y_3, z_3⟩, st_3⟩ := X_2.virtualBack hx (y := (⟨"com/example/sift_sentences/siftsentences/trec/RunLine", "getScore", "()D"⟩ : MethodName)) (z := (⟨"com/example/sift_sentences/siftsentences/trec/RunLine", "getScore", "()D"⟩ : MethodName)) hown (mvT hZ (hw _ (List.mem_of_getElem? (i := 51) rfl))) (mvT hZ (hw _ (List.mem_of_getElem? (i := 52) rfl))) (notFace_of_selects (args := #[]) (mvT hZ (hw _ (List.mem_of_getElem? (i := 54) rfl)))) (mvT hZ (hw _ (List.mem_of_getElem? (i := 54) rfl))) (mvT hZ (hw _ (List.mem_of_getElem? (i := 53) rfl))) (by decide) (backOf (W := 2) (rmGs l Z a0 hw [] e2 y2 h0 n0 Z0 F_score_e2) hZ (hw _ (List.mem_of_getElem? (i := 55) rfl)) (hw _ (List.mem_of_getElem? (i := 31) rfl)) (by decide) (by decide)) q_3a q_3c (g := (mkF m 12 #[.val (.ref a), .val (.ref e1), .val (.ref e2)] [(.ref e2), (.double y1)])) rfl (by rw [hml]; rfl) (Steps.refl _) (argsL := []) (rest := [(.double y1)]) (lenOf pd_3 rfl) rfl (by show 2 * 0 + _ ≤ _; exact Nat.le_of_eq rfl) (hb hby d7_12) (fun _ _ => ⟨rfl, e_2, (by decide : 0 + 0 ≤ _), (by decide : 0 + 0 ≤ _)⟩)
  dsimp only [Pt.U, Pt.locs, Pt.cells, Pt.slots] at X_3 l_3 y_3 z_3 st_3 hQ_3
  obtain rfl : kc_3 = 0 := y_3
  obtain rfl : nc_3 = 0 := z_3
  obtain ⟨h_3, e_3⟩ : ∃ hh, T_3.heap = hh := ⟨_, rfl⟩
  rw [e_3] at hQ_3
  obtain ⟨rfl, N_3q, sm_3⟩ := hQ_3
  have N_3 : Fr n0 L_3 := by rw [l_3]; exact Fr.app N_2 N_3q
  refine Go.st (fun _ kk => st_3.trans kk) ?_
  rw [sm_3] at e_3
  show Go p e below s _ _ _ T_3 (mkF m 15 #[.val (.ref a), .val (.ref e1), .val (.ref e2)] [(.double y2), (.double y1)])
  refine Go.st (fun _ => XS.dcmpS X_3.here hx rfl (hb hby d7_15) rfl rfl) ?_
  show Go p e below s _ _ _ T_3 (mkF m 16 #[.val (.ref a), .val (.ref e1), .val (.ref e2)] [(.int (cmpValue (FP.dcmp y1 y2) .l))])
  by_cases hc_4 : (cmpValue (FP.dcmp y1 y2) .l) = (0 : Int32)
  · refine Go.st (fun _ => XS.ifNo X_3.here hx rfl (hb hby d7_16) rfl ((if0 _ _).trans (teq hc_4).2)) ?_
    show Go p e below s _ _ _ T_3 (mkF m 19 #[.val (.ref a), .val (.ref e1), .val (.ref e2)] [])
    refine Go.st (fun _ => XS.iconst X_3.here hx rfl (hb hby d7_19)) ?_
    show Go p e below s _ _ _ T_3 (mkF m 20 #[.val (.ref a), .val (.ref e1), .val (.ref e2)] [(.int (1 : Int32))])
    refine Go.st (fun _ => XS.goto X_3.here hx rfl (pc0 := 20) (pc' := 24) rfl (hb hby d7_20) (by decide) (by decide)) ?_
    show Go p e below s _ _ _ T_3 (mkF m 24 #[.val (.ref a), .val (.ref e1), .val (.ref e2)] [(.int (1 : Int32))])
    exact Go.retZ X_3 hx hlk Bd.returns (hb hby d7_24) rfl (by rw [e_3]; exact ⟨(own_b2i_t hc_4), N_3, rfl⟩) (by decide) (by decide)
  · refine Go.st (fun _ => XS.ifYes X_3.here hx rfl (pc0 := 16) (pc' := 23) rfl (hb hby d7_16) rfl ((if0 _ _).trans (feq hc_4).2) (by decide) (by decide)) ?_
    show Go p e below s _ _ _ T_3 (mkF m 23 #[.val (.ref a), .val (.ref e1), .val (.ref e2)] [])
    refine Go.st (fun _ => XS.iconst X_3.here hx rfl (hb hby d7_23)) ?_
    show Go p e below s _ _ _ T_3 (mkF m 24 #[.val (.ref a), .val (.ref e1), .val (.ref e2)] [(.int (0 : Int32))])
    exact Go.retZ X_3 hx hlk Bd.returns (hb hby d7_24) rfl (by rw [e_3]; exact ⟨(own_b2i_f hc_4), N_3, rfl⟩) (by decide) (by decide)
theorem pd_4 : parseMethodDescriptor "(C)Ljava/lang/String;" = some ⟨[.char], some (.object "java/lang/String")⟩ := by decide +kernel
theorem pd_5 : parseMethodDescriptor "(Ljava/lang/String;Ljava/lang/String;D)V" = some ⟨[(.object "java/lang/String"), (.object "java/lang/String"), .double], none⟩ := by decide +kernel
theorem pd_6 : parseMethodDescriptor "(Lcom/example/sift_sentences/siftsentences/trec/RunLine;Lcom/example/sift_sentences/siftsentences/trec/RunLine;)Z" = some ⟨[(.object "com/example/sift_sentences/siftsentences/trec/RunLine"), (.object "com/example/sift_sentences/siftsentences/trec/RunLine")], some .boolean⟩ := by decide +kernel
theorem pn_4 : plainName "com/example/sift_sentences/siftsentences/eval/TieRuleGroupsPinLaw" = true := by first | (simp [plainName, overriddenIn]; done) | decide +kernel
theorem ef_rm0 (m : MethodId) (fl : Int32) (na : Int32) (nb : Int32) (nc : Int32) : entryFrame m #[(.int fl), (.int na), (.int nb), (.int nc)] maxLocals = mkF m 0 #[.val (.int fl), .val (.int na), .val (.int nb), .val (.int nc), .unset, .unset, .unset, .unset, .unset, .unset, .unset, .unset, .unset, .unset, .unset, .unset, .unset] [] := by first | (simp [entryFrame, mkF, argsToLocals, Value.category, maxLocals]; done) | rfl
def Qrm0 (Z : State) (fl : Int32) (na : Int32) (nb : Int32) (nc : Int32) (u_TREC : Addr) (u_AWARE : Addr) (cs : Int32) (h0 : Heap) (n0 : Nat) (rV : Option Value) (hE : Heap) (LE : List Loc) : Prop := rV = some (.int (1 : Int32)) ∧ Fr n0 LE
set_option maxRecDepth 65536 in
set_option maxHeartbeats 40000000 in
theorem rm0 (l : Launch) (Z : State) (a0 : Array Value) (hw : ∀ d ∈ tables_1, d.before a0 Z = true) (ws : List Jvm.Cond) (fl : Int32) (na : Int32) (nb : Int32) (nc : Int32) (u_TREC : Addr) (u_AWARE : Addr) (cs : Int32) (h0 : Heap) (n0 : Nat) (Z0 : n0 ≤ h0.size) (S_TREC : Sta Z h0 "com/example/sift_sentences/siftsentences/eval/TieRule" "TREC" "Lcom/example/sift_sentences/siftsentences/eval/TieRule;" (.ref u_TREC)) (S_AWARE : Sta Z h0 "com/example/sift_sentences/siftsentences/eval/TieRule" "AWARE" "Lcom/example/sift_sentences/siftsentences/eval/TieRule;" (.ref u_AWARE)) (E_u_TREC : Exa Z h0 u_TREC "com/example/sift_sentences/siftsentences/eval/TieRule") (E_u_AWARE : Exa Z h0 u_AWARE "com/example/sift_sentences/siftsentences/eval/TieRule") (F_groupsEqualScores_u_TREC : Fld Z h0 u_TREC "com/example/sift_sentences/siftsentences/eval/TieRule" "groupsEqualScores" "Z" (.int (0 : Int32))) (F_groupsEqualScores_u_AWARE : Fld Z h0 u_AWARE "com/example/sift_sentences/siftsentences/eval/TieRule" "groupsEqualScores" "Z" (.int (1 : Int32))) (S_COMPACT_STRINGS : Sta Z h0 "java/lang/String" "COMPACT_STRINGS" "Z" (.int cs)) (hcs : ¬ (cs = (0 : Int32))) :
    MetFree l x (head1 (Jvm.Cond.code x code maxLocals ret :: ws) room_1) (fun aA UA => aA = #[(.int fl), (.int na), (.int nb), (.int nc)] ∧ Z.Warmed39 UA.vm ∧ UA.heap = h0) (fun _ _ _ _ _ => True) (fun _ UA oA UB => ∃ rV LE, oA = .returned rV ∧ Qrm0 Z fl na nb nc u_TREC u_AWARE cs h0 n0 rV UB.heap LE ∧ FrameEnd UA oA UB LE room_1.cells room_1.slots) := by
  refine MetFree.of_bodySF (plainFor_of_name pn_4) hisR ?_
  intro p e s m args below meth c s₁ Bd hml0 hP hK
  obtain ⟨rfl, hZ, hh⟩ := hP
  have hx := Bd.exec
  have hby := Bd.bytes
  have hml : c.maxLocals = 17 := hml0
  have hown : s.vm.findClass "com/example/sift_sentences/siftsentences/eval/TieRuleGroupsPinLaw" = some m.cls := findClass_of_methodNamed Bd.named
  have hnm := (name_of_methodNamed Bd.named Bd.method).1
  have hlk := Bd.notSynchronized
  have X0 : Stand p l e room_1 s m #[(.int fl), (.int na), (.int nb), (.int nc)] below meth c s₁ [] 0 0 := Stand.of_body Bd
  have e0 : s₁.heap = h0 := by rw [← hh, Bd.state]; rfl
  have N0 := Fr.nil n0
  show Go p e below s (Qrm0 Z fl na nb nc u_TREC u_AWARE cs h0 n0) room_1.cells room_1.slots s₁ (entryFrame m #[(.int fl), (.int na), (.int nb), (.int nc)] maxLocals)
  refine Go.eq (ef_rm0 m fl na nb nc) ?_
  show Go p e below s _ _ _ s₁ (mkF m 0 #[.val (.int fl), .val (.int na), .val (.int nb), .val (.int nc), .unset, .unset, .unset, .unset, .unset, .unset, .unset, .unset, .unset, .unset, .unset, .unset, .unset] [])
  refine Go.st (fun _ => XS.iloadN X0.here hx rfl (hb hby at_0) rfl) ?_
  show Go p e below s _ _ _ s₁ (mkF m 1 #[.val (.int fl), .val (.int na), .val (.int nb), .val (.int nc), .unset, .unset, .unset, .unset, .unset, .unset, .unset, .unset, .unset, .unset, .unset, .unset, .unset] [(.int fl)])
  refine Go.st (fun _ => XS.iconst X0.here hx rfl (hb hby at_1)) ?_
  show Go p e below s _ _ _ s₁ (mkF m 2 #[.val (.int fl), .val (.int na), .val (.int nb), .val (.int nc), .unset, .unset, .unset, .unset, .unset, .unset, .unset, .unset, .unset, .unset, .unset, .unset, .unset] [(.int (1 : Int32)), (.int fl)])
  refine Go.st (fun _ => XS.iand X0.here hx rfl (hb hby at_2) rfl) ?_
  show Go p e below s _ _ _ s₁ (mkF m 3 #[.val (.int fl), .val (.int na), .val (.int nb), .val (.int nc), .unset, .unset, .unset, .unset, .unset, .unset, .unset, .unset, .unset, .unset, .unset, .unset, .unset] [(.int (fl &&& (1 : Int32)))])
  by_cases hc_1 : (fl &&& (1 : Int32)) = (0 : Int32)
  · refine Go.st (fun _ => XS.ifYes X0.here hx rfl (pc0 := 3) (pc' := 10) rfl (hb hby at_3) rfl ((if0 _ _).trans (teq hc_1).1) (by decide) (by decide)) ?_
    show Go p e below s _ _ _ s₁ (mkF m 10 #[.val (.int fl), .val (.int na), .val (.int nb), .val (.int nc), .unset, .unset, .unset, .unset, .unset, .unset, .unset, .unset, .unset, .unset, .unset, .unset, .unset] [])
    refine Go.st (fun _ => XS.iconst X0.here hx rfl (hb hby at_10)) ?_
    show Go p e below s _ _ _ s₁ (mkF m 11 #[.val (.int fl), .val (.int na), .val (.int nb), .val (.int nc), .unset, .unset, .unset, .unset, .unset, .unset, .unset, .unset, .unset, .unset, .unset, .unset, .unset] [(.int (0 : Int32))])
    refine Go.st (fun _ => XS.istore X0.here hx rfl (hb hby at_11) rfl (l' := #[.val (.int fl), .val (.int na), .val (.int nb), .val (.int nc), .val (.int (0 : Int32)), .unset, .unset, .unset, .unset, .unset, .unset, .unset, .unset, .unset, .unset, .unset, .unset]) rfl) ?_
    show Go p e below s _ _ _ s₁ (mkF m 13 #[.val (.int fl), .val (.int na), .val (.int nb), .val (.int nc), .val (.int (0 : Int32)), .unset, .unset, .unset, .unset, .unset, .unset, .unset, .unset, .unset, .unset, .unset, .unset] [])
    refine Go.st (fun _ => XS.iload X0.here hx rfl (hb hby at_13) rfl) ?_
    show Go p e below s _ _ _ s₁ (mkF m 15 #[.val (.int fl), .val (.int na), .val (.int nb), .val (.int nc), .val (.int (0 : Int32)), .unset, .unset, .unset, .unset, .unset, .unset, .unset, .unset, .unset, .unset, .unset, .unset] [(.int (0 : Int32))])
    refine Go.st (fun _ => XS.ifYes X0.here hx rfl (pc0 := 15) (pc' := 24) rfl (hb hby at_15) rfl ((if0 _ _).trans (teq (by decide : (0 : Int32) = (0 : Int32))).1) (by decide) (by decide)) ?_
    show Go p e below s _ _ _ s₁ (mkF m 24 #[.val (.int fl), .val (.int na), .val (.int nb), .val (.int nc), .val (.int (0 : Int32)), .unset, .unset, .unset, .unset, .unset, .unset, .unset, .unset, .unset, .unset, .unset, .unset] [])
    obtain ⟨T_2, X_2, e_2, st_2⟩ := getS2 X0 hx hZ hown (host := "") (Or.inl (hw _ (List.mem_of_getElem? (i := 0) rfl))) Via.refl e0 S_TREC (g := (mkF m 24 #[.val (.int fl), .val (.int na), .val (.int nb), .val (.int nc), .val (.int (0 : Int32)), .unset, .unset, .unset, .unset, .unset, .unset, .unset, .unset, .unset, .unset, .unset, .unset] [])) rfl (hb hby at_24)
    refine Go.st st_2 ?_
    show Go p e below s _ _ _ T_2 (mkF m 27 #[.val (.int fl), .val (.int na), .val (.int nb), .val (.int nc), .val (.int (0 : Int32)), .unset, .unset, .unset, .unset, .unset, .unset, .unset, .unset, .unset, .unset, .unset, .unset] [(.ref u_TREC)])
    refine Go.st (fun _ => XS.astore X_2.here hx rfl (hb hby at_27) rfl rfl (l' := #[.val (.int fl), .val (.int na), .val (.int nb), .val (.int nc), .val (.int (0 : Int32)), .val (.ref u_TREC), .unset, .unset, .unset, .unset, .unset, .unset, .unset, .unset, .unset, .unset, .unset]) rfl) ?_
    show Go p e below s _ _ _ T_2 (mkF m 29 #[.val (.int fl), .val (.int na), .val (.int nb), .val (.int nc), .val (.int (0 : Int32)), .val (.ref u_TREC), .unset, .unset, .unset, .unset, .unset, .unset, .unset, .unset, .unset, .unset, .unset] [])
    have JC : ∀ (TJC : State) (locsJC : List Loc) (XJC : Stand p l e room_1 s m #[(.int fl), (.int na), (.int nb), (.int nc)] below meth c TJC locsJC 0 0) (eJC : TJC.heap = h0) (NJC : Fr n0 locsJC) (bb : Int32) (y1 : UInt64) (y2 : UInt64) (hya : FP.Core.DInt na.toInt y1) (hyb : FP.Core.DInt bb.toInt y2), Go p e below s (Qrm0 Z fl na nb nc u_TREC u_AWARE cs h0 n0) room_1.cells room_1.slots TJC (mkF m 85 #[.val (.int fl), .val (.int na), .val (.int nb), .val (.int nc), .val (.int (0 : Int32)), .val (.ref u_TREC), .val (.int bb), .val (.double y1), .second, .val (.double y2), .second, .unset, .unset, .unset, .unset, .unset, .unset] []) := by
      intro TJC locsJC XJC eJC NJC bb y1 y2 hya hyb
      refine Go.st (fun _ => XS.iloadN XJC.here hx rfl (hb hby at_85) rfl) ?_
      show Go p e below s _ _ _ TJC (mkF m 86 #[.val (.int fl), .val (.int na), .val (.int nb), .val (.int nc), .val (.int (0 : Int32)), .val (.ref u_TREC), .val (.int bb), .val (.double y1), .second, .val (.double y2), .second, .unset, .unset, .unset, .unset, .unset, .unset] [(.int nc)])
      refine Go.st (fun _ => XS.sipush XJC.here hx rfl (hb hby at_86)) ?_
      show Go p e below s _ _ _ TJC (mkF m 89 #[.val (.int fl), .val (.int na), .val (.int nb), .val (.int nc), .val (.int (0 : Int32)), .val (.ref u_TREC), .val (.int bb), .val (.double y1), .second, .val (.double y2), .second, .unset, .unset, .unset, .unset, .unset, .unset] [(.int (255 : Int32)), (.int nc)])
      refine Go.st (fun _ => XS.iand XJC.here hx rfl (hb hby at_89) rfl) ?_
      show Go p e below s _ _ _ TJC (mkF m 90 #[.val (.int fl), .val (.int na), .val (.int nb), .val (.int nc), .val (.int (0 : Int32)), .val (.ref u_TREC), .val (.int bb), .val (.double y1), .second, .val (.double y2), .second, .unset, .unset, .unset, .unset, .unset, .unset] [(.int (nc &&& (255 : Int32)))])
      refine Go.st (fun _ => XS.i2c XJC.here hx rfl (hb hby at_90) rfl) ?_
      show Go p e below s _ _ _ TJC (mkF m 91 #[.val (.int fl), .val (.int na), .val (.int nb), .val (.int nc), .val (.int (0 : Int32)), .val (.ref u_TREC), .val (.int bb), .val (.double y1), .second, .val (.double y2), .second, .unset, .unset, .unset, .unset, .unset, .unset] [(.int ((nc &&& (255 : Int32)).toUInt32.toUInt16.toUInt32.toInt32))])
      obtain ⟨_, _, ⟨T_3, L_3, kc_3, nc_3⟩, -, X_3, ⟨Lc_3, hQ_3, l_3, y_3, z_3⟩, st_3⟩ := Jvm.LawKit.callS XJC hx (y := (⟨"java/lang/String", "valueOf", "(C)Ljava/lang/String;"⟩ : MethodName)) hown (mvT hZ (hw _ (List.mem_of_getElem? (i := 3) rfl))) (mvT hZ (hw _ (List.mem_of_getElem? (i := 4) rfl))) (mvT hZ (hw _ (List.mem_of_getElem? (i := 5) rfl))) (mvT hZ (hw _ (List.mem_of_getElem? (i := 6) rfl))) (by decide) (backOf (W := 0) (rmVo l Z a0 hw [] ((nc &&& (255 : Int32)).toUInt32.toUInt16.toUInt32.toInt32) cs h0 n0 Z0 S_COMPACT_STRINGS hcs (own_c255 _)) hZ (hw _ (List.mem_of_getElem? (i := 6) rfl)) (hw _ (List.mem_of_getElem? (i := 5) rfl)) (by decide) (by decide)) (g := (mkF m 91 #[.val (.int fl), .val (.int na), .val (.int nb), .val (.int nc), .val (.int (0 : Int32)), .val (.ref u_TREC), .val (.int bb), .val (.double y1), .second, .val (.double y2), .second, .unset, .unset, .unset, .unset, .unset, .unset] [(.int ((nc &&& (255 : Int32)).toUInt32.toUInt16.toUInt32.toInt32))])) rfl (by rw [hml]; rfl) (argsL := [(.int ((nc &&& (255 : Int32)).toUInt32.toUInt16.toUInt32.toInt32))]) (rest := []) (lenOf pd_4 rfl) rfl (by show 2 * 0 + _ ≤ _; exact Nat.le_of_eq rfl) (hb hby at_91) (fun _ _ => ⟨rfl, eJC, (by decide : 0 + 2 ≤ _), (by decide : 0 + 5 ≤ _)⟩)
      dsimp only [Pt.U, Pt.locs, Pt.cells, Pt.slots] at X_3 l_3 y_3 z_3 st_3 hQ_3
      obtain rfl : kc_3 = 2 := y_3
      obtain rfl : nc_3 = 5 := z_3
      obtain ⟨h_3, e_3⟩ : ∃ hh, T_3.heap = hh := ⟨_, rfl⟩
      rw [e_3] at hQ_3
      obtain ⟨b__3, d__3, kd__3, rfl, N_3q, K_3, p_3_0, p_3_1, p_3_2, p_3_3, p_3_4, p_3_5, p_3_6, p_3_7, p_3_8⟩ := hQ_3
      have N_3 : Fr n0 L_3 := by rw [l_3]; exact Fr.app NJC N_3q
      refine Go.st st_3 ?_
      have ne_u_TREC_b__3 : u_TREC ≠ b__3 := Nat.ne_of_lt (Nat.lt_of_lt_of_le E_u_TREC.lt p_3_0)
      have ne_u_AWARE_b__3 : u_AWARE ≠ b__3 := Nat.ne_of_lt (Nat.lt_of_lt_of_le E_u_AWARE.lt p_3_0)
      have ne_u_TREC_d__3 : u_TREC ≠ d__3 := Nat.ne_of_lt (Nat.lt_of_lt_of_le E_u_TREC.lt p_3_5)
      have ne_u_AWARE_d__3 : u_AWARE ≠ d__3 := Nat.ne_of_lt (Nat.lt_of_lt_of_le E_u_AWARE.lt p_3_5)
      have z_3q : n0 ≤ h_3.size := Nat.le_trans Z0 K_3.1
      have ns_3 : ∀ x ∈ ([] : List Addr), ∀ cell : Cell, h0[x]? = some cell → cell.vm.isStatics = false := all0
      show Go p e below s _ _ _ T_3 (mkF m 94 #[.val (.int fl), .val (.int na), .val (.int nb), .val (.int nc), .val (.int (0 : Int32)), .val (.ref u_TREC), .val (.int bb), .val (.double y1), .second, .val (.double y2), .second, .unset, .unset, .unset, .unset, .unset, .unset] [(.ref b__3)])
      refine Go.st (fun _ => XS.astore X_3.here hx rfl (hb hby at_94) rfl rfl (l' := #[.val (.int fl), .val (.int na), .val (.int nb), .val (.int nc), .val (.int (0 : Int32)), .val (.ref u_TREC), .val (.int bb), .val (.double y1), .second, .val (.double y2), .second, .val (.ref b__3), .unset, .unset, .unset, .unset, .unset]) rfl) ?_
      show Go p e below s _ _ _ T_3 (mkF m 96 #[.val (.int fl), .val (.int na), .val (.int nb), .val (.int nc), .val (.int (0 : Int32)), .val (.ref u_TREC), .val (.int bb), .val (.double y1), .second, .val (.double y2), .second, .val (.ref b__3), .unset, .unset, .unset, .unset, .unset] [])
      refine Go.st (fun _ => XS.iloadN X_3.here hx rfl (hb hby at_96) rfl) ?_
      show Go p e below s _ _ _ T_3 (mkF m 97 #[.val (.int fl), .val (.int na), .val (.int nb), .val (.int nc), .val (.int (0 : Int32)), .val (.ref u_TREC), .val (.int bb), .val (.double y1), .second, .val (.double y2), .second, .val (.ref b__3), .unset, .unset, .unset, .unset, .unset] [(.int nc)])
      refine Go.st (fun _ => XS.bipush X_3.here hx rfl (hb hby at_97)) ?_
      show Go p e below s _ _ _ T_3 (mkF m 99 #[.val (.int fl), .val (.int na), .val (.int nb), .val (.int nc), .val (.int (0 : Int32)), .val (.ref u_TREC), .val (.int bb), .val (.double y1), .second, .val (.double y2), .second, .val (.ref b__3), .unset, .unset, .unset, .unset, .unset] [(.int (8 : Int32)), (.int nc)])
      refine Go.st (fun _ => XS.iushr X_3.here hx rfl (hb hby at_99) rfl) ?_
      show Go p e below s _ _ _ T_3 (mkF m 100 #[.val (.int fl), .val (.int na), .val (.int nb), .val (.int nc), .val (.int (0 : Int32)), .val (.ref u_TREC), .val (.int bb), .val (.double y1), .second, .val (.double y2), .second, .val (.ref b__3), .unset, .unset, .unset, .unset, .unset] [(.int ((nc.toUInt32 >>> ((8 : Int32) &&& 31).toUInt32).toInt32))])
      refine Go.st (fun _ => XS.sipush X_3.here hx rfl (hb hby at_100)) ?_
      show Go p e below s _ _ _ T_3 (mkF m 103 #[.val (.int fl), .val (.int na), .val (.int nb), .val (.int nc), .val (.int (0 : Int32)), .val (.ref u_TREC), .val (.int bb), .val (.double y1), .second, .val (.double y2), .second, .val (.ref b__3), .unset, .unset, .unset, .unset, .unset] [(.int (255 : Int32)), (.int ((nc.toUInt32 >>> ((8 : Int32) &&& 31).toUInt32).toInt32))])
      refine Go.st (fun _ => XS.iand X_3.here hx rfl (hb hby at_103) rfl) ?_
      show Go p e below s _ _ _ T_3 (mkF m 104 #[.val (.int fl), .val (.int na), .val (.int nb), .val (.int nc), .val (.int (0 : Int32)), .val (.ref u_TREC), .val (.int bb), .val (.double y1), .second, .val (.double y2), .second, .val (.ref b__3), .unset, .unset, .unset, .unset, .unset] [(.int (((nc.toUInt32 >>> ((8 : Int32) &&& 31).toUInt32).toInt32) &&& (255 : Int32)))])
      refine Go.st (fun _ => XS.i2c X_3.here hx rfl (hb hby at_104) rfl) ?_
      show Go p e below s _ _ _ T_3 (mkF m 105 #[.val (.int fl), .val (.int na), .val (.int nb), .val (.int nc), .val (.int (0 : Int32)), .val (.ref u_TREC), .val (.int bb), .val (.double y1), .second, .val (.double y2), .second, .val (.ref b__3), .unset, .unset, .unset, .unset, .unset] [(.int ((((nc.toUInt32 >>> ((8 : Int32) &&& 31).toUInt32).toInt32) &&& (255 : Int32)).toUInt32.toUInt16.toUInt32.toInt32))])
      have f_5 := (own_sta_keep S_COMPACT_STRINGS K_3 ns_3)
      obtain ⟨_, _, ⟨T_4, L_4, kc_4, nc_4⟩, -, X_4, ⟨Lc_4, hQ_4, l_4, y_4, z_4⟩, st_4⟩ := Jvm.LawKit.callS X_3 hx (y := (⟨"java/lang/String", "valueOf", "(C)Ljava/lang/String;"⟩ : MethodName)) hown (mvT hZ (hw _ (List.mem_of_getElem? (i := 3) rfl))) (mvT hZ (hw _ (List.mem_of_getElem? (i := 4) rfl))) (mvT hZ (hw _ (List.mem_of_getElem? (i := 5) rfl))) (mvT hZ (hw _ (List.mem_of_getElem? (i := 6) rfl))) (by decide) (backOf (W := 0) (rmVo l Z a0 hw [] ((((nc.toUInt32 >>> ((8 : Int32) &&& 31).toUInt32).toInt32) &&& (255 : Int32)).toUInt32.toUInt16.toUInt32.toInt32) cs h_3 n0 z_3q f_5 hcs (own_c255 _)) hZ (hw _ (List.mem_of_getElem? (i := 6) rfl)) (hw _ (List.mem_of_getElem? (i := 5) rfl)) (by decide) (by decide)) (g := (mkF m 105 #[.val (.int fl), .val (.int na), .val (.int nb), .val (.int nc), .val (.int (0 : Int32)), .val (.ref u_TREC), .val (.int bb), .val (.double y1), .second, .val (.double y2), .second, .val (.ref b__3), .unset, .unset, .unset, .unset, .unset] [(.int ((((nc.toUInt32 >>> ((8 : Int32) &&& 31).toUInt32).toInt32) &&& (255 : Int32)).toUInt32.toUInt16.toUInt32.toInt32))])) rfl (by rw [hml]; rfl) (argsL := [(.int ((((nc.toUInt32 >>> ((8 : Int32) &&& 31).toUInt32).toInt32) &&& (255 : Int32)).toUInt32.toUInt16.toUInt32.toInt32))]) (rest := []) (lenOf pd_4 rfl) rfl (by show 2 * 0 + _ ≤ _; exact Nat.le_of_eq rfl) (hb hby at_105) (fun _ _ => ⟨rfl, e_3, (by decide : 2 + 2 ≤ _), (by decide : 5 + 5 ≤ _)⟩)
      dsimp only [Pt.U, Pt.locs, Pt.cells, Pt.slots] at X_4 l_4 y_4 z_4 st_4 hQ_4
      obtain rfl : kc_4 = 4 := y_4
      obtain rfl : nc_4 = 10 := z_4
      obtain ⟨h_4, e_4⟩ : ∃ hh, T_4.heap = hh := ⟨_, rfl⟩
      rw [e_4] at hQ_4
      obtain ⟨b__4, d__4, kd__4, rfl, N_4q, K_4, p_4_0, p_4_1, p_4_2, p_4_3, p_4_4, p_4_5, p_4_6, p_4_7, p_4_8⟩ := hQ_4
      have N_4 : Fr n0 L_4 := by rw [l_4]; exact Fr.app N_3 N_4q
      refine Go.st st_4 ?_
      have f_6 := (E_u_TREC.keep K_3)
      have ne_u_TREC_b__4 : u_TREC ≠ b__4 := Nat.ne_of_lt (Nat.lt_of_lt_of_le f_6.lt p_4_0)
      have f_7 := (E_u_AWARE.keep K_3)
      have ne_u_AWARE_b__4 : u_AWARE ≠ b__4 := Nat.ne_of_lt (Nat.lt_of_lt_of_le f_7.lt p_4_0)
      have ne_b__3_b__4 : b__3 ≠ b__4 := Nat.ne_of_lt (Nat.lt_of_lt_of_le p_3_2.lt p_4_0)
      have ne_d__3_b__4 : d__3 ≠ b__4 := Nat.ne_of_lt (Nat.lt_of_lt_of_le p_3_7.lt p_4_0)
      have ne_u_TREC_d__4 : u_TREC ≠ d__4 := Nat.ne_of_lt (Nat.lt_of_lt_of_le f_6.lt p_4_5)
      have ne_u_AWARE_d__4 : u_AWARE ≠ d__4 := Nat.ne_of_lt (Nat.lt_of_lt_of_le f_7.lt p_4_5)
      have ne_b__3_d__4 : b__3 ≠ d__4 := Nat.ne_of_lt (Nat.lt_of_lt_of_le p_3_2.lt p_4_5)
      have ne_d__3_d__4 : d__3 ≠ d__4 := Nat.ne_of_lt (Nat.lt_of_lt_of_le p_3_7.lt p_4_5)
      have z_4q : n0 ≤ h_4.size := Nat.le_trans z_3q K_4.1
      have ns_4 : ∀ x ∈ ([] : List Addr), ∀ cell : Cell, h_3[x]? = some cell → cell.vm.isStatics = false := all0
      show Go p e below s _ _ _ T_4 (mkF m 108 #[.val (.int fl), .val (.int na), .val (.int nb), .val (.int nc), .val (.int (0 : Int32)), .val (.ref u_TREC), .val (.int bb), .val (.double y1), .second, .val (.double y2), .second, .val (.ref b__3), .unset, .unset, .unset, .unset, .unset] [(.ref b__4)])
      refine Go.st (fun _ => XS.astore X_4.here hx rfl (hb hby at_108) rfl rfl (l' := #[.val (.int fl), .val (.int na), .val (.int nb), .val (.int nc), .val (.int (0 : Int32)), .val (.ref u_TREC), .val (.int bb), .val (.double y1), .second, .val (.double y2), .second, .val (.ref b__3), .val (.ref b__4), .unset, .unset, .unset, .unset]) rfl) ?_
      show Go p e below s _ _ _ T_4 (mkF m 110 #[.val (.int fl), .val (.int na), .val (.int nb), .val (.int nc), .val (.int (0 : Int32)), .val (.ref u_TREC), .val (.int bb), .val (.double y1), .second, .val (.double y2), .second, .val (.ref b__3), .val (.ref b__4), .unset, .unset, .unset, .unset] [])
      refine Go.st (fun _ => XS.iloadN X_4.here hx rfl (hb hby at_110) rfl) ?_
      show Go p e below s _ _ _ T_4 (mkF m 111 #[.val (.int fl), .val (.int na), .val (.int nb), .val (.int nc), .val (.int (0 : Int32)), .val (.ref u_TREC), .val (.int bb), .val (.double y1), .second, .val (.double y2), .second, .val (.ref b__3), .val (.ref b__4), .unset, .unset, .unset, .unset] [(.int nc)])
      refine Go.st (fun _ => XS.bipush X_4.here hx rfl (hb hby at_111)) ?_
      show Go p e below s _ _ _ T_4 (mkF m 113 #[.val (.int fl), .val (.int na), .val (.int nb), .val (.int nc), .val (.int (0 : Int32)), .val (.ref u_TREC), .val (.int bb), .val (.double y1), .second, .val (.double y2), .second, .val (.ref b__3), .val (.ref b__4), .unset, .unset, .unset, .unset] [(.int (16 : Int32)), (.int nc)])
      refine Go.st (fun _ => XS.iushr X_4.here hx rfl (hb hby at_113) rfl) ?_
      show Go p e below s _ _ _ T_4 (mkF m 114 #[.val (.int fl), .val (.int na), .val (.int nb), .val (.int nc), .val (.int (0 : Int32)), .val (.ref u_TREC), .val (.int bb), .val (.double y1), .second, .val (.double y2), .second, .val (.ref b__3), .val (.ref b__4), .unset, .unset, .unset, .unset] [(.int ((nc.toUInt32 >>> ((16 : Int32) &&& 31).toUInt32).toInt32))])
      refine Go.st (fun _ => XS.sipush X_4.here hx rfl (hb hby at_114)) ?_
      show Go p e below s _ _ _ T_4 (mkF m 117 #[.val (.int fl), .val (.int na), .val (.int nb), .val (.int nc), .val (.int (0 : Int32)), .val (.ref u_TREC), .val (.int bb), .val (.double y1), .second, .val (.double y2), .second, .val (.ref b__3), .val (.ref b__4), .unset, .unset, .unset, .unset] [(.int (255 : Int32)), (.int ((nc.toUInt32 >>> ((16 : Int32) &&& 31).toUInt32).toInt32))])
      refine Go.st (fun _ => XS.iand X_4.here hx rfl (hb hby at_117) rfl) ?_
      show Go p e below s _ _ _ T_4 (mkF m 118 #[.val (.int fl), .val (.int na), .val (.int nb), .val (.int nc), .val (.int (0 : Int32)), .val (.ref u_TREC), .val (.int bb), .val (.double y1), .second, .val (.double y2), .second, .val (.ref b__3), .val (.ref b__4), .unset, .unset, .unset, .unset] [(.int (((nc.toUInt32 >>> ((16 : Int32) &&& 31).toUInt32).toInt32) &&& (255 : Int32)))])
      refine Go.st (fun _ => XS.i2c X_4.here hx rfl (hb hby at_118) rfl) ?_
      show Go p e below s _ _ _ T_4 (mkF m 119 #[.val (.int fl), .val (.int na), .val (.int nb), .val (.int nc), .val (.int (0 : Int32)), .val (.ref u_TREC), .val (.int bb), .val (.double y1), .second, .val (.double y2), .second, .val (.ref b__3), .val (.ref b__4), .unset, .unset, .unset, .unset] [(.int ((((nc.toUInt32 >>> ((16 : Int32) &&& 31).toUInt32).toInt32) &&& (255 : Int32)).toUInt32.toUInt16.toUInt32.toInt32))])
      have f_9 := (own_sta_keep f_5 K_4 ns_4)
      obtain ⟨_, _, ⟨T_8, L_8, kc_8, nc_8⟩, -, X_8, ⟨Lc_8, hQ_8, l_8, y_8, z_8⟩, st_8⟩ := Jvm.LawKit.callS X_4 hx (y := (⟨"java/lang/String", "valueOf", "(C)Ljava/lang/String;"⟩ : MethodName)) hown (mvT hZ (hw _ (List.mem_of_getElem? (i := 3) rfl))) (mvT hZ (hw _ (List.mem_of_getElem? (i := 4) rfl))) (mvT hZ (hw _ (List.mem_of_getElem? (i := 5) rfl))) (mvT hZ (hw _ (List.mem_of_getElem? (i := 6) rfl))) (by decide) (backOf (W := 0) (rmVo l Z a0 hw [] ((((nc.toUInt32 >>> ((16 : Int32) &&& 31).toUInt32).toInt32) &&& (255 : Int32)).toUInt32.toUInt16.toUInt32.toInt32) cs h_4 n0 z_4q f_9 hcs (own_c255 _)) hZ (hw _ (List.mem_of_getElem? (i := 6) rfl)) (hw _ (List.mem_of_getElem? (i := 5) rfl)) (by decide) (by decide)) (g := (mkF m 119 #[.val (.int fl), .val (.int na), .val (.int nb), .val (.int nc), .val (.int (0 : Int32)), .val (.ref u_TREC), .val (.int bb), .val (.double y1), .second, .val (.double y2), .second, .val (.ref b__3), .val (.ref b__4), .unset, .unset, .unset, .unset] [(.int ((((nc.toUInt32 >>> ((16 : Int32) &&& 31).toUInt32).toInt32) &&& (255 : Int32)).toUInt32.toUInt16.toUInt32.toInt32))])) rfl (by rw [hml]; rfl) (argsL := [(.int ((((nc.toUInt32 >>> ((16 : Int32) &&& 31).toUInt32).toInt32) &&& (255 : Int32)).toUInt32.toUInt16.toUInt32.toInt32))]) (rest := []) (lenOf pd_4 rfl) rfl (by show 2 * 0 + _ ≤ _; exact Nat.le_of_eq rfl) (hb hby at_119) (fun _ _ => ⟨rfl, e_4, (by decide : 4 + 2 ≤ _), (by decide : 10 + 5 ≤ _)⟩)
      dsimp only [Pt.U, Pt.locs, Pt.cells, Pt.slots] at X_8 l_8 y_8 z_8 st_8 hQ_8
      obtain rfl : kc_8 = 6 := y_8
      obtain rfl : nc_8 = 15 := z_8
      obtain ⟨h_8, e_8⟩ : ∃ hh, T_8.heap = hh := ⟨_, rfl⟩
      rw [e_8] at hQ_8
      obtain ⟨b__8, d__8, kd__8, rfl, N_8q, K_8, p_8_0, p_8_1, p_8_2, p_8_3, p_8_4, p_8_5, p_8_6, p_8_7, p_8_8⟩ := hQ_8
      have N_8 : Fr n0 L_8 := by rw [l_8]; exact Fr.app N_4 N_8q
      refine Go.st st_8 ?_
      have f_10 := (f_6.keep K_4)
      have ne_u_TREC_b__8 : u_TREC ≠ b__8 := Nat.ne_of_lt (Nat.lt_of_lt_of_le f_10.lt p_8_0)
      have f_11 := (f_7.keep K_4)
      have ne_u_AWARE_b__8 : u_AWARE ≠ b__8 := Nat.ne_of_lt (Nat.lt_of_lt_of_le f_11.lt p_8_0)
      have f_12 := (p_3_2.keep K_4)
      have ne_b__3_b__8 : b__3 ≠ b__8 := Nat.ne_of_lt (Nat.lt_of_lt_of_le f_12.lt p_8_0)
      have f_13 := (p_3_7.keep K_4 nin0)
      have ne_d__3_b__8 : d__3 ≠ b__8 := Nat.ne_of_lt (Nat.lt_of_lt_of_le f_13.lt p_8_0)
      have ne_b__4_b__8 : b__4 ≠ b__8 := Nat.ne_of_lt (Nat.lt_of_lt_of_le p_4_2.lt p_8_0)
      have ne_d__4_b__8 : d__4 ≠ b__8 := Nat.ne_of_lt (Nat.lt_of_lt_of_le p_4_7.lt p_8_0)
      have ne_u_TREC_d__8 : u_TREC ≠ d__8 := Nat.ne_of_lt (Nat.lt_of_lt_of_le f_10.lt p_8_5)
      have ne_u_AWARE_d__8 : u_AWARE ≠ d__8 := Nat.ne_of_lt (Nat.lt_of_lt_of_le f_11.lt p_8_5)
      have ne_b__3_d__8 : b__3 ≠ d__8 := Nat.ne_of_lt (Nat.lt_of_lt_of_le f_12.lt p_8_5)
      have ne_d__3_d__8 : d__3 ≠ d__8 := Nat.ne_of_lt (Nat.lt_of_lt_of_le f_13.lt p_8_5)
      have ne_b__4_d__8 : b__4 ≠ d__8 := Nat.ne_of_lt (Nat.lt_of_lt_of_le p_4_2.lt p_8_5)
      have ne_d__4_d__8 : d__4 ≠ d__8 := Nat.ne_of_lt (Nat.lt_of_lt_of_le p_4_7.lt p_8_5)
      have z_8q : n0 ≤ h_8.size := Nat.le_trans z_4q K_8.1
      have ns_8 : ∀ x ∈ ([] : List Addr), ∀ cell : Cell, h_4[x]? = some cell → cell.vm.isStatics = false := all0
      show Go p e below s _ _ _ T_8 (mkF m 122 #[.val (.int fl), .val (.int na), .val (.int nb), .val (.int nc), .val (.int (0 : Int32)), .val (.ref u_TREC), .val (.int bb), .val (.double y1), .second, .val (.double y2), .second, .val (.ref b__3), .val (.ref b__4), .unset, .unset, .unset, .unset] [(.ref b__8)])
      refine Go.st (fun _ => XS.astore X_8.here hx rfl (hb hby at_122) rfl rfl (l' := #[.val (.int fl), .val (.int na), .val (.int nb), .val (.int nc), .val (.int (0 : Int32)), .val (.ref u_TREC), .val (.int bb), .val (.double y1), .second, .val (.double y2), .second, .val (.ref b__3), .val (.ref b__4), .val (.ref b__8), .unset, .unset, .unset]) rfl) ?_
      show Go p e below s _ _ _ T_8 (mkF m 124 #[.val (.int fl), .val (.int na), .val (.int nb), .val (.int nc), .val (.int (0 : Int32)), .val (.ref u_TREC), .val (.int bb), .val (.double y1), .second, .val (.double y2), .second, .val (.ref b__3), .val (.ref b__4), .val (.ref b__8), .unset, .unset, .unset] [])
      obtain ⟨T_14, h_14, X_14, e_14, E_14, A_14, D_14, -, st_14⟩ := newO X_8 hx hZ hown (hw _ (List.mem_of_getElem? (i := 29) rfl)) (hw _ (List.mem_of_getElem? (i := 30) rfl)) (hw _ (List.mem_of_getElem? (i := 31) rfl)) e_8 (g := (mkF m 124 #[.val (.int fl), .val (.int na), .val (.int nb), .val (.int nc), .val (.int (0 : Int32)), .val (.ref u_TREC), .val (.int bb), .val (.double y1), .second, .val (.double y2), .second, .val (.ref b__3), .val (.ref b__4), .val (.ref b__8), .unset, .unset, .unset] [])) rfl (hb hby at_124) (by decide) (by decide)
      obtain ⟨b_14, g_14⟩ : ∃ z, z = h_8.size := ⟨_, rfl⟩
      rw [← g_14] at A_14 D_14 st_14
      refine Go.st st_14 ?_
      have f_15 := (f_10.keep K_8)
      have ne_u_TREC_b_14 : u_TREC ≠ b_14 := Nat.ne_of_lt (Nat.lt_of_lt_of_eq f_15.lt g_14.symm)
      have f_16 := (f_11.keep K_8)
      have ne_u_AWARE_b_14 : u_AWARE ≠ b_14 := Nat.ne_of_lt (Nat.lt_of_lt_of_eq f_16.lt g_14.symm)
      have f_17 := (f_12.keep K_8)
      have ne_b__3_b_14 : b__3 ≠ b_14 := Nat.ne_of_lt (Nat.lt_of_lt_of_eq f_17.lt g_14.symm)
      have f_18 := (f_13.keep K_8 nin0)
      have ne_d__3_b_14 : d__3 ≠ b_14 := Nat.ne_of_lt (Nat.lt_of_lt_of_eq f_18.lt g_14.symm)
      have f_19 := (p_4_2.keep K_8)
      have ne_b__4_b_14 : b__4 ≠ b_14 := Nat.ne_of_lt (Nat.lt_of_lt_of_eq f_19.lt g_14.symm)
      have f_20 := (p_4_7.keep K_8 nin0)
      have ne_d__4_b_14 : d__4 ≠ b_14 := Nat.ne_of_lt (Nat.lt_of_lt_of_eq f_20.lt g_14.symm)
      have ne_b__8_b_14 : b__8 ≠ b_14 := Nat.ne_of_lt (Nat.lt_of_lt_of_eq p_8_2.lt g_14.symm)
      have ne_d__8_b_14 : d__8 ≠ b_14 := Nat.ne_of_lt (Nat.lt_of_lt_of_eq p_8_7.lt g_14.symm)
      have gg_14 : n0 ≤ b_14 := Nat.le_trans z_8q (Nat.le_of_eq g_14.symm)
      have z_14 : n0 ≤ h_14.size := Nat.le_trans z_8q E_14.1
      have F_pairId_b_14 : Fld Z h_14 b_14 "com/example/sift_sentences/siftsentences/trec/RunLine" "pairId" "Ljava/lang/String;" .null := D_14 (Or.inr (hw _ (List.mem_of_getElem? (i := 37) rfl))) (ty := (.object "java/lang/String")) (by decide)
      have F_sentenceId_b_14 : Fld Z h_14 b_14 "com/example/sift_sentences/siftsentences/trec/RunLine" "sentenceId" "Ljava/lang/String;" .null := D_14 (Or.inr (hw _ (List.mem_of_getElem? (i := 39) rfl))) (ty := (.object "java/lang/String")) (by decide)
      have F_score_b_14 : Fld Z h_14 b_14 "com/example/sift_sentences/siftsentences/trec/RunLine" "score" "D" (.double (0 : UInt64)) := D_14 (Or.inr (hw _ (List.mem_of_getElem? (i := 41) rfl))) (ty := .double) (by decide)
      show Go p e below s _ _ _ T_14 (mkF m 127 #[.val (.int fl), .val (.int na), .val (.int nb), .val (.int nc), .val (.int (0 : Int32)), .val (.ref u_TREC), .val (.int bb), .val (.double y1), .second, .val (.double y2), .second, .val (.ref b__3), .val (.ref b__4), .val (.ref b__8), .unset, .unset, .unset] [(.ref b_14)])
      refine Go.st (fun _ => XS.dup X_14.here hx rfl (hb hby at_127) rfl rfl) ?_
      show Go p e below s _ _ _ T_14 (mkF m 128 #[.val (.int fl), .val (.int na), .val (.int nb), .val (.int nc), .val (.int (0 : Int32)), .val (.ref u_TREC), .val (.int bb), .val (.double y1), .second, .val (.double y2), .second, .val (.ref b__3), .val (.ref b__4), .val (.ref b__8), .unset, .unset, .unset] [(.ref b_14), (.ref b_14)])
      refine Go.st (fun _ => XS.aload X_14.here hx rfl (hb hby at_128) rfl rfl) ?_
      show Go p e below s _ _ _ T_14 (mkF m 130 #[.val (.int fl), .val (.int na), .val (.int nb), .val (.int nc), .val (.int (0 : Int32)), .val (.ref u_TREC), .val (.int bb), .val (.double y1), .second, .val (.double y2), .second, .val (.ref b__3), .val (.ref b__4), .val (.ref b__8), .unset, .unset, .unset] [(.ref b__3), (.ref b_14), (.ref b_14)])
      refine Go.st (fun _ => XS.aload X_14.here hx rfl (hb hby at_130) rfl rfl) ?_
      show Go p e below s _ _ _ T_14 (mkF m 132 #[.val (.int fl), .val (.int na), .val (.int nb), .val (.int nc), .val (.int (0 : Int32)), .val (.ref u_TREC), .val (.int bb), .val (.double y1), .second, .val (.double y2), .second, .val (.ref b__3), .val (.ref b__4), .val (.ref b__8), .unset, .unset, .unset] [(.ref b__4), (.ref b__3), (.ref b_14), (.ref b_14)])
      refine Go.st (fun _ => XS.dload X_14.here hx rfl (hb hby at_132) rfl) ?_
      show Go p e below s _ _ _ T_14 (mkF m 134 #[.val (.int fl), .val (.int na), .val (.int nb), .val (.int nc), .val (.int (0 : Int32)), .val (.ref u_TREC), .val (.int bb), .val (.double y1), .second, .val (.double y2), .second, .val (.ref b__3), .val (.ref b__4), .val (.ref b__8), .unset, .unset, .unset] [(.double y1), (.ref b__4), (.ref b__3), (.ref b_14), (.ref b_14)])
      obtain ⟨_, _, ⟨T_21, L_21, kc_21, nc_21⟩, -, X_21, ⟨Lc_21, hQ_21, l_21, y_21, z_21⟩, st_21⟩ := X_14.specialBack hx (y := (⟨"com/example/sift_sentences/siftsentences/trec/RunLine", "<init>", "(Ljava/lang/String;Ljava/lang/String;D)V"⟩ : MethodName)) rfl hown (mvT hZ (hw _ (List.mem_of_getElem? (i := 32) rfl))) (mvT hZ (hw _ (List.mem_of_getElem? (i := 33) rfl))) (mvT hZ (hw _ (List.mem_of_getElem? (i := 34) rfl))) (by decide) (backOf (W := 1) (rmRi l Z a0 hw [] b_14 b__3 b__4 y1 h_14 n0 z_14 A_14 F_pairId_b_14 F_sentenceId_b_14 F_score_b_14 gg_14) hZ (hw _ (List.mem_of_getElem? (i := 34) rfl)) (hw _ (List.mem_of_getElem? (i := 31) rfl)) (by decide) (by decide)) (g := (mkF m 134 #[.val (.int fl), .val (.int na), .val (.int nb), .val (.int nc), .val (.int (0 : Int32)), .val (.ref u_TREC), .val (.int bb), .val (.double y1), .second, .val (.double y2), .second, .val (.ref b__3), .val (.ref b__4), .val (.ref b__8), .unset, .unset, .unset] [(.double y1), (.ref b__4), (.ref b__3), (.ref b_14), (.ref b_14)])) rfl (by rw [hml]; rfl) (Steps.refl _) (a := b_14) (argsL := [(.ref b__3), (.ref b__4), (.double y1)]) (rest := [(.ref b_14)]) (lenOf pd_5 rfl) rfl (by show 2 * 0 + _ ≤ _; exact Nat.le_of_eq rfl) (hb hby at_134) (fun _ _ => ⟨rfl, e_14, (by decide : 7 + 0 ≤ _), (by decide : 18 + 0 ≤ _)⟩)
      dsimp only [Pt.U, Pt.locs, Pt.cells, Pt.slots] at X_21 l_21 y_21 z_21 st_21 hQ_21
      obtain rfl : kc_21 = 7 := y_21
      obtain rfl : nc_21 = 18 := z_21
      obtain ⟨h_21, e_21⟩ : ∃ hh, T_21.heap = hh := ⟨_, rfl⟩
      rw [e_21] at hQ_21
      obtain ⟨rfl, N_21q, K_21, p_21_0, p_21_1⟩ := hQ_21
      have N_21 : Fr n0 L_21 := by rw [l_21]; exact Fr.app N_8 N_21q
      refine Go.st (fun _ kk => st_21.trans kk) ?_
      have z_21q : n0 ≤ h_21.size := Nat.le_trans z_14 K_21.1
      have ns_21 : ∀ x ∈ ([b_14] : List Addr), ∀ cell : Cell, h_14[x]? = some cell → cell.vm.isStatics = false := (allS A_14.nostat all0)
      show Go p e below s _ _ _ T_21 (mkF m 137 #[.val (.int fl), .val (.int na), .val (.int nb), .val (.int nc), .val (.int (0 : Int32)), .val (.ref u_TREC), .val (.int bb), .val (.double y1), .second, .val (.double y2), .second, .val (.ref b__3), .val (.ref b__4), .val (.ref b__8), .unset, .unset, .unset] [(.ref b_14)])
      refine Go.st (fun _ => XS.astore X_21.here hx rfl (hb hby at_137) rfl rfl (l' := #[.val (.int fl), .val (.int na), .val (.int nb), .val (.int nc), .val (.int (0 : Int32)), .val (.ref u_TREC), .val (.int bb), .val (.double y1), .second, .val (.double y2), .second, .val (.ref b__3), .val (.ref b__4), .val (.ref b__8), .val (.ref b_14), .unset, .unset]) rfl) ?_
      show Go p e below s _ _ _ T_21 (mkF m 139 #[.val (.int fl), .val (.int na), .val (.int nb), .val (.int nc), .val (.int (0 : Int32)), .val (.ref u_TREC), .val (.int bb), .val (.double y1), .second, .val (.double y2), .second, .val (.ref b__3), .val (.ref b__4), .val (.ref b__8), .val (.ref b_14), .unset, .unset] [])
      obtain ⟨T_22, h_22, X_22, e_22, E_22, A_22, D_22, -, st_22⟩ := newO X_21 hx hZ hown (hw _ (List.mem_of_getElem? (i := 29) rfl)) (hw _ (List.mem_of_getElem? (i := 30) rfl)) (hw _ (List.mem_of_getElem? (i := 31) rfl)) e_21 (g := (mkF m 139 #[.val (.int fl), .val (.int na), .val (.int nb), .val (.int nc), .val (.int (0 : Int32)), .val (.ref u_TREC), .val (.int bb), .val (.double y1), .second, .val (.double y2), .second, .val (.ref b__3), .val (.ref b__4), .val (.ref b__8), .val (.ref b_14), .unset, .unset] [])) rfl (hb hby at_139) (by decide) (by decide)
      obtain ⟨b_22, g_22⟩ : ∃ z, z = h_21.size := ⟨_, rfl⟩
      rw [← g_22] at A_22 D_22 st_22
      refine Go.st st_22 ?_
      have f_23 := ((f_15.ext E_14).keep K_21)
      have ne_u_TREC_b_22 : u_TREC ≠ b_22 := Nat.ne_of_lt (Nat.lt_of_lt_of_eq f_23.lt g_22.symm)
      have f_24 := ((f_16.ext E_14).keep K_21)
      have ne_u_AWARE_b_22 : u_AWARE ≠ b_22 := Nat.ne_of_lt (Nat.lt_of_lt_of_eq f_24.lt g_22.symm)
      have f_25 := ((f_17.ext E_14).keep K_21)
      have ne_b__3_b_22 : b__3 ≠ b_22 := Nat.ne_of_lt (Nat.lt_of_lt_of_eq f_25.lt g_22.symm)
      have f_26 := ((f_18.ext E_14).keep K_21 (ninS ne_d__3_b_14 nin0))
      have ne_d__3_b_22 : d__3 ≠ b_22 := Nat.ne_of_lt (Nat.lt_of_lt_of_eq f_26.lt g_22.symm)
      have f_27 := ((f_19.ext E_14).keep K_21)
      have ne_b__4_b_22 : b__4 ≠ b_22 := Nat.ne_of_lt (Nat.lt_of_lt_of_eq f_27.lt g_22.symm)
      have f_28 := ((f_20.ext E_14).keep K_21 (ninS ne_d__4_b_14 nin0))
      have ne_d__4_b_22 : d__4 ≠ b_22 := Nat.ne_of_lt (Nat.lt_of_lt_of_eq f_28.lt g_22.symm)
      have f_29 := ((p_8_2.ext E_14).keep K_21)
      have ne_b__8_b_22 : b__8 ≠ b_22 := Nat.ne_of_lt (Nat.lt_of_lt_of_eq f_29.lt g_22.symm)
      have f_30 := ((p_8_7.ext E_14).keep K_21 (ninS ne_d__8_b_14 nin0))
      have ne_d__8_b_22 : d__8 ≠ b_22 := Nat.ne_of_lt (Nat.lt_of_lt_of_eq f_30.lt g_22.symm)
      have ne_b_14_b_22 : b_14 ≠ b_22 := Nat.ne_of_lt (Nat.lt_of_lt_of_eq p_21_0.lt g_22.symm)
      have gg_22 : n0 ≤ b_22 := Nat.le_trans z_21q (Nat.le_of_eq g_22.symm)
      have z_22 : n0 ≤ h_22.size := Nat.le_trans z_21q E_22.1
      have F_pairId_b_22 : Fld Z h_22 b_22 "com/example/sift_sentences/siftsentences/trec/RunLine" "pairId" "Ljava/lang/String;" .null := D_22 (Or.inr (hw _ (List.mem_of_getElem? (i := 37) rfl))) (ty := (.object "java/lang/String")) (by decide)
      have F_sentenceId_b_22 : Fld Z h_22 b_22 "com/example/sift_sentences/siftsentences/trec/RunLine" "sentenceId" "Ljava/lang/String;" .null := D_22 (Or.inr (hw _ (List.mem_of_getElem? (i := 39) rfl))) (ty := (.object "java/lang/String")) (by decide)
      have F_score_b_22 : Fld Z h_22 b_22 "com/example/sift_sentences/siftsentences/trec/RunLine" "score" "D" (.double (0 : UInt64)) := D_22 (Or.inr (hw _ (List.mem_of_getElem? (i := 41) rfl))) (ty := .double) (by decide)
      show Go p e below s _ _ _ T_22 (mkF m 142 #[.val (.int fl), .val (.int na), .val (.int nb), .val (.int nc), .val (.int (0 : Int32)), .val (.ref u_TREC), .val (.int bb), .val (.double y1), .second, .val (.double y2), .second, .val (.ref b__3), .val (.ref b__4), .val (.ref b__8), .val (.ref b_14), .unset, .unset] [(.ref b_22)])
      refine Go.st (fun _ => XS.dup X_22.here hx rfl (hb hby at_142) rfl rfl) ?_
      show Go p e below s _ _ _ T_22 (mkF m 143 #[.val (.int fl), .val (.int na), .val (.int nb), .val (.int nc), .val (.int (0 : Int32)), .val (.ref u_TREC), .val (.int bb), .val (.double y1), .second, .val (.double y2), .second, .val (.ref b__3), .val (.ref b__4), .val (.ref b__8), .val (.ref b_14), .unset, .unset] [(.ref b_22), (.ref b_22)])
      refine Go.st (fun _ => XS.aload X_22.here hx rfl (hb hby at_143) rfl rfl) ?_
      show Go p e below s _ _ _ T_22 (mkF m 145 #[.val (.int fl), .val (.int na), .val (.int nb), .val (.int nc), .val (.int (0 : Int32)), .val (.ref u_TREC), .val (.int bb), .val (.double y1), .second, .val (.double y2), .second, .val (.ref b__3), .val (.ref b__4), .val (.ref b__8), .val (.ref b_14), .unset, .unset] [(.ref b__3), (.ref b_22), (.ref b_22)])
      refine Go.st (fun _ => XS.aload X_22.here hx rfl (hb hby at_145) rfl rfl) ?_
      show Go p e below s _ _ _ T_22 (mkF m 147 #[.val (.int fl), .val (.int na), .val (.int nb), .val (.int nc), .val (.int (0 : Int32)), .val (.ref u_TREC), .val (.int bb), .val (.double y1), .second, .val (.double y2), .second, .val (.ref b__3), .val (.ref b__4), .val (.ref b__8), .val (.ref b_14), .unset, .unset] [(.ref b__8), (.ref b__3), (.ref b_22), (.ref b_22)])
      refine Go.st (fun _ => XS.dload X_22.here hx rfl (hb hby at_147) rfl) ?_
      show Go p e below s _ _ _ T_22 (mkF m 149 #[.val (.int fl), .val (.int na), .val (.int nb), .val (.int nc), .val (.int (0 : Int32)), .val (.ref u_TREC), .val (.int bb), .val (.double y1), .second, .val (.double y2), .second, .val (.ref b__3), .val (.ref b__4), .val (.ref b__8), .val (.ref b_14), .unset, .unset] [(.double y2), (.ref b__8), (.ref b__3), (.ref b_22), (.ref b_22)])
      obtain ⟨_, _, ⟨T_31, L_31, kc_31, nc_31⟩, -, X_31, ⟨Lc_31, hQ_31, l_31, y_31, z_31⟩, st_31⟩ := X_22.specialBack hx (y := (⟨"com/example/sift_sentences/siftsentences/trec/RunLine", "<init>", "(Ljava/lang/String;Ljava/lang/String;D)V"⟩ : MethodName)) rfl hown (mvT hZ (hw _ (List.mem_of_getElem? (i := 32) rfl))) (mvT hZ (hw _ (List.mem_of_getElem? (i := 33) rfl))) (mvT hZ (hw _ (List.mem_of_getElem? (i := 34) rfl))) (by decide) (backOf (W := 1) (rmRi l Z a0 hw [] b_22 b__3 b__8 y2 h_22 n0 z_22 A_22 F_pairId_b_22 F_sentenceId_b_22 F_score_b_22 gg_22) hZ (hw _ (List.mem_of_getElem? (i := 34) rfl)) (hw _ (List.mem_of_getElem? (i := 31) rfl)) (by decide) (by decide)) (g := (mkF m 149 #[.val (.int fl), .val (.int na), .val (.int nb), .val (.int nc), .val (.int (0 : Int32)), .val (.ref u_TREC), .val (.int bb), .val (.double y1), .second, .val (.double y2), .second, .val (.ref b__3), .val (.ref b__4), .val (.ref b__8), .val (.ref b_14), .unset, .unset] [(.double y2), (.ref b__8), (.ref b__3), (.ref b_22), (.ref b_22)])) rfl (by rw [hml]; rfl) (Steps.refl _) (a := b_22) (argsL := [(.ref b__3), (.ref b__8), (.double y2)]) (rest := [(.ref b_22)]) (lenOf pd_5 rfl) rfl (by show 2 * 0 + _ ≤ _; exact Nat.le_of_eq rfl) (hb hby at_149) (fun _ _ => ⟨rfl, e_22, (by decide : 8 + 0 ≤ _), (by decide : 21 + 0 ≤ _)⟩)
      dsimp only [Pt.U, Pt.locs, Pt.cells, Pt.slots] at X_31 l_31 y_31 z_31 st_31 hQ_31
      obtain rfl : kc_31 = 8 := y_31
      obtain rfl : nc_31 = 21 := z_31
      obtain ⟨h_31, e_31⟩ : ∃ hh, T_31.heap = hh := ⟨_, rfl⟩
      rw [e_31] at hQ_31
      obtain ⟨rfl, N_31q, K_31, p_31_0, p_31_1⟩ := hQ_31
      have N_31 : Fr n0 L_31 := by rw [l_31]; exact Fr.app N_21 N_31q
      refine Go.st (fun _ kk => st_31.trans kk) ?_
      have z_31q : n0 ≤ h_31.size := Nat.le_trans z_22 K_31.1
      have ns_31 : ∀ x ∈ ([b_22] : List Addr), ∀ cell : Cell, h_22[x]? = some cell → cell.vm.isStatics = false := (allS A_22.nostat all0)
      show Go p e below s _ _ _ T_31 (mkF m 152 #[.val (.int fl), .val (.int na), .val (.int nb), .val (.int nc), .val (.int (0 : Int32)), .val (.ref u_TREC), .val (.int bb), .val (.double y1), .second, .val (.double y2), .second, .val (.ref b__3), .val (.ref b__4), .val (.ref b__8), .val (.ref b_14), .unset, .unset] [(.ref b_22)])
      refine Go.st (fun _ => XS.astore X_31.here hx rfl (hb hby at_152) rfl rfl (l' := #[.val (.int fl), .val (.int na), .val (.int nb), .val (.int nc), .val (.int (0 : Int32)), .val (.ref u_TREC), .val (.int bb), .val (.double y1), .second, .val (.double y2), .second, .val (.ref b__3), .val (.ref b__4), .val (.ref b__8), .val (.ref b_14), .val (.ref b_22), .unset]) rfl) ?_
      show Go p e below s _ _ _ T_31 (mkF m 154 #[.val (.int fl), .val (.int na), .val (.int nb), .val (.int nc), .val (.int (0 : Int32)), .val (.ref u_TREC), .val (.int bb), .val (.double y1), .second, .val (.double y2), .second, .val (.ref b__3), .val (.ref b__4), .val (.ref b__8), .val (.ref b_14), .val (.ref b_22), .unset] [])
      refine Go.st (fun _ => XS.iload X_31.here hx rfl (hb hby at_154) rfl) ?_
      show Go p e below s _ _ _ T_31 (mkF m 156 #[.val (.int fl), .val (.int na), .val (.int nb), .val (.int nc), .val (.int (0 : Int32)), .val (.ref u_TREC), .val (.int bb), .val (.double y1), .second, .val (.double y2), .second, .val (.ref b__3), .val (.ref b__4), .val (.ref b__8), .val (.ref b_14), .val (.ref b_22), .unset] [(.int (0 : Int32))])
      refine Go.st (fun _ => XS.ifYes X_31.here hx rfl (pc0 := 156) (pc' := 169) rfl (hb hby at_156) rfl ((if0 _ _).trans (teq (by decide : (0 : Int32) = (0 : Int32))).1) (by decide) (by decide)) ?_
      show Go p e below s _ _ _ T_31 (mkF m 169 #[.val (.int fl), .val (.int na), .val (.int nb), .val (.int nc), .val (.int (0 : Int32)), .val (.ref u_TREC), .val (.int bb), .val (.double y1), .second, .val (.double y2), .second, .val (.ref b__3), .val (.ref b__4), .val (.ref b__8), .val (.ref b_14), .val (.ref b_22), .unset] [])
      refine Go.st (fun _ => XS.iconst X_31.here hx rfl (hb hby at_169)) ?_
      show Go p e below s _ _ _ T_31 (mkF m 170 #[.val (.int fl), .val (.int na), .val (.int nb), .val (.int nc), .val (.int (0 : Int32)), .val (.ref u_TREC), .val (.int bb), .val (.double y1), .second, .val (.double y2), .second, .val (.ref b__3), .val (.ref b__4), .val (.ref b__8), .val (.ref b_14), .val (.ref b_22), .unset] [(.int (0 : Int32))])
      refine Go.st (fun _ => XS.istore X_31.here hx rfl (hb hby at_170) rfl (l' := #[.val (.int fl), .val (.int na), .val (.int nb), .val (.int nc), .val (.int (0 : Int32)), .val (.ref u_TREC), .val (.int bb), .val (.double y1), .second, .val (.double y2), .second, .val (.ref b__3), .val (.ref b__4), .val (.ref b__8), .val (.ref b_14), .val (.ref b_22), .val (.int (0 : Int32))]) rfl) ?_
      show Go p e below s _ _ _ T_31 (mkF m 172 #[.val (.int fl), .val (.int na), .val (.int nb), .val (.int nc), .val (.int (0 : Int32)), .val (.ref u_TREC), .val (.int bb), .val (.double y1), .second, .val (.double y2), .second, .val (.ref b__3), .val (.ref b__4), .val (.ref b__8), .val (.ref b_14), .val (.ref b_22), .val (.int (0 : Int32))] [])
      refine Go.st (fun _ => XS.aload X_31.here hx rfl (hb hby at_172) rfl rfl) ?_
      show Go p e below s _ _ _ T_31 (mkF m 174 #[.val (.int fl), .val (.int na), .val (.int nb), .val (.int nc), .val (.int (0 : Int32)), .val (.ref u_TREC), .val (.int bb), .val (.double y1), .second, .val (.double y2), .second, .val (.ref b__3), .val (.ref b__4), .val (.ref b__8), .val (.ref b_14), .val (.ref b_22), .val (.int (0 : Int32))] [(.ref u_TREC)])
      refine Go.st (fun _ => XS.aload X_31.here hx rfl (hb hby at_174) rfl rfl) ?_
      show Go p e below s _ _ _ T_31 (mkF m 176 #[.val (.int fl), .val (.int na), .val (.int nb), .val (.int nc), .val (.int (0 : Int32)), .val (.ref u_TREC), .val (.int bb), .val (.double y1), .second, .val (.double y2), .second, .val (.ref b__3), .val (.ref b__4), .val (.ref b__8), .val (.ref b_14), .val (.ref b_22), .val (.int (0 : Int32))] [(.ref b_14), (.ref u_TREC)])
      refine Go.st (fun _ => XS.aload X_31.here hx rfl (hb hby at_176) rfl rfl) ?_
      show Go p e below s _ _ _ T_31 (mkF m 178 #[.val (.int fl), .val (.int na), .val (.int nb), .val (.int nc), .val (.int (0 : Int32)), .val (.ref u_TREC), .val (.int bb), .val (.double y1), .second, .val (.double y2), .second, .val (.ref b__3), .val (.ref b__4), .val (.ref b__8), .val (.ref b_14), .val (.ref b_22), .val (.int (0 : Int32))] [(.ref b_22), (.ref b_14), (.ref u_TREC)])
      have f_33 := (((((((F_groupsEqualScores_u_TREC.keep K_3 nin0).keep K_4 nin0).keep K_8 nin0).ext E_14).keep K_21 (ninS ne_u_TREC_b_14 nin0)).ext E_22).keep K_31 (ninS ne_u_TREC_b_22 nin0))
      have f_34 := ((f_23.ext E_22).keep K_31)
      obtain ⟨cq_32, kq_32, q_32a, q_32b, q_32c⟩ := isOf hZ e_31 f_34
      obtain ⟨_, _, ⟨T_32, L_32, kc_32, nc_32⟩, -, X_32, ⟨Lc_32, hQ_32, l_32, y_32, z_32⟩, st_32⟩ := X_31.virtualBack hx (y := (⟨"com/example/sift_sentences/siftsentences/eval/TieRule", "groups", "(Lcom/example/sift_sentences/siftsentences/trec/RunLine;Lcom/example/sift_sentences/siftsentences/trec/RunLine;)Z"⟩ : MethodName)) (z := (⟨"com/example/sift_sentences/siftsentences/eval/TieRule", "groups", "(Lcom/example/sift_sentences/siftsentences/trec/RunLine;Lcom/example/sift_sentences/siftsentences/trec/RunLine;)Z"⟩ : MethodName)) hown (mvT hZ (hw _ (List.mem_of_getElem? (i := 42) rfl))) (mvT hZ (hw _ (List.mem_of_getElem? (i := 43) rfl))) (notFace_of_selects (args := #[]) (mvT hZ (hw _ (List.mem_of_getElem? (i := 45) rfl)))) (mvT hZ (hw _ (List.mem_of_getElem? (i := 45) rfl))) (mvT hZ (hw _ (List.mem_of_getElem? (i := 44) rfl))) (by decide) (backOf (W := 0) (rmG0 l Z a0 hw [] u_TREC b_14 b_22 h_31 n0 z_31q f_33) hZ (hw _ (List.mem_of_getElem? (i := 46) rfl)) (hw _ (List.mem_of_getElem? (i := 1) rfl)) (by decide) (by decide)) q_32a q_32c (g := (mkF m 178 #[.val (.int fl), .val (.int na), .val (.int nb), .val (.int nc), .val (.int (0 : Int32)), .val (.ref u_TREC), .val (.int bb), .val (.double y1), .second, .val (.double y2), .second, .val (.ref b__3), .val (.ref b__4), .val (.ref b__8), .val (.ref b_14), .val (.ref b_22), .val (.int (0 : Int32))] [(.ref b_22), (.ref b_14), (.ref u_TREC)])) rfl (by rw [hml]; rfl) (Steps.refl _) (argsL := [(.ref b_14), (.ref b_22)]) (rest := []) (lenOf pd_6 rfl) rfl (by show 2 * 0 + _ ≤ _; exact Nat.le_of_eq rfl) (hb hby at_178) (fun _ _ => ⟨rfl, e_31, (by decide : 8 + 0 ≤ _), (by decide : 21 + 0 ≤ _)⟩)
      dsimp only [Pt.U, Pt.locs, Pt.cells, Pt.slots] at X_32 l_32 y_32 z_32 st_32 hQ_32
      obtain rfl : kc_32 = 8 := y_32
      obtain rfl : nc_32 = 21 := z_32
      obtain ⟨h_32, e_32⟩ : ∃ hh, T_32.heap = hh := ⟨_, rfl⟩
      rw [e_32] at hQ_32
      obtain ⟨rfl, N_32q, sm_32⟩ := hQ_32
      have N_32 : Fr n0 L_32 := by rw [l_32]; exact Fr.app N_31 N_32q
      refine Go.st (fun _ kk => st_32.trans kk) ?_
      rw [sm_32] at e_32
      show Go p e below s _ _ _ T_32 (mkF m 181 #[.val (.int fl), .val (.int na), .val (.int nb), .val (.int nc), .val (.int (0 : Int32)), .val (.ref u_TREC), .val (.int bb), .val (.double y1), .second, .val (.double y2), .second, .val (.ref b__3), .val (.ref b__4), .val (.ref b__8), .val (.ref b_14), .val (.ref b_22), .val (.int (0 : Int32))] [(.int (0 : Int32))])
      refine Go.st (fun _ => XS.iload X_32.here hx rfl (hb hby at_181) rfl) ?_
      show Go p e below s _ _ _ T_32 (mkF m 183 #[.val (.int fl), .val (.int na), .val (.int nb), .val (.int nc), .val (.int (0 : Int32)), .val (.ref u_TREC), .val (.int bb), .val (.double y1), .second, .val (.double y2), .second, .val (.ref b__3), .val (.ref b__4), .val (.ref b__8), .val (.ref b_14), .val (.ref b_22), .val (.int (0 : Int32))] [(.int (0 : Int32)), (.int (0 : Int32))])
      refine Go.st (fun _ => XS.icmpNo X_32.here hx rfl (hb hby at_183) rfl (teq (by decide : (0 : Int32) = (0 : Int32))).2) ?_
      show Go p e below s _ _ _ T_32 (mkF m 186 #[.val (.int fl), .val (.int na), .val (.int nb), .val (.int nc), .val (.int (0 : Int32)), .val (.ref u_TREC), .val (.int bb), .val (.double y1), .second, .val (.double y2), .second, .val (.ref b__3), .val (.ref b__4), .val (.ref b__8), .val (.ref b_14), .val (.ref b_22), .val (.int (0 : Int32))] [])
      refine Go.st (fun _ => XS.iconst X_32.here hx rfl (hb hby at_186)) ?_
      show Go p e below s _ _ _ T_32 (mkF m 187 #[.val (.int fl), .val (.int na), .val (.int nb), .val (.int nc), .val (.int (0 : Int32)), .val (.ref u_TREC), .val (.int bb), .val (.double y1), .second, .val (.double y2), .second, .val (.ref b__3), .val (.ref b__4), .val (.ref b__8), .val (.ref b_14), .val (.ref b_22), .val (.int (0 : Int32))] [(.int (1 : Int32))])
      refine Go.st (fun _ => XS.goto X_32.here hx rfl (pc0 := 187) (pc' := 191) rfl (hb hby at_187) (by decide) (by decide)) ?_
      show Go p e below s _ _ _ T_32 (mkF m 191 #[.val (.int fl), .val (.int na), .val (.int nb), .val (.int nc), .val (.int (0 : Int32)), .val (.ref u_TREC), .val (.int bb), .val (.double y1), .second, .val (.double y2), .second, .val (.ref b__3), .val (.ref b__4), .val (.ref b__8), .val (.ref b_14), .val (.ref b_22), .val (.int (0 : Int32))] [(.int (1 : Int32))])
      exact Go.retZ X_32 hx hlk Bd.returns (hb hby at_191) rfl (by rw [e_32]; exact ⟨rfl, N_32⟩) (by decide) (by decide)
    have JB : ∀ (TJB : State) (locsJB : List Loc) (XJB : Stand p l e room_1 s m #[(.int fl), (.int na), (.int nb), (.int nc)] below meth c TJB locsJB 0 0) (eJB : TJB.heap = h0) (NJB : Fr n0 locsJB) (bb : Int32) (y1 : UInt64) (hya : FP.Core.DInt na.toInt y1), Go p e below s (Qrm0 Z fl na nb nc u_TREC u_AWARE cs h0 n0) room_1.cells room_1.slots TJB (mkF m 62 #[.val (.int fl), .val (.int na), .val (.int nb), .val (.int nc), .val (.int (0 : Int32)), .val (.ref u_TREC), .val (.int bb), .val (.double y1), .second, .unset, .unset, .unset, .unset, .unset, .unset, .unset, .unset] []) := by
      intro TJB locsJB XJB eJB NJB bb y1 hya
      refine Go.st (fun _ => XS.iload XJB.here hx rfl (hb hby at_62) rfl) ?_
      show Go p e below s _ _ _ TJB (mkF m 64 #[.val (.int fl), .val (.int na), .val (.int nb), .val (.int nc), .val (.int (0 : Int32)), .val (.ref u_TREC), .val (.int bb), .val (.double y1), .second, .unset, .unset, .unset, .unset, .unset, .unset, .unset, .unset] [(.int bb)])
      by_cases hc_35 : bb = (0 : Int32)
      · refine Go.st (fun _ => XS.ifNo XJB.here hx rfl (hb hby at_64) rfl ((if0 _ _).trans (teq hc_35).2)) ?_
        show Go p e below s _ _ _ TJB (mkF m 67 #[.val (.int fl), .val (.int na), .val (.int nb), .val (.int nc), .val (.int (0 : Int32)), .val (.ref u_TREC), .val (.int bb), .val (.double y1), .second, .unset, .unset, .unset, .unset, .unset, .unset, .unset, .unset] [])
        refine Go.st (fun _ => XS.iloadN XJB.here hx rfl (hb hby at_67) rfl) ?_
        show Go p e below s _ _ _ TJB (mkF m 68 #[.val (.int fl), .val (.int na), .val (.int nb), .val (.int nc), .val (.int (0 : Int32)), .val (.ref u_TREC), .val (.int bb), .val (.double y1), .second, .unset, .unset, .unset, .unset, .unset, .unset, .unset, .unset] [(.int fl)])
        refine Go.st (fun _ => XS.bipush XJB.here hx rfl (hb hby at_68)) ?_
        show Go p e below s _ _ _ TJB (mkF m 70 #[.val (.int fl), .val (.int na), .val (.int nb), .val (.int nc), .val (.int (0 : Int32)), .val (.ref u_TREC), .val (.int bb), .val (.double y1), .second, .unset, .unset, .unset, .unset, .unset, .unset, .unset, .unset] [(.int (8 : Int32)), (.int fl)])
        refine Go.st (fun _ => XS.iand XJB.here hx rfl (hb hby at_70) rfl) ?_
        show Go p e below s _ _ _ TJB (mkF m 71 #[.val (.int fl), .val (.int na), .val (.int nb), .val (.int nc), .val (.int (0 : Int32)), .val (.ref u_TREC), .val (.int bb), .val (.double y1), .second, .unset, .unset, .unset, .unset, .unset, .unset, .unset, .unset] [(.int (fl &&& (8 : Int32)))])
        by_cases hc_36 : (fl &&& (8 : Int32)) = (0 : Int32)
        · refine Go.st (fun _ => XS.ifYes XJB.here hx rfl (pc0 := 71) (pc' := 80) rfl (hb hby at_71) rfl ((if0 _ _).trans (teq hc_36).1) (by decide) (by decide)) ?_
          show Go p e below s _ _ _ TJB (mkF m 80 #[.val (.int fl), .val (.int na), .val (.int nb), .val (.int nc), .val (.int (0 : Int32)), .val (.ref u_TREC), .val (.int bb), .val (.double y1), .second, .unset, .unset, .unset, .unset, .unset, .unset, .unset, .unset] [])
          refine Go.st (fun _ => XS.iload XJB.here hx rfl (hb hby at_80) rfl) ?_
          show Go p e below s _ _ _ TJB (mkF m 82 #[.val (.int fl), .val (.int na), .val (.int nb), .val (.int nc), .val (.int (0 : Int32)), .val (.ref u_TREC), .val (.int bb), .val (.double y1), .second, .unset, .unset, .unset, .unset, .unset, .unset, .unset, .unset] [(.int bb)])
          refine Go.st (fun _ => XS.i2dS XJB.here hx rfl (hb hby at_82) rfl rfl) ?_
          show Go p e below s _ _ _ TJB (mkF m 83 #[.val (.int fl), .val (.int na), .val (.int nb), .val (.int nc), .val (.int (0 : Int32)), .val (.ref u_TREC), .val (.int bb), .val (.double y1), .second, .unset, .unset, .unset, .unset, .unset, .unset, .unset, .unset] [(.double (FP.i2d bb))])
          refine Go.st (fun _ => XS.dstore XJB.here hx rfl (hb hby at_83) rfl (l' := #[.val (.int fl), .val (.int na), .val (.int nb), .val (.int nc), .val (.int (0 : Int32)), .val (.ref u_TREC), .val (.int bb), .val (.double y1), .second, .val (.double (FP.i2d bb)), .second, .unset, .unset, .unset, .unset, .unset, .unset]) rfl) ?_
          show Go p e below s _ _ _ TJB (mkF m 85 #[.val (.int fl), .val (.int na), .val (.int nb), .val (.int nc), .val (.int (0 : Int32)), .val (.ref u_TREC), .val (.int bb), .val (.double y1), .second, .val (.double (FP.i2d bb)), .second, .unset, .unset, .unset, .unset, .unset, .unset] [])
          exact JC TJB _ XJB eJB NJB bb y1 (FP.i2d bb) hya (FP.Core.i2d_int bb)
        · refine Go.st (fun _ => XS.ifNo XJB.here hx rfl (hb hby at_71) rfl ((if0 _ _).trans (feq hc_36).1)) ?_
          show Go p e below s _ _ _ TJB (mkF m 74 #[.val (.int fl), .val (.int na), .val (.int nb), .val (.int nc), .val (.int (0 : Int32)), .val (.ref u_TREC), .val (.int bb), .val (.double y1), .second, .unset, .unset, .unset, .unset, .unset, .unset, .unset, .unset] [])
          refine Go.st (fun tG => XJB.ldc2DoubleC hx hown (mvT hZ (hw _ (List.mem_of_getElem? (i := 56) rfl))) (g := (mkF m 74 #[.val (.int fl), .val (.int na), .val (.int nb), .val (.int nc), .val (.int (0 : Int32)), .val (.ref u_TREC), .val (.int bb), .val (.double y1), .second, .unset, .unset, .unset, .unset, .unset, .unset, .unset, .unset] [])) rfl (hb hby at_74) tG) ?_
          show Go p e below s _ _ _ TJB (mkF m 77 #[.val (.int fl), .val (.int na), .val (.int nb), .val (.int nc), .val (.int (0 : Int32)), .val (.ref u_TREC), .val (.int bb), .val (.double y1), .second, .unset, .unset, .unset, .unset, .unset, .unset, .unset, .unset] [(.double (9223372036854775808 : UInt64))])
          refine Go.st (fun _ => XS.goto XJB.here hx rfl (pc0 := 77) (pc' := 83) rfl (hb hby at_77) (by decide) (by decide)) ?_
          show Go p e below s _ _ _ TJB (mkF m 83 #[.val (.int fl), .val (.int na), .val (.int nb), .val (.int nc), .val (.int (0 : Int32)), .val (.ref u_TREC), .val (.int bb), .val (.double y1), .second, .unset, .unset, .unset, .unset, .unset, .unset, .unset, .unset] [(.double (9223372036854775808 : UInt64))])
          refine Go.st (fun _ => XS.dstore XJB.here hx rfl (hb hby at_83) rfl (l' := #[.val (.int fl), .val (.int na), .val (.int nb), .val (.int nc), .val (.int (0 : Int32)), .val (.ref u_TREC), .val (.int bb), .val (.double y1), .second, .val (.double (9223372036854775808 : UInt64)), .second, .unset, .unset, .unset, .unset, .unset, .unset]) rfl) ?_
          show Go p e below s _ _ _ TJB (mkF m 85 #[.val (.int fl), .val (.int na), .val (.int nb), .val (.int nc), .val (.int (0 : Int32)), .val (.ref u_TREC), .val (.int bb), .val (.double y1), .second, .val (.double (9223372036854775808 : UInt64)), .second, .unset, .unset, .unset, .unset, .unset, .unset] [])
          exact JC TJB _ XJB eJB NJB bb y1 (9223372036854775808 : UInt64) hya (own_negz hc_35)
      · refine Go.st (fun _ => XS.ifYes XJB.here hx rfl (pc0 := 64) (pc' := 80) rfl (hb hby at_64) rfl ((if0 _ _).trans (feq hc_35).2) (by decide) (by decide)) ?_
        show Go p e below s _ _ _ TJB (mkF m 80 #[.val (.int fl), .val (.int na), .val (.int nb), .val (.int nc), .val (.int (0 : Int32)), .val (.ref u_TREC), .val (.int bb), .val (.double y1), .second, .unset, .unset, .unset, .unset, .unset, .unset, .unset, .unset] [])
        refine Go.st (fun _ => XS.iload XJB.here hx rfl (hb hby at_80) rfl) ?_
        show Go p e below s _ _ _ TJB (mkF m 82 #[.val (.int fl), .val (.int na), .val (.int nb), .val (.int nc), .val (.int (0 : Int32)), .val (.ref u_TREC), .val (.int bb), .val (.double y1), .second, .unset, .unset, .unset, .unset, .unset, .unset, .unset, .unset] [(.int bb)])
        refine Go.st (fun _ => XS.i2dS XJB.here hx rfl (hb hby at_82) rfl rfl) ?_
        show Go p e below s _ _ _ TJB (mkF m 83 #[.val (.int fl), .val (.int na), .val (.int nb), .val (.int nc), .val (.int (0 : Int32)), .val (.ref u_TREC), .val (.int bb), .val (.double y1), .second, .unset, .unset, .unset, .unset, .unset, .unset, .unset, .unset] [(.double (FP.i2d bb))])
        refine Go.st (fun _ => XS.dstore XJB.here hx rfl (hb hby at_83) rfl (l' := #[.val (.int fl), .val (.int na), .val (.int nb), .val (.int nc), .val (.int (0 : Int32)), .val (.ref u_TREC), .val (.int bb), .val (.double y1), .second, .val (.double (FP.i2d bb)), .second, .unset, .unset, .unset, .unset, .unset, .unset]) rfl) ?_
        show Go p e below s _ _ _ TJB (mkF m 85 #[.val (.int fl), .val (.int na), .val (.int nb), .val (.int nc), .val (.int (0 : Int32)), .val (.ref u_TREC), .val (.int bb), .val (.double y1), .second, .val (.double (FP.i2d bb)), .second, .unset, .unset, .unset, .unset, .unset, .unset] [])
        exact JC TJB _ XJB eJB NJB bb y1 (FP.i2d bb) hya (FP.Core.i2d_int bb)
    have JA : ∀ (TJA : State) (locsJA : List Loc) (XJA : Stand p l e room_1 s m #[(.int fl), (.int na), (.int nb), (.int nc)] below meth c TJA locsJA 0 0) (eJA : TJA.heap = h0) (NJA : Fr n0 locsJA) (bb : Int32), Go p e below s (Qrm0 Z fl na nb nc u_TREC u_AWARE cs h0 n0) room_1.cells room_1.slots TJA (mkF m 42 #[.val (.int fl), .val (.int na), .val (.int nb), .val (.int nc), .val (.int (0 : Int32)), .val (.ref u_TREC), .val (.int bb), .unset, .unset, .unset, .unset, .unset, .unset, .unset, .unset, .unset, .unset] []) := by
      intro TJA locsJA XJA eJA NJA bb
      refine Go.st (fun _ => XS.iloadN XJA.here hx rfl (hb hby at_42) rfl) ?_
      show Go p e below s _ _ _ TJA (mkF m 43 #[.val (.int fl), .val (.int na), .val (.int nb), .val (.int nc), .val (.int (0 : Int32)), .val (.ref u_TREC), .val (.int bb), .unset, .unset, .unset, .unset, .unset, .unset, .unset, .unset, .unset, .unset] [(.int na)])
      by_cases hc_37 : na = (0 : Int32)
      · refine Go.st (fun _ => XS.ifNo XJA.here hx rfl (hb hby at_43) rfl ((if0 _ _).trans (teq hc_37).2)) ?_
        show Go p e below s _ _ _ TJA (mkF m 46 #[.val (.int fl), .val (.int na), .val (.int nb), .val (.int nc), .val (.int (0 : Int32)), .val (.ref u_TREC), .val (.int bb), .unset, .unset, .unset, .unset, .unset, .unset, .unset, .unset, .unset, .unset] [])
        refine Go.st (fun _ => XS.iloadN XJA.here hx rfl (hb hby at_46) rfl) ?_
        show Go p e below s _ _ _ TJA (mkF m 47 #[.val (.int fl), .val (.int na), .val (.int nb), .val (.int nc), .val (.int (0 : Int32)), .val (.ref u_TREC), .val (.int bb), .unset, .unset, .unset, .unset, .unset, .unset, .unset, .unset, .unset, .unset] [(.int fl)])
        refine Go.st (fun _ => XS.iconst XJA.here hx rfl (hb hby at_47)) ?_
        show Go p e below s _ _ _ TJA (mkF m 48 #[.val (.int fl), .val (.int na), .val (.int nb), .val (.int nc), .val (.int (0 : Int32)), .val (.ref u_TREC), .val (.int bb), .unset, .unset, .unset, .unset, .unset, .unset, .unset, .unset, .unset, .unset] [(.int (2 : Int32)), (.int fl)])
        refine Go.st (fun _ => XS.iand XJA.here hx rfl (hb hby at_48) rfl) ?_
        show Go p e below s _ _ _ TJA (mkF m 49 #[.val (.int fl), .val (.int na), .val (.int nb), .val (.int nc), .val (.int (0 : Int32)), .val (.ref u_TREC), .val (.int bb), .unset, .unset, .unset, .unset, .unset, .unset, .unset, .unset, .unset, .unset] [(.int (fl &&& (2 : Int32)))])
        by_cases hc_38 : (fl &&& (2 : Int32)) = (0 : Int32)
        · refine Go.st (fun _ => XS.ifYes XJA.here hx rfl (pc0 := 49) (pc' := 58) rfl (hb hby at_49) rfl ((if0 _ _).trans (teq hc_38).1) (by decide) (by decide)) ?_
          show Go p e below s _ _ _ TJA (mkF m 58 #[.val (.int fl), .val (.int na), .val (.int nb), .val (.int nc), .val (.int (0 : Int32)), .val (.ref u_TREC), .val (.int bb), .unset, .unset, .unset, .unset, .unset, .unset, .unset, .unset, .unset, .unset] [])
          refine Go.st (fun _ => XS.iloadN XJA.here hx rfl (hb hby at_58) rfl) ?_
          show Go p e below s _ _ _ TJA (mkF m 59 #[.val (.int fl), .val (.int na), .val (.int nb), .val (.int nc), .val (.int (0 : Int32)), .val (.ref u_TREC), .val (.int bb), .unset, .unset, .unset, .unset, .unset, .unset, .unset, .unset, .unset, .unset] [(.int na)])
          refine Go.st (fun _ => XS.i2dS XJA.here hx rfl (hb hby at_59) rfl rfl) ?_
          show Go p e below s _ _ _ TJA (mkF m 60 #[.val (.int fl), .val (.int na), .val (.int nb), .val (.int nc), .val (.int (0 : Int32)), .val (.ref u_TREC), .val (.int bb), .unset, .unset, .unset, .unset, .unset, .unset, .unset, .unset, .unset, .unset] [(.double (FP.i2d na))])
          refine Go.st (fun _ => XS.dstore XJA.here hx rfl (hb hby at_60) rfl (l' := #[.val (.int fl), .val (.int na), .val (.int nb), .val (.int nc), .val (.int (0 : Int32)), .val (.ref u_TREC), .val (.int bb), .val (.double (FP.i2d na)), .second, .unset, .unset, .unset, .unset, .unset, .unset, .unset, .unset]) rfl) ?_
          show Go p e below s _ _ _ TJA (mkF m 62 #[.val (.int fl), .val (.int na), .val (.int nb), .val (.int nc), .val (.int (0 : Int32)), .val (.ref u_TREC), .val (.int bb), .val (.double (FP.i2d na)), .second, .unset, .unset, .unset, .unset, .unset, .unset, .unset, .unset] [])
          exact JB TJA _ XJA eJA NJA bb (FP.i2d na) (FP.Core.i2d_int na)
        · refine Go.st (fun _ => XS.ifNo XJA.here hx rfl (hb hby at_49) rfl ((if0 _ _).trans (feq hc_38).1)) ?_
          show Go p e below s _ _ _ TJA (mkF m 52 #[.val (.int fl), .val (.int na), .val (.int nb), .val (.int nc), .val (.int (0 : Int32)), .val (.ref u_TREC), .val (.int bb), .unset, .unset, .unset, .unset, .unset, .unset, .unset, .unset, .unset, .unset] [])
          refine Go.st (fun tG => XJA.ldc2DoubleC hx hown (mvT hZ (hw _ (List.mem_of_getElem? (i := 56) rfl))) (g := (mkF m 52 #[.val (.int fl), .val (.int na), .val (.int nb), .val (.int nc), .val (.int (0 : Int32)), .val (.ref u_TREC), .val (.int bb), .unset, .unset, .unset, .unset, .unset, .unset, .unset, .unset, .unset, .unset] [])) rfl (hb hby at_52) tG) ?_
          show Go p e below s _ _ _ TJA (mkF m 55 #[.val (.int fl), .val (.int na), .val (.int nb), .val (.int nc), .val (.int (0 : Int32)), .val (.ref u_TREC), .val (.int bb), .unset, .unset, .unset, .unset, .unset, .unset, .unset, .unset, .unset, .unset] [(.double (9223372036854775808 : UInt64))])
          refine Go.st (fun _ => XS.goto XJA.here hx rfl (pc0 := 55) (pc' := 60) rfl (hb hby at_55) (by decide) (by decide)) ?_
          show Go p e below s _ _ _ TJA (mkF m 60 #[.val (.int fl), .val (.int na), .val (.int nb), .val (.int nc), .val (.int (0 : Int32)), .val (.ref u_TREC), .val (.int bb), .unset, .unset, .unset, .unset, .unset, .unset, .unset, .unset, .unset, .unset] [(.double (9223372036854775808 : UInt64))])
          refine Go.st (fun _ => XS.dstore XJA.here hx rfl (hb hby at_60) rfl (l' := #[.val (.int fl), .val (.int na), .val (.int nb), .val (.int nc), .val (.int (0 : Int32)), .val (.ref u_TREC), .val (.int bb), .val (.double (9223372036854775808 : UInt64)), .second, .unset, .unset, .unset, .unset, .unset, .unset, .unset, .unset]) rfl) ?_
          show Go p e below s _ _ _ TJA (mkF m 62 #[.val (.int fl), .val (.int na), .val (.int nb), .val (.int nc), .val (.int (0 : Int32)), .val (.ref u_TREC), .val (.int bb), .val (.double (9223372036854775808 : UInt64)), .second, .unset, .unset, .unset, .unset, .unset, .unset, .unset, .unset] [])
          exact JB TJA _ XJA eJA NJA bb (9223372036854775808 : UInt64) (own_negz hc_37)
      · refine Go.st (fun _ => XS.ifYes XJA.here hx rfl (pc0 := 43) (pc' := 58) rfl (hb hby at_43) rfl ((if0 _ _).trans (feq hc_37).2) (by decide) (by decide)) ?_
        show Go p e below s _ _ _ TJA (mkF m 58 #[.val (.int fl), .val (.int na), .val (.int nb), .val (.int nc), .val (.int (0 : Int32)), .val (.ref u_TREC), .val (.int bb), .unset, .unset, .unset, .unset, .unset, .unset, .unset, .unset, .unset, .unset] [])
        refine Go.st (fun _ => XS.iloadN XJA.here hx rfl (hb hby at_58) rfl) ?_
        show Go p e below s _ _ _ TJA (mkF m 59 #[.val (.int fl), .val (.int na), .val (.int nb), .val (.int nc), .val (.int (0 : Int32)), .val (.ref u_TREC), .val (.int bb), .unset, .unset, .unset, .unset, .unset, .unset, .unset, .unset, .unset, .unset] [(.int na)])
        refine Go.st (fun _ => XS.i2dS XJA.here hx rfl (hb hby at_59) rfl rfl) ?_
        show Go p e below s _ _ _ TJA (mkF m 60 #[.val (.int fl), .val (.int na), .val (.int nb), .val (.int nc), .val (.int (0 : Int32)), .val (.ref u_TREC), .val (.int bb), .unset, .unset, .unset, .unset, .unset, .unset, .unset, .unset, .unset, .unset] [(.double (FP.i2d na))])
        refine Go.st (fun _ => XS.dstore XJA.here hx rfl (hb hby at_60) rfl (l' := #[.val (.int fl), .val (.int na), .val (.int nb), .val (.int nc), .val (.int (0 : Int32)), .val (.ref u_TREC), .val (.int bb), .val (.double (FP.i2d na)), .second, .unset, .unset, .unset, .unset, .unset, .unset, .unset, .unset]) rfl) ?_
        show Go p e below s _ _ _ TJA (mkF m 62 #[.val (.int fl), .val (.int na), .val (.int nb), .val (.int nc), .val (.int (0 : Int32)), .val (.ref u_TREC), .val (.int bb), .val (.double (FP.i2d na)), .second, .unset, .unset, .unset, .unset, .unset, .unset, .unset, .unset] [])
        exact JB TJA _ XJA eJA NJA bb (FP.i2d na) (FP.Core.i2d_int na)
    refine Go.st (fun _ => XS.iloadN X_2.here hx rfl (hb hby at_29) rfl) ?_
    show Go p e below s _ _ _ T_2 (mkF m 30 #[.val (.int fl), .val (.int na), .val (.int nb), .val (.int nc), .val (.int (0 : Int32)), .val (.ref u_TREC), .unset, .unset, .unset, .unset, .unset, .unset, .unset, .unset, .unset, .unset, .unset] [(.int fl)])
    refine Go.st (fun _ => XS.iconst X_2.here hx rfl (hb hby at_30)) ?_
    show Go p e below s _ _ _ T_2 (mkF m 31 #[.val (.int fl), .val (.int na), .val (.int nb), .val (.int nc), .val (.int (0 : Int32)), .val (.ref u_TREC), .unset, .unset, .unset, .unset, .unset, .unset, .unset, .unset, .unset, .unset, .unset] [(.int (4 : Int32)), (.int fl)])
    refine Go.st (fun _ => XS.iand X_2.here hx rfl (hb hby at_31) rfl) ?_
    show Go p e below s _ _ _ T_2 (mkF m 32 #[.val (.int fl), .val (.int na), .val (.int nb), .val (.int nc), .val (.int (0 : Int32)), .val (.ref u_TREC), .unset, .unset, .unset, .unset, .unset, .unset, .unset, .unset, .unset, .unset, .unset] [(.int (fl &&& (4 : Int32)))])
    by_cases hc_39 : (fl &&& (4 : Int32)) = (0 : Int32)
    · refine Go.st (fun _ => XS.ifYes X_2.here hx rfl (pc0 := 32) (pc' := 39) rfl (hb hby at_32) rfl ((if0 _ _).trans (teq hc_39).1) (by decide) (by decide)) ?_
      show Go p e below s _ _ _ T_2 (mkF m 39 #[.val (.int fl), .val (.int na), .val (.int nb), .val (.int nc), .val (.int (0 : Int32)), .val (.ref u_TREC), .unset, .unset, .unset, .unset, .unset, .unset, .unset, .unset, .unset, .unset, .unset] [])
      refine Go.st (fun _ => XS.iloadN X_2.here hx rfl (hb hby at_39) rfl) ?_
      show Go p e below s _ _ _ T_2 (mkF m 40 #[.val (.int fl), .val (.int na), .val (.int nb), .val (.int nc), .val (.int (0 : Int32)), .val (.ref u_TREC), .unset, .unset, .unset, .unset, .unset, .unset, .unset, .unset, .unset, .unset, .unset] [(.int nb)])
      refine Go.st (fun _ => XS.istore X_2.here hx rfl (hb hby at_40) rfl (l' := #[.val (.int fl), .val (.int na), .val (.int nb), .val (.int nc), .val (.int (0 : Int32)), .val (.ref u_TREC), .val (.int nb), .unset, .unset, .unset, .unset, .unset, .unset, .unset, .unset, .unset, .unset]) rfl) ?_
      show Go p e below s _ _ _ T_2 (mkF m 42 #[.val (.int fl), .val (.int na), .val (.int nb), .val (.int nc), .val (.int (0 : Int32)), .val (.ref u_TREC), .val (.int nb), .unset, .unset, .unset, .unset, .unset, .unset, .unset, .unset, .unset, .unset] [])
      exact JA T_2 _ X_2 e_2 N0 nb
    · refine Go.st (fun _ => XS.ifNo X_2.here hx rfl (hb hby at_32) rfl ((if0 _ _).trans (feq hc_39).1)) ?_
      show Go p e below s _ _ _ T_2 (mkF m 35 #[.val (.int fl), .val (.int na), .val (.int nb), .val (.int nc), .val (.int (0 : Int32)), .val (.ref u_TREC), .unset, .unset, .unset, .unset, .unset, .unset, .unset, .unset, .unset, .unset, .unset] [])
      refine Go.st (fun _ => XS.iloadN X_2.here hx rfl (hb hby at_35) rfl) ?_
      show Go p e below s _ _ _ T_2 (mkF m 36 #[.val (.int fl), .val (.int na), .val (.int nb), .val (.int nc), .val (.int (0 : Int32)), .val (.ref u_TREC), .unset, .unset, .unset, .unset, .unset, .unset, .unset, .unset, .unset, .unset, .unset] [(.int na)])
      refine Go.st (fun _ => XS.goto X_2.here hx rfl (pc0 := 36) (pc' := 40) rfl (hb hby at_36) (by decide) (by decide)) ?_
      show Go p e below s _ _ _ T_2 (mkF m 40 #[.val (.int fl), .val (.int na), .val (.int nb), .val (.int nc), .val (.int (0 : Int32)), .val (.ref u_TREC), .unset, .unset, .unset, .unset, .unset, .unset, .unset, .unset, .unset, .unset, .unset] [(.int na)])
      refine Go.st (fun _ => XS.istore X_2.here hx rfl (hb hby at_40) rfl (l' := #[.val (.int fl), .val (.int na), .val (.int nb), .val (.int nc), .val (.int (0 : Int32)), .val (.ref u_TREC), .val (.int na), .unset, .unset, .unset, .unset, .unset, .unset, .unset, .unset, .unset, .unset]) rfl) ?_
      show Go p e below s _ _ _ T_2 (mkF m 42 #[.val (.int fl), .val (.int na), .val (.int nb), .val (.int nc), .val (.int (0 : Int32)), .val (.ref u_TREC), .val (.int na), .unset, .unset, .unset, .unset, .unset, .unset, .unset, .unset, .unset, .unset] [])
      exact JA T_2 _ X_2 e_2 N0 na
  · refine Go.st (fun _ => XS.ifNo X0.here hx rfl (hb hby at_3) rfl ((if0 _ _).trans (feq hc_1).1)) ?_
    show Go p e below s _ _ _ s₁ (mkF m 6 #[.val (.int fl), .val (.int na), .val (.int nb), .val (.int nc), .unset, .unset, .unset, .unset, .unset, .unset, .unset, .unset, .unset, .unset, .unset, .unset, .unset] [])
    refine Go.st (fun _ => XS.iconst X0.here hx rfl (hb hby at_6)) ?_
    show Go p e below s _ _ _ s₁ (mkF m 7 #[.val (.int fl), .val (.int na), .val (.int nb), .val (.int nc), .unset, .unset, .unset, .unset, .unset, .unset, .unset, .unset, .unset, .unset, .unset, .unset, .unset] [(.int (1 : Int32))])
    refine Go.st (fun _ => XS.goto X0.here hx rfl (pc0 := 7) (pc' := 11) rfl (hb hby at_7) (by decide) (by decide)) ?_
    show Go p e below s _ _ _ s₁ (mkF m 11 #[.val (.int fl), .val (.int na), .val (.int nb), .val (.int nc), .unset, .unset, .unset, .unset, .unset, .unset, .unset, .unset, .unset, .unset, .unset, .unset, .unset] [(.int (1 : Int32))])
    refine Go.st (fun _ => XS.istore X0.here hx rfl (hb hby at_11) rfl (l' := #[.val (.int fl), .val (.int na), .val (.int nb), .val (.int nc), .val (.int (1 : Int32)), .unset, .unset, .unset, .unset, .unset, .unset, .unset, .unset, .unset, .unset, .unset, .unset]) rfl) ?_
    show Go p e below s _ _ _ s₁ (mkF m 13 #[.val (.int fl), .val (.int na), .val (.int nb), .val (.int nc), .val (.int (1 : Int32)), .unset, .unset, .unset, .unset, .unset, .unset, .unset, .unset, .unset, .unset, .unset, .unset] [])
    refine Go.st (fun _ => XS.iload X0.here hx rfl (hb hby at_13) rfl) ?_
    show Go p e below s _ _ _ s₁ (mkF m 15 #[.val (.int fl), .val (.int na), .val (.int nb), .val (.int nc), .val (.int (1 : Int32)), .unset, .unset, .unset, .unset, .unset, .unset, .unset, .unset, .unset, .unset, .unset, .unset] [(.int (1 : Int32))])
    refine Go.st (fun _ => XS.ifNo X0.here hx rfl (hb hby at_15) rfl ((if0 _ _).trans (feq (by decide : ¬ ((1 : Int32) = (0 : Int32)))).1)) ?_
    show Go p e below s _ _ _ s₁ (mkF m 18 #[.val (.int fl), .val (.int na), .val (.int nb), .val (.int nc), .val (.int (1 : Int32)), .unset, .unset, .unset, .unset, .unset, .unset, .unset, .unset, .unset, .unset, .unset, .unset] [])
    obtain ⟨T_40, X_40, e_40, st_40⟩ := getS2 X0 hx hZ hown (host := "") (Or.inl (hw _ (List.mem_of_getElem? (i := 49) rfl))) Via.refl e0 S_AWARE (g := (mkF m 18 #[.val (.int fl), .val (.int na), .val (.int nb), .val (.int nc), .val (.int (1 : Int32)), .unset, .unset, .unset, .unset, .unset, .unset, .unset, .unset, .unset, .unset, .unset, .unset] [])) rfl (hb hby at_18)
    refine Go.st st_40 ?_
    show Go p e below s _ _ _ T_40 (mkF m 21 #[.val (.int fl), .val (.int na), .val (.int nb), .val (.int nc), .val (.int (1 : Int32)), .unset, .unset, .unset, .unset, .unset, .unset, .unset, .unset, .unset, .unset, .unset, .unset] [(.ref u_AWARE)])
    refine Go.st (fun _ => XS.goto X_40.here hx rfl (pc0 := 21) (pc' := 27) rfl (hb hby at_21) (by decide) (by decide)) ?_
    show Go p e below s _ _ _ T_40 (mkF m 27 #[.val (.int fl), .val (.int na), .val (.int nb), .val (.int nc), .val (.int (1 : Int32)), .unset, .unset, .unset, .unset, .unset, .unset, .unset, .unset, .unset, .unset, .unset, .unset] [(.ref u_AWARE)])
    refine Go.st (fun _ => XS.astore X_40.here hx rfl (hb hby at_27) rfl rfl (l' := #[.val (.int fl), .val (.int na), .val (.int nb), .val (.int nc), .val (.int (1 : Int32)), .val (.ref u_AWARE), .unset, .unset, .unset, .unset, .unset, .unset, .unset, .unset, .unset, .unset, .unset]) rfl) ?_
    show Go p e below s _ _ _ T_40 (mkF m 29 #[.val (.int fl), .val (.int na), .val (.int nb), .val (.int nc), .val (.int (1 : Int32)), .val (.ref u_AWARE), .unset, .unset, .unset, .unset, .unset, .unset, .unset, .unset, .unset, .unset, .unset] [])
    have JC : ∀ (TJC : State) (locsJC : List Loc) (XJC : Stand p l e room_1 s m #[(.int fl), (.int na), (.int nb), (.int nc)] below meth c TJC locsJC 0 0) (eJC : TJC.heap = h0) (NJC : Fr n0 locsJC) (bb : Int32) (y1 : UInt64) (y2 : UInt64) (hya : FP.Core.DInt na.toInt y1) (hyb : FP.Core.DInt bb.toInt y2), Go p e below s (Qrm0 Z fl na nb nc u_TREC u_AWARE cs h0 n0) room_1.cells room_1.slots TJC (mkF m 85 #[.val (.int fl), .val (.int na), .val (.int nb), .val (.int nc), .val (.int (1 : Int32)), .val (.ref u_AWARE), .val (.int bb), .val (.double y1), .second, .val (.double y2), .second, .unset, .unset, .unset, .unset, .unset, .unset] []) := by
      intro TJC locsJC XJC eJC NJC bb y1 y2 hya hyb
      refine Go.st (fun _ => XS.iloadN XJC.here hx rfl (hb hby at_85) rfl) ?_
      show Go p e below s _ _ _ TJC (mkF m 86 #[.val (.int fl), .val (.int na), .val (.int nb), .val (.int nc), .val (.int (1 : Int32)), .val (.ref u_AWARE), .val (.int bb), .val (.double y1), .second, .val (.double y2), .second, .unset, .unset, .unset, .unset, .unset, .unset] [(.int nc)])
      refine Go.st (fun _ => XS.sipush XJC.here hx rfl (hb hby at_86)) ?_
      show Go p e below s _ _ _ TJC (mkF m 89 #[.val (.int fl), .val (.int na), .val (.int nb), .val (.int nc), .val (.int (1 : Int32)), .val (.ref u_AWARE), .val (.int bb), .val (.double y1), .second, .val (.double y2), .second, .unset, .unset, .unset, .unset, .unset, .unset] [(.int (255 : Int32)), (.int nc)])
      refine Go.st (fun _ => XS.iand XJC.here hx rfl (hb hby at_89) rfl) ?_
      show Go p e below s _ _ _ TJC (mkF m 90 #[.val (.int fl), .val (.int na), .val (.int nb), .val (.int nc), .val (.int (1 : Int32)), .val (.ref u_AWARE), .val (.int bb), .val (.double y1), .second, .val (.double y2), .second, .unset, .unset, .unset, .unset, .unset, .unset] [(.int (nc &&& (255 : Int32)))])
      refine Go.st (fun _ => XS.i2c XJC.here hx rfl (hb hby at_90) rfl) ?_
      show Go p e below s _ _ _ TJC (mkF m 91 #[.val (.int fl), .val (.int na), .val (.int nb), .val (.int nc), .val (.int (1 : Int32)), .val (.ref u_AWARE), .val (.int bb), .val (.double y1), .second, .val (.double y2), .second, .unset, .unset, .unset, .unset, .unset, .unset] [(.int ((nc &&& (255 : Int32)).toUInt32.toUInt16.toUInt32.toInt32))])
      obtain ⟨_, _, ⟨T_41, L_41, kc_41, nc_41⟩, -, X_41, ⟨Lc_41, hQ_41, l_41, y_41, z_41⟩, st_41⟩ := Jvm.LawKit.callS XJC hx (y := (⟨"java/lang/String", "valueOf", "(C)Ljava/lang/String;"⟩ : MethodName)) hown (mvT hZ (hw _ (List.mem_of_getElem? (i := 3) rfl))) (mvT hZ (hw _ (List.mem_of_getElem? (i := 4) rfl))) (mvT hZ (hw _ (List.mem_of_getElem? (i := 5) rfl))) (mvT hZ (hw _ (List.mem_of_getElem? (i := 6) rfl))) (by decide) (backOf (W := 0) (rmVo l Z a0 hw [] ((nc &&& (255 : Int32)).toUInt32.toUInt16.toUInt32.toInt32) cs h0 n0 Z0 S_COMPACT_STRINGS hcs (own_c255 _)) hZ (hw _ (List.mem_of_getElem? (i := 6) rfl)) (hw _ (List.mem_of_getElem? (i := 5) rfl)) (by decide) (by decide)) (g := (mkF m 91 #[.val (.int fl), .val (.int na), .val (.int nb), .val (.int nc), .val (.int (1 : Int32)), .val (.ref u_AWARE), .val (.int bb), .val (.double y1), .second, .val (.double y2), .second, .unset, .unset, .unset, .unset, .unset, .unset] [(.int ((nc &&& (255 : Int32)).toUInt32.toUInt16.toUInt32.toInt32))])) rfl (by rw [hml]; rfl) (argsL := [(.int ((nc &&& (255 : Int32)).toUInt32.toUInt16.toUInt32.toInt32))]) (rest := []) (lenOf pd_4 rfl) rfl (by show 2 * 0 + _ ≤ _; exact Nat.le_of_eq rfl) (hb hby at_91) (fun _ _ => ⟨rfl, eJC, (by decide : 0 + 2 ≤ _), (by decide : 0 + 5 ≤ _)⟩)
      dsimp only [Pt.U, Pt.locs, Pt.cells, Pt.slots] at X_41 l_41 y_41 z_41 st_41 hQ_41
      obtain rfl : kc_41 = 2 := y_41
      obtain rfl : nc_41 = 5 := z_41
      obtain ⟨h_41, e_41⟩ : ∃ hh, T_41.heap = hh := ⟨_, rfl⟩
      rw [e_41] at hQ_41
      obtain ⟨b__41, d__41, kd__41, rfl, N_41q, K_41, p_41_0, p_41_1, p_41_2, p_41_3, p_41_4, p_41_5, p_41_6, p_41_7, p_41_8⟩ := hQ_41
      have N_41 : Fr n0 L_41 := by rw [l_41]; exact Fr.app NJC N_41q
      refine Go.st st_41 ?_
      have ne_u_TREC_b__41 : u_TREC ≠ b__41 := Nat.ne_of_lt (Nat.lt_of_lt_of_le E_u_TREC.lt p_41_0)
      have ne_u_AWARE_b__41 : u_AWARE ≠ b__41 := Nat.ne_of_lt (Nat.lt_of_lt_of_le E_u_AWARE.lt p_41_0)
      have ne_u_TREC_d__41 : u_TREC ≠ d__41 := Nat.ne_of_lt (Nat.lt_of_lt_of_le E_u_TREC.lt p_41_5)
      have ne_u_AWARE_d__41 : u_AWARE ≠ d__41 := Nat.ne_of_lt (Nat.lt_of_lt_of_le E_u_AWARE.lt p_41_5)
      have z_41q : n0 ≤ h_41.size := Nat.le_trans Z0 K_41.1
      have ns_41 : ∀ x ∈ ([] : List Addr), ∀ cell : Cell, h0[x]? = some cell → cell.vm.isStatics = false := all0
      show Go p e below s _ _ _ T_41 (mkF m 94 #[.val (.int fl), .val (.int na), .val (.int nb), .val (.int nc), .val (.int (1 : Int32)), .val (.ref u_AWARE), .val (.int bb), .val (.double y1), .second, .val (.double y2), .second, .unset, .unset, .unset, .unset, .unset, .unset] [(.ref b__41)])
      refine Go.st (fun _ => XS.astore X_41.here hx rfl (hb hby at_94) rfl rfl (l' := #[.val (.int fl), .val (.int na), .val (.int nb), .val (.int nc), .val (.int (1 : Int32)), .val (.ref u_AWARE), .val (.int bb), .val (.double y1), .second, .val (.double y2), .second, .val (.ref b__41), .unset, .unset, .unset, .unset, .unset]) rfl) ?_
      show Go p e below s _ _ _ T_41 (mkF m 96 #[.val (.int fl), .val (.int na), .val (.int nb), .val (.int nc), .val (.int (1 : Int32)), .val (.ref u_AWARE), .val (.int bb), .val (.double y1), .second, .val (.double y2), .second, .val (.ref b__41), .unset, .unset, .unset, .unset, .unset] [])
      refine Go.st (fun _ => XS.iloadN X_41.here hx rfl (hb hby at_96) rfl) ?_
      show Go p e below s _ _ _ T_41 (mkF m 97 #[.val (.int fl), .val (.int na), .val (.int nb), .val (.int nc), .val (.int (1 : Int32)), .val (.ref u_AWARE), .val (.int bb), .val (.double y1), .second, .val (.double y2), .second, .val (.ref b__41), .unset, .unset, .unset, .unset, .unset] [(.int nc)])
      refine Go.st (fun _ => XS.bipush X_41.here hx rfl (hb hby at_97)) ?_
      show Go p e below s _ _ _ T_41 (mkF m 99 #[.val (.int fl), .val (.int na), .val (.int nb), .val (.int nc), .val (.int (1 : Int32)), .val (.ref u_AWARE), .val (.int bb), .val (.double y1), .second, .val (.double y2), .second, .val (.ref b__41), .unset, .unset, .unset, .unset, .unset] [(.int (8 : Int32)), (.int nc)])
      refine Go.st (fun _ => XS.iushr X_41.here hx rfl (hb hby at_99) rfl) ?_
      show Go p e below s _ _ _ T_41 (mkF m 100 #[.val (.int fl), .val (.int na), .val (.int nb), .val (.int nc), .val (.int (1 : Int32)), .val (.ref u_AWARE), .val (.int bb), .val (.double y1), .second, .val (.double y2), .second, .val (.ref b__41), .unset, .unset, .unset, .unset, .unset] [(.int ((nc.toUInt32 >>> ((8 : Int32) &&& 31).toUInt32).toInt32))])
      refine Go.st (fun _ => XS.sipush X_41.here hx rfl (hb hby at_100)) ?_
      show Go p e below s _ _ _ T_41 (mkF m 103 #[.val (.int fl), .val (.int na), .val (.int nb), .val (.int nc), .val (.int (1 : Int32)), .val (.ref u_AWARE), .val (.int bb), .val (.double y1), .second, .val (.double y2), .second, .val (.ref b__41), .unset, .unset, .unset, .unset, .unset] [(.int (255 : Int32)), (.int ((nc.toUInt32 >>> ((8 : Int32) &&& 31).toUInt32).toInt32))])
      refine Go.st (fun _ => XS.iand X_41.here hx rfl (hb hby at_103) rfl) ?_
      show Go p e below s _ _ _ T_41 (mkF m 104 #[.val (.int fl), .val (.int na), .val (.int nb), .val (.int nc), .val (.int (1 : Int32)), .val (.ref u_AWARE), .val (.int bb), .val (.double y1), .second, .val (.double y2), .second, .val (.ref b__41), .unset, .unset, .unset, .unset, .unset] [(.int (((nc.toUInt32 >>> ((8 : Int32) &&& 31).toUInt32).toInt32) &&& (255 : Int32)))])
      refine Go.st (fun _ => XS.i2c X_41.here hx rfl (hb hby at_104) rfl) ?_
      show Go p e below s _ _ _ T_41 (mkF m 105 #[.val (.int fl), .val (.int na), .val (.int nb), .val (.int nc), .val (.int (1 : Int32)), .val (.ref u_AWARE), .val (.int bb), .val (.double y1), .second, .val (.double y2), .second, .val (.ref b__41), .unset, .unset, .unset, .unset, .unset] [(.int ((((nc.toUInt32 >>> ((8 : Int32) &&& 31).toUInt32).toInt32) &&& (255 : Int32)).toUInt32.toUInt16.toUInt32.toInt32))])
      have f_43 := (own_sta_keep S_COMPACT_STRINGS K_41 ns_41)
      obtain ⟨_, _, ⟨T_42, L_42, kc_42, nc_42⟩, -, X_42, ⟨Lc_42, hQ_42, l_42, y_42, z_42⟩, st_42⟩ := Jvm.LawKit.callS X_41 hx (y := (⟨"java/lang/String", "valueOf", "(C)Ljava/lang/String;"⟩ : MethodName)) hown (mvT hZ (hw _ (List.mem_of_getElem? (i := 3) rfl))) (mvT hZ (hw _ (List.mem_of_getElem? (i := 4) rfl))) (mvT hZ (hw _ (List.mem_of_getElem? (i := 5) rfl))) (mvT hZ (hw _ (List.mem_of_getElem? (i := 6) rfl))) (by decide) (backOf (W := 0) (rmVo l Z a0 hw [] ((((nc.toUInt32 >>> ((8 : Int32) &&& 31).toUInt32).toInt32) &&& (255 : Int32)).toUInt32.toUInt16.toUInt32.toInt32) cs h_41 n0 z_41q f_43 hcs (own_c255 _)) hZ (hw _ (List.mem_of_getElem? (i := 6) rfl)) (hw _ (List.mem_of_getElem? (i := 5) rfl)) (by decide) (by decide)) (g := (mkF m 105 #[.val (.int fl), .val (.int na), .val (.int nb), .val (.int nc), .val (.int (1 : Int32)), .val (.ref u_AWARE), .val (.int bb), .val (.double y1), .second, .val (.double y2), .second, .val (.ref b__41), .unset, .unset, .unset, .unset, .unset] [(.int ((((nc.toUInt32 >>> ((8 : Int32) &&& 31).toUInt32).toInt32) &&& (255 : Int32)).toUInt32.toUInt16.toUInt32.toInt32))])) rfl (by rw [hml]; rfl) (argsL := [(.int ((((nc.toUInt32 >>> ((8 : Int32) &&& 31).toUInt32).toInt32) &&& (255 : Int32)).toUInt32.toUInt16.toUInt32.toInt32))]) (rest := []) (lenOf pd_4 rfl) rfl (by show 2 * 0 + _ ≤ _; exact Nat.le_of_eq rfl) (hb hby at_105) (fun _ _ => ⟨rfl, e_41, (by decide : 2 + 2 ≤ _), (by decide : 5 + 5 ≤ _)⟩)
      dsimp only [Pt.U, Pt.locs, Pt.cells, Pt.slots] at X_42 l_42 y_42 z_42 st_42 hQ_42
      obtain rfl : kc_42 = 4 := y_42
      obtain rfl : nc_42 = 10 := z_42
      obtain ⟨h_42, e_42⟩ : ∃ hh, T_42.heap = hh := ⟨_, rfl⟩
      rw [e_42] at hQ_42
      obtain ⟨b__42, d__42, kd__42, rfl, N_42q, K_42, p_42_0, p_42_1, p_42_2, p_42_3, p_42_4, p_42_5, p_42_6, p_42_7, p_42_8⟩ := hQ_42
      have N_42 : Fr n0 L_42 := by rw [l_42]; exact Fr.app N_41 N_42q
      refine Go.st st_42 ?_
      have f_44 := (E_u_TREC.keep K_41)
      have ne_u_TREC_b__42 : u_TREC ≠ b__42 := Nat.ne_of_lt (Nat.lt_of_lt_of_le f_44.lt p_42_0)
      have f_45 := (E_u_AWARE.keep K_41)
      have ne_u_AWARE_b__42 : u_AWARE ≠ b__42 := Nat.ne_of_lt (Nat.lt_of_lt_of_le f_45.lt p_42_0)
      have ne_b__41_b__42 : b__41 ≠ b__42 := Nat.ne_of_lt (Nat.lt_of_lt_of_le p_41_2.lt p_42_0)
      have ne_d__41_b__42 : d__41 ≠ b__42 := Nat.ne_of_lt (Nat.lt_of_lt_of_le p_41_7.lt p_42_0)
      have ne_u_TREC_d__42 : u_TREC ≠ d__42 := Nat.ne_of_lt (Nat.lt_of_lt_of_le f_44.lt p_42_5)
      have ne_u_AWARE_d__42 : u_AWARE ≠ d__42 := Nat.ne_of_lt (Nat.lt_of_lt_of_le f_45.lt p_42_5)
      have ne_b__41_d__42 : b__41 ≠ d__42 := Nat.ne_of_lt (Nat.lt_of_lt_of_le p_41_2.lt p_42_5)
      have ne_d__41_d__42 : d__41 ≠ d__42 := Nat.ne_of_lt (Nat.lt_of_lt_of_le p_41_7.lt p_42_5)
      have z_42q : n0 ≤ h_42.size := Nat.le_trans z_41q K_42.1
      have ns_42 : ∀ x ∈ ([] : List Addr), ∀ cell : Cell, h_41[x]? = some cell → cell.vm.isStatics = false := all0
      show Go p e below s _ _ _ T_42 (mkF m 108 #[.val (.int fl), .val (.int na), .val (.int nb), .val (.int nc), .val (.int (1 : Int32)), .val (.ref u_AWARE), .val (.int bb), .val (.double y1), .second, .val (.double y2), .second, .val (.ref b__41), .unset, .unset, .unset, .unset, .unset] [(.ref b__42)])
      refine Go.st (fun _ => XS.astore X_42.here hx rfl (hb hby at_108) rfl rfl (l' := #[.val (.int fl), .val (.int na), .val (.int nb), .val (.int nc), .val (.int (1 : Int32)), .val (.ref u_AWARE), .val (.int bb), .val (.double y1), .second, .val (.double y2), .second, .val (.ref b__41), .val (.ref b__42), .unset, .unset, .unset, .unset]) rfl) ?_
      show Go p e below s _ _ _ T_42 (mkF m 110 #[.val (.int fl), .val (.int na), .val (.int nb), .val (.int nc), .val (.int (1 : Int32)), .val (.ref u_AWARE), .val (.int bb), .val (.double y1), .second, .val (.double y2), .second, .val (.ref b__41), .val (.ref b__42), .unset, .unset, .unset, .unset] [])
      refine Go.st (fun _ => XS.iloadN X_42.here hx rfl (hb hby at_110) rfl) ?_
      show Go p e below s _ _ _ T_42 (mkF m 111 #[.val (.int fl), .val (.int na), .val (.int nb), .val (.int nc), .val (.int (1 : Int32)), .val (.ref u_AWARE), .val (.int bb), .val (.double y1), .second, .val (.double y2), .second, .val (.ref b__41), .val (.ref b__42), .unset, .unset, .unset, .unset] [(.int nc)])
      refine Go.st (fun _ => XS.bipush X_42.here hx rfl (hb hby at_111)) ?_
      show Go p e below s _ _ _ T_42 (mkF m 113 #[.val (.int fl), .val (.int na), .val (.int nb), .val (.int nc), .val (.int (1 : Int32)), .val (.ref u_AWARE), .val (.int bb), .val (.double y1), .second, .val (.double y2), .second, .val (.ref b__41), .val (.ref b__42), .unset, .unset, .unset, .unset] [(.int (16 : Int32)), (.int nc)])
      refine Go.st (fun _ => XS.iushr X_42.here hx rfl (hb hby at_113) rfl) ?_
      show Go p e below s _ _ _ T_42 (mkF m 114 #[.val (.int fl), .val (.int na), .val (.int nb), .val (.int nc), .val (.int (1 : Int32)), .val (.ref u_AWARE), .val (.int bb), .val (.double y1), .second, .val (.double y2), .second, .val (.ref b__41), .val (.ref b__42), .unset, .unset, .unset, .unset] [(.int ((nc.toUInt32 >>> ((16 : Int32) &&& 31).toUInt32).toInt32))])
      refine Go.st (fun _ => XS.sipush X_42.here hx rfl (hb hby at_114)) ?_
      show Go p e below s _ _ _ T_42 (mkF m 117 #[.val (.int fl), .val (.int na), .val (.int nb), .val (.int nc), .val (.int (1 : Int32)), .val (.ref u_AWARE), .val (.int bb), .val (.double y1), .second, .val (.double y2), .second, .val (.ref b__41), .val (.ref b__42), .unset, .unset, .unset, .unset] [(.int (255 : Int32)), (.int ((nc.toUInt32 >>> ((16 : Int32) &&& 31).toUInt32).toInt32))])
      refine Go.st (fun _ => XS.iand X_42.here hx rfl (hb hby at_117) rfl) ?_
      show Go p e below s _ _ _ T_42 (mkF m 118 #[.val (.int fl), .val (.int na), .val (.int nb), .val (.int nc), .val (.int (1 : Int32)), .val (.ref u_AWARE), .val (.int bb), .val (.double y1), .second, .val (.double y2), .second, .val (.ref b__41), .val (.ref b__42), .unset, .unset, .unset, .unset] [(.int (((nc.toUInt32 >>> ((16 : Int32) &&& 31).toUInt32).toInt32) &&& (255 : Int32)))])
      refine Go.st (fun _ => XS.i2c X_42.here hx rfl (hb hby at_118) rfl) ?_
      show Go p e below s _ _ _ T_42 (mkF m 119 #[.val (.int fl), .val (.int na), .val (.int nb), .val (.int nc), .val (.int (1 : Int32)), .val (.ref u_AWARE), .val (.int bb), .val (.double y1), .second, .val (.double y2), .second, .val (.ref b__41), .val (.ref b__42), .unset, .unset, .unset, .unset] [(.int ((((nc.toUInt32 >>> ((16 : Int32) &&& 31).toUInt32).toInt32) &&& (255 : Int32)).toUInt32.toUInt16.toUInt32.toInt32))])
      have f_47 := (own_sta_keep f_43 K_42 ns_42)
      obtain ⟨_, _, ⟨T_46, L_46, kc_46, nc_46⟩, -, X_46, ⟨Lc_46, hQ_46, l_46, y_46, z_46⟩, st_46⟩ := Jvm.LawKit.callS X_42 hx (y := (⟨"java/lang/String", "valueOf", "(C)Ljava/lang/String;"⟩ : MethodName)) hown (mvT hZ (hw _ (List.mem_of_getElem? (i := 3) rfl))) (mvT hZ (hw _ (List.mem_of_getElem? (i := 4) rfl))) (mvT hZ (hw _ (List.mem_of_getElem? (i := 5) rfl))) (mvT hZ (hw _ (List.mem_of_getElem? (i := 6) rfl))) (by decide) (backOf (W := 0) (rmVo l Z a0 hw [] ((((nc.toUInt32 >>> ((16 : Int32) &&& 31).toUInt32).toInt32) &&& (255 : Int32)).toUInt32.toUInt16.toUInt32.toInt32) cs h_42 n0 z_42q f_47 hcs (own_c255 _)) hZ (hw _ (List.mem_of_getElem? (i := 6) rfl)) (hw _ (List.mem_of_getElem? (i := 5) rfl)) (by decide) (by decide)) (g := (mkF m 119 #[.val (.int fl), .val (.int na), .val (.int nb), .val (.int nc), .val (.int (1 : Int32)), .val (.ref u_AWARE), .val (.int bb), .val (.double y1), .second, .val (.double y2), .second, .val (.ref b__41), .val (.ref b__42), .unset, .unset, .unset, .unset] [(.int ((((nc.toUInt32 >>> ((16 : Int32) &&& 31).toUInt32).toInt32) &&& (255 : Int32)).toUInt32.toUInt16.toUInt32.toInt32))])) rfl (by rw [hml]; rfl) (argsL := [(.int ((((nc.toUInt32 >>> ((16 : Int32) &&& 31).toUInt32).toInt32) &&& (255 : Int32)).toUInt32.toUInt16.toUInt32.toInt32))]) (rest := []) (lenOf pd_4 rfl) rfl (by show 2 * 0 + _ ≤ _; exact Nat.le_of_eq rfl) (hb hby at_119) (fun _ _ => ⟨rfl, e_42, (by decide : 4 + 2 ≤ _), (by decide : 10 + 5 ≤ _)⟩)
      dsimp only [Pt.U, Pt.locs, Pt.cells, Pt.slots] at X_46 l_46 y_46 z_46 st_46 hQ_46
      obtain rfl : kc_46 = 6 := y_46
      obtain rfl : nc_46 = 15 := z_46
      obtain ⟨h_46, e_46⟩ : ∃ hh, T_46.heap = hh := ⟨_, rfl⟩
      rw [e_46] at hQ_46
      obtain ⟨b__46, d__46, kd__46, rfl, N_46q, K_46, p_46_0, p_46_1, p_46_2, p_46_3, p_46_4, p_46_5, p_46_6, p_46_7, p_46_8⟩ := hQ_46
      have N_46 : Fr n0 L_46 := by rw [l_46]; exact Fr.app N_42 N_46q
      refine Go.st st_46 ?_
      have f_48 := (f_44.keep K_42)
      have ne_u_TREC_b__46 : u_TREC ≠ b__46 := Nat.ne_of_lt (Nat.lt_of_lt_of_le f_48.lt p_46_0)
      have f_49 := (f_45.keep K_42)
      have ne_u_AWARE_b__46 : u_AWARE ≠ b__46 := Nat.ne_of_lt (Nat.lt_of_lt_of_le f_49.lt p_46_0)
      have f_50 := (p_41_2.keep K_42)
      have ne_b__41_b__46 : b__41 ≠ b__46 := Nat.ne_of_lt (Nat.lt_of_lt_of_le f_50.lt p_46_0)
      have f_51 := (p_41_7.keep K_42 nin0)
      have ne_d__41_b__46 : d__41 ≠ b__46 := Nat.ne_of_lt (Nat.lt_of_lt_of_le f_51.lt p_46_0)
      have ne_b__42_b__46 : b__42 ≠ b__46 := Nat.ne_of_lt (Nat.lt_of_lt_of_le p_42_2.lt p_46_0)
      have ne_d__42_b__46 : d__42 ≠ b__46 := Nat.ne_of_lt (Nat.lt_of_lt_of_le p_42_7.lt p_46_0)
      have ne_u_TREC_d__46 : u_TREC ≠ d__46 := Nat.ne_of_lt (Nat.lt_of_lt_of_le f_48.lt p_46_5)
      have ne_u_AWARE_d__46 : u_AWARE ≠ d__46 := Nat.ne_of_lt (Nat.lt_of_lt_of_le f_49.lt p_46_5)
      have ne_b__41_d__46 : b__41 ≠ d__46 := Nat.ne_of_lt (Nat.lt_of_lt_of_le f_50.lt p_46_5)
      have ne_d__41_d__46 : d__41 ≠ d__46 := Nat.ne_of_lt (Nat.lt_of_lt_of_le f_51.lt p_46_5)
      have ne_b__42_d__46 : b__42 ≠ d__46 := Nat.ne_of_lt (Nat.lt_of_lt_of_le p_42_2.lt p_46_5)
      have ne_d__42_d__46 : d__42 ≠ d__46 := Nat.ne_of_lt (Nat.lt_of_lt_of_le p_42_7.lt p_46_5)
      have z_46q : n0 ≤ h_46.size := Nat.le_trans z_42q K_46.1
      have ns_46 : ∀ x ∈ ([] : List Addr), ∀ cell : Cell, h_42[x]? = some cell → cell.vm.isStatics = false := all0
      show Go p e below s _ _ _ T_46 (mkF m 122 #[.val (.int fl), .val (.int na), .val (.int nb), .val (.int nc), .val (.int (1 : Int32)), .val (.ref u_AWARE), .val (.int bb), .val (.double y1), .second, .val (.double y2), .second, .val (.ref b__41), .val (.ref b__42), .unset, .unset, .unset, .unset] [(.ref b__46)])
      refine Go.st (fun _ => XS.astore X_46.here hx rfl (hb hby at_122) rfl rfl (l' := #[.val (.int fl), .val (.int na), .val (.int nb), .val (.int nc), .val (.int (1 : Int32)), .val (.ref u_AWARE), .val (.int bb), .val (.double y1), .second, .val (.double y2), .second, .val (.ref b__41), .val (.ref b__42), .val (.ref b__46), .unset, .unset, .unset]) rfl) ?_
      show Go p e below s _ _ _ T_46 (mkF m 124 #[.val (.int fl), .val (.int na), .val (.int nb), .val (.int nc), .val (.int (1 : Int32)), .val (.ref u_AWARE), .val (.int bb), .val (.double y1), .second, .val (.double y2), .second, .val (.ref b__41), .val (.ref b__42), .val (.ref b__46), .unset, .unset, .unset] [])
      obtain ⟨T_52, h_52, X_52, e_52, E_52, A_52, D_52, -, st_52⟩ := newO X_46 hx hZ hown (hw _ (List.mem_of_getElem? (i := 29) rfl)) (hw _ (List.mem_of_getElem? (i := 30) rfl)) (hw _ (List.mem_of_getElem? (i := 31) rfl)) e_46 (g := (mkF m 124 #[.val (.int fl), .val (.int na), .val (.int nb), .val (.int nc), .val (.int (1 : Int32)), .val (.ref u_AWARE), .val (.int bb), .val (.double y1), .second, .val (.double y2), .second, .val (.ref b__41), .val (.ref b__42), .val (.ref b__46), .unset, .unset, .unset] [])) rfl (hb hby at_124) (by decide) (by decide)
      obtain ⟨b_52, g_52⟩ : ∃ z, z = h_46.size := ⟨_, rfl⟩
      rw [← g_52] at A_52 D_52 st_52
      refine Go.st st_52 ?_
      have f_53 := (f_48.keep K_46)
      have ne_u_TREC_b_52 : u_TREC ≠ b_52 := Nat.ne_of_lt (Nat.lt_of_lt_of_eq f_53.lt g_52.symm)
      have f_54 := (f_49.keep K_46)
      have ne_u_AWARE_b_52 : u_AWARE ≠ b_52 := Nat.ne_of_lt (Nat.lt_of_lt_of_eq f_54.lt g_52.symm)
      have f_55 := (f_50.keep K_46)
      have ne_b__41_b_52 : b__41 ≠ b_52 := Nat.ne_of_lt (Nat.lt_of_lt_of_eq f_55.lt g_52.symm)
      have f_56 := (f_51.keep K_46 nin0)
      have ne_d__41_b_52 : d__41 ≠ b_52 := Nat.ne_of_lt (Nat.lt_of_lt_of_eq f_56.lt g_52.symm)
      have f_57 := (p_42_2.keep K_46)
      have ne_b__42_b_52 : b__42 ≠ b_52 := Nat.ne_of_lt (Nat.lt_of_lt_of_eq f_57.lt g_52.symm)
      have f_58 := (p_42_7.keep K_46 nin0)
      have ne_d__42_b_52 : d__42 ≠ b_52 := Nat.ne_of_lt (Nat.lt_of_lt_of_eq f_58.lt g_52.symm)
      have ne_b__46_b_52 : b__46 ≠ b_52 := Nat.ne_of_lt (Nat.lt_of_lt_of_eq p_46_2.lt g_52.symm)
      have ne_d__46_b_52 : d__46 ≠ b_52 := Nat.ne_of_lt (Nat.lt_of_lt_of_eq p_46_7.lt g_52.symm)
      have gg_52 : n0 ≤ b_52 := Nat.le_trans z_46q (Nat.le_of_eq g_52.symm)
      have z_52 : n0 ≤ h_52.size := Nat.le_trans z_46q E_52.1
      have F_pairId_b_52 : Fld Z h_52 b_52 "com/example/sift_sentences/siftsentences/trec/RunLine" "pairId" "Ljava/lang/String;" .null := D_52 (Or.inr (hw _ (List.mem_of_getElem? (i := 37) rfl))) (ty := (.object "java/lang/String")) (by decide)
      have F_sentenceId_b_52 : Fld Z h_52 b_52 "com/example/sift_sentences/siftsentences/trec/RunLine" "sentenceId" "Ljava/lang/String;" .null := D_52 (Or.inr (hw _ (List.mem_of_getElem? (i := 39) rfl))) (ty := (.object "java/lang/String")) (by decide)
      have F_score_b_52 : Fld Z h_52 b_52 "com/example/sift_sentences/siftsentences/trec/RunLine" "score" "D" (.double (0 : UInt64)) := D_52 (Or.inr (hw _ (List.mem_of_getElem? (i := 41) rfl))) (ty := .double) (by decide)
      show Go p e below s _ _ _ T_52 (mkF m 127 #[.val (.int fl), .val (.int na), .val (.int nb), .val (.int nc), .val (.int (1 : Int32)), .val (.ref u_AWARE), .val (.int bb), .val (.double y1), .second, .val (.double y2), .second, .val (.ref b__41), .val (.ref b__42), .val (.ref b__46), .unset, .unset, .unset] [(.ref b_52)])
      refine Go.st (fun _ => XS.dup X_52.here hx rfl (hb hby at_127) rfl rfl) ?_
      show Go p e below s _ _ _ T_52 (mkF m 128 #[.val (.int fl), .val (.int na), .val (.int nb), .val (.int nc), .val (.int (1 : Int32)), .val (.ref u_AWARE), .val (.int bb), .val (.double y1), .second, .val (.double y2), .second, .val (.ref b__41), .val (.ref b__42), .val (.ref b__46), .unset, .unset, .unset] [(.ref b_52), (.ref b_52)])
      refine Go.st (fun _ => XS.aload X_52.here hx rfl (hb hby at_128) rfl rfl) ?_
      show Go p e below s _ _ _ T_52 (mkF m 130 #[.val (.int fl), .val (.int na), .val (.int nb), .val (.int nc), .val (.int (1 : Int32)), .val (.ref u_AWARE), .val (.int bb), .val (.double y1), .second, .val (.double y2), .second, .val (.ref b__41), .val (.ref b__42), .val (.ref b__46), .unset, .unset, .unset] [(.ref b__41), (.ref b_52), (.ref b_52)])
      refine Go.st (fun _ => XS.aload X_52.here hx rfl (hb hby at_130) rfl rfl) ?_
      show Go p e below s _ _ _ T_52 (mkF m 132 #[.val (.int fl), .val (.int na), .val (.int nb), .val (.int nc), .val (.int (1 : Int32)), .val (.ref u_AWARE), .val (.int bb), .val (.double y1), .second, .val (.double y2), .second, .val (.ref b__41), .val (.ref b__42), .val (.ref b__46), .unset, .unset, .unset] [(.ref b__42), (.ref b__41), (.ref b_52), (.ref b_52)])
      refine Go.st (fun _ => XS.dload X_52.here hx rfl (hb hby at_132) rfl) ?_
      show Go p e below s _ _ _ T_52 (mkF m 134 #[.val (.int fl), .val (.int na), .val (.int nb), .val (.int nc), .val (.int (1 : Int32)), .val (.ref u_AWARE), .val (.int bb), .val (.double y1), .second, .val (.double y2), .second, .val (.ref b__41), .val (.ref b__42), .val (.ref b__46), .unset, .unset, .unset] [(.double y1), (.ref b__42), (.ref b__41), (.ref b_52), (.ref b_52)])
      obtain ⟨_, _, ⟨T_59, L_59, kc_59, nc_59⟩, -, X_59, ⟨Lc_59, hQ_59, l_59, y_59, z_59⟩, st_59⟩ := X_52.specialBack hx (y := (⟨"com/example/sift_sentences/siftsentences/trec/RunLine", "<init>", "(Ljava/lang/String;Ljava/lang/String;D)V"⟩ : MethodName)) rfl hown (mvT hZ (hw _ (List.mem_of_getElem? (i := 32) rfl))) (mvT hZ (hw _ (List.mem_of_getElem? (i := 33) rfl))) (mvT hZ (hw _ (List.mem_of_getElem? (i := 34) rfl))) (by decide) (backOf (W := 1) (rmRi l Z a0 hw [] b_52 b__41 b__42 y1 h_52 n0 z_52 A_52 F_pairId_b_52 F_sentenceId_b_52 F_score_b_52 gg_52) hZ (hw _ (List.mem_of_getElem? (i := 34) rfl)) (hw _ (List.mem_of_getElem? (i := 31) rfl)) (by decide) (by decide)) (g := (mkF m 134 #[.val (.int fl), .val (.int na), .val (.int nb), .val (.int nc), .val (.int (1 : Int32)), .val (.ref u_AWARE), .val (.int bb), .val (.double y1), .second, .val (.double y2), .second, .val (.ref b__41), .val (.ref b__42), .val (.ref b__46), .unset, .unset, .unset] [(.double y1), (.ref b__42), (.ref b__41), (.ref b_52), (.ref b_52)])) rfl (by rw [hml]; rfl) (Steps.refl _) (a := b_52) (argsL := [(.ref b__41), (.ref b__42), (.double y1)]) (rest := [(.ref b_52)]) (lenOf pd_5 rfl) rfl (by show 2 * 0 + _ ≤ _; exact Nat.le_of_eq rfl) (hb hby at_134) (fun _ _ => ⟨rfl, e_52, (by decide : 7 + 0 ≤ _), (by decide : 18 + 0 ≤ _)⟩)
      dsimp only [Pt.U, Pt.locs, Pt.cells, Pt.slots] at X_59 l_59 y_59 z_59 st_59 hQ_59
      obtain rfl : kc_59 = 7 := y_59
      obtain rfl : nc_59 = 18 := z_59
      obtain ⟨h_59, e_59⟩ : ∃ hh, T_59.heap = hh := ⟨_, rfl⟩
      rw [e_59] at hQ_59
      obtain ⟨rfl, N_59q, K_59, p_59_0, p_59_1⟩ := hQ_59
      have N_59 : Fr n0 L_59 := by rw [l_59]; exact Fr.app N_46 N_59q
      refine Go.st (fun _ kk => st_59.trans kk) ?_
      have z_59q : n0 ≤ h_59.size := Nat.le_trans z_52 K_59.1
      have ns_59 : ∀ x ∈ ([b_52] : List Addr), ∀ cell : Cell, h_52[x]? = some cell → cell.vm.isStatics = false := (allS A_52.nostat all0)
      show Go p e below s _ _ _ T_59 (mkF m 137 #[.val (.int fl), .val (.int na), .val (.int nb), .val (.int nc), .val (.int (1 : Int32)), .val (.ref u_AWARE), .val (.int bb), .val (.double y1), .second, .val (.double y2), .second, .val (.ref b__41), .val (.ref b__42), .val (.ref b__46), .unset, .unset, .unset] [(.ref b_52)])
      refine Go.st (fun _ => XS.astore X_59.here hx rfl (hb hby at_137) rfl rfl (l' := #[.val (.int fl), .val (.int na), .val (.int nb), .val (.int nc), .val (.int (1 : Int32)), .val (.ref u_AWARE), .val (.int bb), .val (.double y1), .second, .val (.double y2), .second, .val (.ref b__41), .val (.ref b__42), .val (.ref b__46), .val (.ref b_52), .unset, .unset]) rfl) ?_
      show Go p e below s _ _ _ T_59 (mkF m 139 #[.val (.int fl), .val (.int na), .val (.int nb), .val (.int nc), .val (.int (1 : Int32)), .val (.ref u_AWARE), .val (.int bb), .val (.double y1), .second, .val (.double y2), .second, .val (.ref b__41), .val (.ref b__42), .val (.ref b__46), .val (.ref b_52), .unset, .unset] [])
      obtain ⟨T_60, h_60, X_60, e_60, E_60, A_60, D_60, -, st_60⟩ := newO X_59 hx hZ hown (hw _ (List.mem_of_getElem? (i := 29) rfl)) (hw _ (List.mem_of_getElem? (i := 30) rfl)) (hw _ (List.mem_of_getElem? (i := 31) rfl)) e_59 (g := (mkF m 139 #[.val (.int fl), .val (.int na), .val (.int nb), .val (.int nc), .val (.int (1 : Int32)), .val (.ref u_AWARE), .val (.int bb), .val (.double y1), .second, .val (.double y2), .second, .val (.ref b__41), .val (.ref b__42), .val (.ref b__46), .val (.ref b_52), .unset, .unset] [])) rfl (hb hby at_139) (by decide) (by decide)
      obtain ⟨b_60, g_60⟩ : ∃ z, z = h_59.size := ⟨_, rfl⟩
      rw [← g_60] at A_60 D_60 st_60
      refine Go.st st_60 ?_
      have f_61 := ((f_53.ext E_52).keep K_59)
      have ne_u_TREC_b_60 : u_TREC ≠ b_60 := Nat.ne_of_lt (Nat.lt_of_lt_of_eq f_61.lt g_60.symm)
      have f_62 := ((f_54.ext E_52).keep K_59)
      have ne_u_AWARE_b_60 : u_AWARE ≠ b_60 := Nat.ne_of_lt (Nat.lt_of_lt_of_eq f_62.lt g_60.symm)
      have f_63 := ((f_55.ext E_52).keep K_59)
      have ne_b__41_b_60 : b__41 ≠ b_60 := Nat.ne_of_lt (Nat.lt_of_lt_of_eq f_63.lt g_60.symm)
      have f_64 := ((f_56.ext E_52).keep K_59 (ninS ne_d__41_b_52 nin0))
      have ne_d__41_b_60 : d__41 ≠ b_60 := Nat.ne_of_lt (Nat.lt_of_lt_of_eq f_64.lt g_60.symm)
      have f_65 := ((f_57.ext E_52).keep K_59)
      have ne_b__42_b_60 : b__42 ≠ b_60 := Nat.ne_of_lt (Nat.lt_of_lt_of_eq f_65.lt g_60.symm)
      have f_66 := ((f_58.ext E_52).keep K_59 (ninS ne_d__42_b_52 nin0))
      have ne_d__42_b_60 : d__42 ≠ b_60 := Nat.ne_of_lt (Nat.lt_of_lt_of_eq f_66.lt g_60.symm)
      have f_67 := ((p_46_2.ext E_52).keep K_59)
      have ne_b__46_b_60 : b__46 ≠ b_60 := Nat.ne_of_lt (Nat.lt_of_lt_of_eq f_67.lt g_60.symm)
      have f_68 := ((p_46_7.ext E_52).keep K_59 (ninS ne_d__46_b_52 nin0))
      have ne_d__46_b_60 : d__46 ≠ b_60 := Nat.ne_of_lt (Nat.lt_of_lt_of_eq f_68.lt g_60.symm)
      have ne_b_52_b_60 : b_52 ≠ b_60 := Nat.ne_of_lt (Nat.lt_of_lt_of_eq p_59_0.lt g_60.symm)
      have gg_60 : n0 ≤ b_60 := Nat.le_trans z_59q (Nat.le_of_eq g_60.symm)
      have z_60 : n0 ≤ h_60.size := Nat.le_trans z_59q E_60.1
      have F_pairId_b_60 : Fld Z h_60 b_60 "com/example/sift_sentences/siftsentences/trec/RunLine" "pairId" "Ljava/lang/String;" .null := D_60 (Or.inr (hw _ (List.mem_of_getElem? (i := 37) rfl))) (ty := (.object "java/lang/String")) (by decide)
      have F_sentenceId_b_60 : Fld Z h_60 b_60 "com/example/sift_sentences/siftsentences/trec/RunLine" "sentenceId" "Ljava/lang/String;" .null := D_60 (Or.inr (hw _ (List.mem_of_getElem? (i := 39) rfl))) (ty := (.object "java/lang/String")) (by decide)
      have F_score_b_60 : Fld Z h_60 b_60 "com/example/sift_sentences/siftsentences/trec/RunLine" "score" "D" (.double (0 : UInt64)) := D_60 (Or.inr (hw _ (List.mem_of_getElem? (i := 41) rfl))) (ty := .double) (by decide)
      show Go p e below s _ _ _ T_60 (mkF m 142 #[.val (.int fl), .val (.int na), .val (.int nb), .val (.int nc), .val (.int (1 : Int32)), .val (.ref u_AWARE), .val (.int bb), .val (.double y1), .second, .val (.double y2), .second, .val (.ref b__41), .val (.ref b__42), .val (.ref b__46), .val (.ref b_52), .unset, .unset] [(.ref b_60)])
      refine Go.st (fun _ => XS.dup X_60.here hx rfl (hb hby at_142) rfl rfl) ?_
      show Go p e below s _ _ _ T_60 (mkF m 143 #[.val (.int fl), .val (.int na), .val (.int nb), .val (.int nc), .val (.int (1 : Int32)), .val (.ref u_AWARE), .val (.int bb), .val (.double y1), .second, .val (.double y2), .second, .val (.ref b__41), .val (.ref b__42), .val (.ref b__46), .val (.ref b_52), .unset, .unset] [(.ref b_60), (.ref b_60)])
      refine Go.st (fun _ => XS.aload X_60.here hx rfl (hb hby at_143) rfl rfl) ?_
      show Go p e below s _ _ _ T_60 (mkF m 145 #[.val (.int fl), .val (.int na), .val (.int nb), .val (.int nc), .val (.int (1 : Int32)), .val (.ref u_AWARE), .val (.int bb), .val (.double y1), .second, .val (.double y2), .second, .val (.ref b__41), .val (.ref b__42), .val (.ref b__46), .val (.ref b_52), .unset, .unset] [(.ref b__41), (.ref b_60), (.ref b_60)])
      refine Go.st (fun _ => XS.aload X_60.here hx rfl (hb hby at_145) rfl rfl) ?_
      show Go p e below s _ _ _ T_60 (mkF m 147 #[.val (.int fl), .val (.int na), .val (.int nb), .val (.int nc), .val (.int (1 : Int32)), .val (.ref u_AWARE), .val (.int bb), .val (.double y1), .second, .val (.double y2), .second, .val (.ref b__41), .val (.ref b__42), .val (.ref b__46), .val (.ref b_52), .unset, .unset] [(.ref b__46), (.ref b__41), (.ref b_60), (.ref b_60)])
      refine Go.st (fun _ => XS.dload X_60.here hx rfl (hb hby at_147) rfl) ?_
      show Go p e below s _ _ _ T_60 (mkF m 149 #[.val (.int fl), .val (.int na), .val (.int nb), .val (.int nc), .val (.int (1 : Int32)), .val (.ref u_AWARE), .val (.int bb), .val (.double y1), .second, .val (.double y2), .second, .val (.ref b__41), .val (.ref b__42), .val (.ref b__46), .val (.ref b_52), .unset, .unset] [(.double y2), (.ref b__46), (.ref b__41), (.ref b_60), (.ref b_60)])
      obtain ⟨_, _, ⟨T_69, L_69, kc_69, nc_69⟩, -, X_69, ⟨Lc_69, hQ_69, l_69, y_69, z_69⟩, st_69⟩ := X_60.specialBack hx (y := (⟨"com/example/sift_sentences/siftsentences/trec/RunLine", "<init>", "(Ljava/lang/String;Ljava/lang/String;D)V"⟩ : MethodName)) rfl hown (mvT hZ (hw _ (List.mem_of_getElem? (i := 32) rfl))) (mvT hZ (hw _ (List.mem_of_getElem? (i := 33) rfl))) (mvT hZ (hw _ (List.mem_of_getElem? (i := 34) rfl))) (by decide) (backOf (W := 1) (rmRi l Z a0 hw [] b_60 b__41 b__46 y2 h_60 n0 z_60 A_60 F_pairId_b_60 F_sentenceId_b_60 F_score_b_60 gg_60) hZ (hw _ (List.mem_of_getElem? (i := 34) rfl)) (hw _ (List.mem_of_getElem? (i := 31) rfl)) (by decide) (by decide)) (g := (mkF m 149 #[.val (.int fl), .val (.int na), .val (.int nb), .val (.int nc), .val (.int (1 : Int32)), .val (.ref u_AWARE), .val (.int bb), .val (.double y1), .second, .val (.double y2), .second, .val (.ref b__41), .val (.ref b__42), .val (.ref b__46), .val (.ref b_52), .unset, .unset] [(.double y2), (.ref b__46), (.ref b__41), (.ref b_60), (.ref b_60)])) rfl (by rw [hml]; rfl) (Steps.refl _) (a := b_60) (argsL := [(.ref b__41), (.ref b__46), (.double y2)]) (rest := [(.ref b_60)]) (lenOf pd_5 rfl) rfl (by show 2 * 0 + _ ≤ _; exact Nat.le_of_eq rfl) (hb hby at_149) (fun _ _ => ⟨rfl, e_60, (by decide : 8 + 0 ≤ _), (by decide : 21 + 0 ≤ _)⟩)
      dsimp only [Pt.U, Pt.locs, Pt.cells, Pt.slots] at X_69 l_69 y_69 z_69 st_69 hQ_69
      obtain rfl : kc_69 = 8 := y_69
      obtain rfl : nc_69 = 21 := z_69
      obtain ⟨h_69, e_69⟩ : ∃ hh, T_69.heap = hh := ⟨_, rfl⟩
      rw [e_69] at hQ_69
      obtain ⟨rfl, N_69q, K_69, p_69_0, p_69_1⟩ := hQ_69
      have N_69 : Fr n0 L_69 := by rw [l_69]; exact Fr.app N_59 N_69q
      refine Go.st (fun _ kk => st_69.trans kk) ?_
      have z_69q : n0 ≤ h_69.size := Nat.le_trans z_60 K_69.1
      have ns_69 : ∀ x ∈ ([b_60] : List Addr), ∀ cell : Cell, h_60[x]? = some cell → cell.vm.isStatics = false := (allS A_60.nostat all0)
      show Go p e below s _ _ _ T_69 (mkF m 152 #[.val (.int fl), .val (.int na), .val (.int nb), .val (.int nc), .val (.int (1 : Int32)), .val (.ref u_AWARE), .val (.int bb), .val (.double y1), .second, .val (.double y2), .second, .val (.ref b__41), .val (.ref b__42), .val (.ref b__46), .val (.ref b_52), .unset, .unset] [(.ref b_60)])
      refine Go.st (fun _ => XS.astore X_69.here hx rfl (hb hby at_152) rfl rfl (l' := #[.val (.int fl), .val (.int na), .val (.int nb), .val (.int nc), .val (.int (1 : Int32)), .val (.ref u_AWARE), .val (.int bb), .val (.double y1), .second, .val (.double y2), .second, .val (.ref b__41), .val (.ref b__42), .val (.ref b__46), .val (.ref b_52), .val (.ref b_60), .unset]) rfl) ?_
      show Go p e below s _ _ _ T_69 (mkF m 154 #[.val (.int fl), .val (.int na), .val (.int nb), .val (.int nc), .val (.int (1 : Int32)), .val (.ref u_AWARE), .val (.int bb), .val (.double y1), .second, .val (.double y2), .second, .val (.ref b__41), .val (.ref b__42), .val (.ref b__46), .val (.ref b_52), .val (.ref b_60), .unset] [])
      refine Go.st (fun _ => XS.iload X_69.here hx rfl (hb hby at_154) rfl) ?_
      show Go p e below s _ _ _ T_69 (mkF m 156 #[.val (.int fl), .val (.int na), .val (.int nb), .val (.int nc), .val (.int (1 : Int32)), .val (.ref u_AWARE), .val (.int bb), .val (.double y1), .second, .val (.double y2), .second, .val (.ref b__41), .val (.ref b__42), .val (.ref b__46), .val (.ref b_52), .val (.ref b_60), .unset] [(.int (1 : Int32))])
      refine Go.st (fun _ => XS.ifNo X_69.here hx rfl (hb hby at_156) rfl ((if0 _ _).trans (feq (by decide : ¬ ((1 : Int32) = (0 : Int32)))).1)) ?_
      show Go p e below s _ _ _ T_69 (mkF m 159 #[.val (.int fl), .val (.int na), .val (.int nb), .val (.int nc), .val (.int (1 : Int32)), .val (.ref u_AWARE), .val (.int bb), .val (.double y1), .second, .val (.double y2), .second, .val (.ref b__41), .val (.ref b__42), .val (.ref b__46), .val (.ref b_52), .val (.ref b_60), .unset] [])
      refine Go.st (fun _ => XS.iloadN X_69.here hx rfl (hb hby at_159) rfl) ?_
      show Go p e below s _ _ _ T_69 (mkF m 160 #[.val (.int fl), .val (.int na), .val (.int nb), .val (.int nc), .val (.int (1 : Int32)), .val (.ref u_AWARE), .val (.int bb), .val (.double y1), .second, .val (.double y2), .second, .val (.ref b__41), .val (.ref b__42), .val (.ref b__46), .val (.ref b_52), .val (.ref b_60), .unset] [(.int na)])
      refine Go.st (fun _ => XS.iload X_69.here hx rfl (hb hby at_160) rfl) ?_
      show Go p e below s _ _ _ T_69 (mkF m 162 #[.val (.int fl), .val (.int na), .val (.int nb), .val (.int nc), .val (.int (1 : Int32)), .val (.ref u_AWARE), .val (.int bb), .val (.double y1), .second, .val (.double y2), .second, .val (.ref b__41), .val (.ref b__42), .val (.ref b__46), .val (.ref b_52), .val (.ref b_60), .unset] [(.int bb), (.int na)])
      by_cases hc_70 : na = bb
      · refine Go.st (fun _ => XS.icmpNo X_69.here hx rfl (hb hby at_162) rfl (teq hc_70).2) ?_
        show Go p e below s _ _ _ T_69 (mkF m 165 #[.val (.int fl), .val (.int na), .val (.int nb), .val (.int nc), .val (.int (1 : Int32)), .val (.ref u_AWARE), .val (.int bb), .val (.double y1), .second, .val (.double y2), .second, .val (.ref b__41), .val (.ref b__42), .val (.ref b__46), .val (.ref b_52), .val (.ref b_60), .unset] [])
        refine Go.st (fun _ => XS.iconst X_69.here hx rfl (hb hby at_165)) ?_
        show Go p e below s _ _ _ T_69 (mkF m 166 #[.val (.int fl), .val (.int na), .val (.int nb), .val (.int nc), .val (.int (1 : Int32)), .val (.ref u_AWARE), .val (.int bb), .val (.double y1), .second, .val (.double y2), .second, .val (.ref b__41), .val (.ref b__42), .val (.ref b__46), .val (.ref b_52), .val (.ref b_60), .unset] [(.int (1 : Int32))])
        refine Go.st (fun _ => XS.goto X_69.here hx rfl (pc0 := 166) (pc' := 170) rfl (hb hby at_166) (by decide) (by decide)) ?_
        show Go p e below s _ _ _ T_69 (mkF m 170 #[.val (.int fl), .val (.int na), .val (.int nb), .val (.int nc), .val (.int (1 : Int32)), .val (.ref u_AWARE), .val (.int bb), .val (.double y1), .second, .val (.double y2), .second, .val (.ref b__41), .val (.ref b__42), .val (.ref b__46), .val (.ref b_52), .val (.ref b_60), .unset] [(.int (1 : Int32))])
        refine Go.st (fun _ => XS.istore X_69.here hx rfl (hb hby at_170) rfl (l' := #[.val (.int fl), .val (.int na), .val (.int nb), .val (.int nc), .val (.int (1 : Int32)), .val (.ref u_AWARE), .val (.int bb), .val (.double y1), .second, .val (.double y2), .second, .val (.ref b__41), .val (.ref b__42), .val (.ref b__46), .val (.ref b_52), .val (.ref b_60), .val (.int (1 : Int32))]) rfl) ?_
        show Go p e below s _ _ _ T_69 (mkF m 172 #[.val (.int fl), .val (.int na), .val (.int nb), .val (.int nc), .val (.int (1 : Int32)), .val (.ref u_AWARE), .val (.int bb), .val (.double y1), .second, .val (.double y2), .second, .val (.ref b__41), .val (.ref b__42), .val (.ref b__46), .val (.ref b_52), .val (.ref b_60), .val (.int (1 : Int32))] [])
        refine Go.st (fun _ => XS.aload X_69.here hx rfl (hb hby at_172) rfl rfl) ?_
        show Go p e below s _ _ _ T_69 (mkF m 174 #[.val (.int fl), .val (.int na), .val (.int nb), .val (.int nc), .val (.int (1 : Int32)), .val (.ref u_AWARE), .val (.int bb), .val (.double y1), .second, .val (.double y2), .second, .val (.ref b__41), .val (.ref b__42), .val (.ref b__46), .val (.ref b_52), .val (.ref b_60), .val (.int (1 : Int32))] [(.ref u_AWARE)])
        refine Go.st (fun _ => XS.aload X_69.here hx rfl (hb hby at_174) rfl rfl) ?_
        show Go p e below s _ _ _ T_69 (mkF m 176 #[.val (.int fl), .val (.int na), .val (.int nb), .val (.int nc), .val (.int (1 : Int32)), .val (.ref u_AWARE), .val (.int bb), .val (.double y1), .second, .val (.double y2), .second, .val (.ref b__41), .val (.ref b__42), .val (.ref b__46), .val (.ref b_52), .val (.ref b_60), .val (.int (1 : Int32))] [(.ref b_52), (.ref u_AWARE)])
        refine Go.st (fun _ => XS.aload X_69.here hx rfl (hb hby at_176) rfl rfl) ?_
        show Go p e below s _ _ _ T_69 (mkF m 178 #[.val (.int fl), .val (.int na), .val (.int nb), .val (.int nc), .val (.int (1 : Int32)), .val (.ref u_AWARE), .val (.int bb), .val (.double y1), .second, .val (.double y2), .second, .val (.ref b__41), .val (.ref b__42), .val (.ref b__46), .val (.ref b_52), .val (.ref b_60), .val (.int (1 : Int32))] [(.ref b_60), (.ref b_52), (.ref u_AWARE)])
        have f_72 := (((((((F_groupsEqualScores_u_AWARE.keep K_41 nin0).keep K_42 nin0).keep K_46 nin0).ext E_52).keep K_59 (ninS ne_u_AWARE_b_52 nin0)).ext E_60).keep K_69 (ninS ne_u_AWARE_b_60 nin0))
        have f_73 := ((p_59_0.ext E_60).keep K_69)
        have f_74 := ((p_59_1.ext E_60).keep K_69 (ninS ne_b_52_b_60 nin0))
        have f_75 := ((f_62.ext E_60).keep K_69)
        obtain ⟨cq_71, kq_71, q_71a, q_71b, q_71c⟩ := isOf hZ e_69 f_75
        obtain ⟨_, _, ⟨T_71, L_71, kc_71, nc_71⟩, -, X_71, ⟨Lc_71, hQ_71, l_71, y_71, z_71⟩, st_71⟩ := X_69.virtualBack hx (y := (⟨"com/example/sift_sentences/siftsentences/eval/TieRule", "groups", "(Lcom/example/sift_sentences/siftsentences/trec/RunLine;Lcom/example/sift_sentences/siftsentences/trec/RunLine;)Z"⟩ : MethodName)) (z := (⟨"com/example/sift_sentences/siftsentences/eval/TieRule", "groups", "(Lcom/example/sift_sentences/siftsentences/trec/RunLine;Lcom/example/sift_sentences/siftsentences/trec/RunLine;)Z"⟩ : MethodName)) hown (mvT hZ (hw _ (List.mem_of_getElem? (i := 42) rfl))) (mvT hZ (hw _ (List.mem_of_getElem? (i := 43) rfl))) (notFace_of_selects (args := #[]) (mvT hZ (hw _ (List.mem_of_getElem? (i := 45) rfl)))) (mvT hZ (hw _ (List.mem_of_getElem? (i := 45) rfl))) (mvT hZ (hw _ (List.mem_of_getElem? (i := 44) rfl))) (by decide) (backOf (W := 0) (rmG1 l Z a0 hw [] u_AWARE b_52 b_60 y1 y2 h_69 n0 z_69q f_72 f_73 p_69_0 f_74 p_69_1) hZ (hw _ (List.mem_of_getElem? (i := 46) rfl)) (hw _ (List.mem_of_getElem? (i := 1) rfl)) (by decide) (by decide)) q_71a q_71c (g := (mkF m 178 #[.val (.int fl), .val (.int na), .val (.int nb), .val (.int nc), .val (.int (1 : Int32)), .val (.ref u_AWARE), .val (.int bb), .val (.double y1), .second, .val (.double y2), .second, .val (.ref b__41), .val (.ref b__42), .val (.ref b__46), .val (.ref b_52), .val (.ref b_60), .val (.int (1 : Int32))] [(.ref b_60), (.ref b_52), (.ref u_AWARE)])) rfl (by rw [hml]; rfl) (Steps.refl _) (argsL := [(.ref b_52), (.ref b_60)]) (rest := []) (lenOf pd_6 rfl) rfl (by show 2 * 0 + _ ≤ _; exact Nat.le_of_eq rfl) (hb hby at_178) (fun _ _ => ⟨rfl, e_69, (by decide : 8 + 0 ≤ _), (by decide : 21 + 0 ≤ _)⟩)
        dsimp only [Pt.U, Pt.locs, Pt.cells, Pt.slots] at X_71 l_71 y_71 z_71 st_71 hQ_71
        obtain rfl : kc_71 = 8 := y_71
        obtain rfl : nc_71 = 21 := z_71
        obtain ⟨h_71, e_71⟩ : ∃ hh, T_71.heap = hh := ⟨_, rfl⟩
        rw [e_71] at hQ_71
        obtain ⟨rfl, N_71q, sm_71⟩ := hQ_71
        have N_71 : Fr n0 L_71 := by rw [l_71]; exact Fr.app N_69 N_71q
        refine Go.st (fun _ kk => st_71.trans kk) ?_
        rw [sm_71] at e_71
        show Go p e below s _ _ _ T_71 (mkF m 181 #[.val (.int fl), .val (.int na), .val (.int nb), .val (.int nc), .val (.int (1 : Int32)), .val (.ref u_AWARE), .val (.int bb), .val (.double y1), .second, .val (.double y2), .second, .val (.ref b__41), .val (.ref b__42), .val (.ref b__46), .val (.ref b_52), .val (.ref b_60), .val (.int (1 : Int32))] [(.int (b2i ((cmpValue (FP.dcmp y1 y2) .l) = (0 : Int32))))])
        rw [show (b2i ((cmpValue (FP.dcmp y1 y2) .l) = (0 : Int32))) = (1 : Int32) from b2i_pos ((own_dc hya hyb).mpr hc_70)]
        show Go p e below s _ _ _ T_71 (mkF m 181 #[.val (.int fl), .val (.int na), .val (.int nb), .val (.int nc), .val (.int (1 : Int32)), .val (.ref u_AWARE), .val (.int bb), .val (.double y1), .second, .val (.double y2), .second, .val (.ref b__41), .val (.ref b__42), .val (.ref b__46), .val (.ref b_52), .val (.ref b_60), .val (.int (1 : Int32))] [(.int (1 : Int32))])
        refine Go.st (fun _ => XS.iload X_71.here hx rfl (hb hby at_181) rfl) ?_
        show Go p e below s _ _ _ T_71 (mkF m 183 #[.val (.int fl), .val (.int na), .val (.int nb), .val (.int nc), .val (.int (1 : Int32)), .val (.ref u_AWARE), .val (.int bb), .val (.double y1), .second, .val (.double y2), .second, .val (.ref b__41), .val (.ref b__42), .val (.ref b__46), .val (.ref b_52), .val (.ref b_60), .val (.int (1 : Int32))] [(.int (1 : Int32)), (.int (1 : Int32))])
        refine Go.st (fun _ => XS.icmpNo X_71.here hx rfl (hb hby at_183) rfl (teq (by decide : (1 : Int32) = (1 : Int32))).2) ?_
        show Go p e below s _ _ _ T_71 (mkF m 186 #[.val (.int fl), .val (.int na), .val (.int nb), .val (.int nc), .val (.int (1 : Int32)), .val (.ref u_AWARE), .val (.int bb), .val (.double y1), .second, .val (.double y2), .second, .val (.ref b__41), .val (.ref b__42), .val (.ref b__46), .val (.ref b_52), .val (.ref b_60), .val (.int (1 : Int32))] [])
        refine Go.st (fun _ => XS.iconst X_71.here hx rfl (hb hby at_186)) ?_
        show Go p e below s _ _ _ T_71 (mkF m 187 #[.val (.int fl), .val (.int na), .val (.int nb), .val (.int nc), .val (.int (1 : Int32)), .val (.ref u_AWARE), .val (.int bb), .val (.double y1), .second, .val (.double y2), .second, .val (.ref b__41), .val (.ref b__42), .val (.ref b__46), .val (.ref b_52), .val (.ref b_60), .val (.int (1 : Int32))] [(.int (1 : Int32))])
        refine Go.st (fun _ => XS.goto X_71.here hx rfl (pc0 := 187) (pc' := 191) rfl (hb hby at_187) (by decide) (by decide)) ?_
        show Go p e below s _ _ _ T_71 (mkF m 191 #[.val (.int fl), .val (.int na), .val (.int nb), .val (.int nc), .val (.int (1 : Int32)), .val (.ref u_AWARE), .val (.int bb), .val (.double y1), .second, .val (.double y2), .second, .val (.ref b__41), .val (.ref b__42), .val (.ref b__46), .val (.ref b_52), .val (.ref b_60), .val (.int (1 : Int32))] [(.int (1 : Int32))])
        exact Go.retZ X_71 hx hlk Bd.returns (hb hby at_191) rfl (by rw [e_71]; exact ⟨rfl, N_71⟩) (by decide) (by decide)
      · refine Go.st (fun _ => XS.icmpYes X_69.here hx rfl (pc0 := 162) (pc' := 169) rfl (hb hby at_162) rfl (feq hc_70).2 (by decide) (by decide)) ?_
        show Go p e below s _ _ _ T_69 (mkF m 169 #[.val (.int fl), .val (.int na), .val (.int nb), .val (.int nc), .val (.int (1 : Int32)), .val (.ref u_AWARE), .val (.int bb), .val (.double y1), .second, .val (.double y2), .second, .val (.ref b__41), .val (.ref b__42), .val (.ref b__46), .val (.ref b_52), .val (.ref b_60), .unset] [])
        refine Go.st (fun _ => XS.iconst X_69.here hx rfl (hb hby at_169)) ?_
        show Go p e below s _ _ _ T_69 (mkF m 170 #[.val (.int fl), .val (.int na), .val (.int nb), .val (.int nc), .val (.int (1 : Int32)), .val (.ref u_AWARE), .val (.int bb), .val (.double y1), .second, .val (.double y2), .second, .val (.ref b__41), .val (.ref b__42), .val (.ref b__46), .val (.ref b_52), .val (.ref b_60), .unset] [(.int (0 : Int32))])
        refine Go.st (fun _ => XS.istore X_69.here hx rfl (hb hby at_170) rfl (l' := #[.val (.int fl), .val (.int na), .val (.int nb), .val (.int nc), .val (.int (1 : Int32)), .val (.ref u_AWARE), .val (.int bb), .val (.double y1), .second, .val (.double y2), .second, .val (.ref b__41), .val (.ref b__42), .val (.ref b__46), .val (.ref b_52), .val (.ref b_60), .val (.int (0 : Int32))]) rfl) ?_
        show Go p e below s _ _ _ T_69 (mkF m 172 #[.val (.int fl), .val (.int na), .val (.int nb), .val (.int nc), .val (.int (1 : Int32)), .val (.ref u_AWARE), .val (.int bb), .val (.double y1), .second, .val (.double y2), .second, .val (.ref b__41), .val (.ref b__42), .val (.ref b__46), .val (.ref b_52), .val (.ref b_60), .val (.int (0 : Int32))] [])
        refine Go.st (fun _ => XS.aload X_69.here hx rfl (hb hby at_172) rfl rfl) ?_
        show Go p e below s _ _ _ T_69 (mkF m 174 #[.val (.int fl), .val (.int na), .val (.int nb), .val (.int nc), .val (.int (1 : Int32)), .val (.ref u_AWARE), .val (.int bb), .val (.double y1), .second, .val (.double y2), .second, .val (.ref b__41), .val (.ref b__42), .val (.ref b__46), .val (.ref b_52), .val (.ref b_60), .val (.int (0 : Int32))] [(.ref u_AWARE)])
        refine Go.st (fun _ => XS.aload X_69.here hx rfl (hb hby at_174) rfl rfl) ?_
        show Go p e below s _ _ _ T_69 (mkF m 176 #[.val (.int fl), .val (.int na), .val (.int nb), .val (.int nc), .val (.int (1 : Int32)), .val (.ref u_AWARE), .val (.int bb), .val (.double y1), .second, .val (.double y2), .second, .val (.ref b__41), .val (.ref b__42), .val (.ref b__46), .val (.ref b_52), .val (.ref b_60), .val (.int (0 : Int32))] [(.ref b_52), (.ref u_AWARE)])
        refine Go.st (fun _ => XS.aload X_69.here hx rfl (hb hby at_176) rfl rfl) ?_
        show Go p e below s _ _ _ T_69 (mkF m 178 #[.val (.int fl), .val (.int na), .val (.int nb), .val (.int nc), .val (.int (1 : Int32)), .val (.ref u_AWARE), .val (.int bb), .val (.double y1), .second, .val (.double y2), .second, .val (.ref b__41), .val (.ref b__42), .val (.ref b__46), .val (.ref b_52), .val (.ref b_60), .val (.int (0 : Int32))] [(.ref b_60), (.ref b_52), (.ref u_AWARE)])
        have f_77 := (((((((F_groupsEqualScores_u_AWARE.keep K_41 nin0).keep K_42 nin0).keep K_46 nin0).ext E_52).keep K_59 (ninS ne_u_AWARE_b_52 nin0)).ext E_60).keep K_69 (ninS ne_u_AWARE_b_60 nin0))
        have f_78 := ((p_59_0.ext E_60).keep K_69)
        have f_79 := ((p_59_1.ext E_60).keep K_69 (ninS ne_b_52_b_60 nin0))
        have f_80 := ((f_62.ext E_60).keep K_69)
        obtain ⟨cq_76, kq_76, q_76a, q_76b, q_76c⟩ := isOf hZ e_69 f_80
        obtain ⟨_, _, ⟨T_76, L_76, kc_76, nc_76⟩, -, X_76, ⟨Lc_76, hQ_76, l_76, y_76, z_76⟩, st_76⟩ := X_69.virtualBack hx (y := (⟨"com/example/sift_sentences/siftsentences/eval/TieRule", "groups", "(Lcom/example/sift_sentences/siftsentences/trec/RunLine;Lcom/example/sift_sentences/siftsentences/trec/RunLine;)Z"⟩ : MethodName)) (z := (⟨"com/example/sift_sentences/siftsentences/eval/TieRule", "groups", "(Lcom/example/sift_sentences/siftsentences/trec/RunLine;Lcom/example/sift_sentences/siftsentences/trec/RunLine;)Z"⟩ : MethodName)) hown (mvT hZ (hw _ (List.mem_of_getElem? (i := 42) rfl))) (mvT hZ (hw _ (List.mem_of_getElem? (i := 43) rfl))) (notFace_of_selects (args := #[]) (mvT hZ (hw _ (List.mem_of_getElem? (i := 45) rfl)))) (mvT hZ (hw _ (List.mem_of_getElem? (i := 45) rfl))) (mvT hZ (hw _ (List.mem_of_getElem? (i := 44) rfl))) (by decide) (backOf (W := 0) (rmG1 l Z a0 hw [] u_AWARE b_52 b_60 y1 y2 h_69 n0 z_69q f_77 f_78 p_69_0 f_79 p_69_1) hZ (hw _ (List.mem_of_getElem? (i := 46) rfl)) (hw _ (List.mem_of_getElem? (i := 1) rfl)) (by decide) (by decide)) q_76a q_76c (g := (mkF m 178 #[.val (.int fl), .val (.int na), .val (.int nb), .val (.int nc), .val (.int (1 : Int32)), .val (.ref u_AWARE), .val (.int bb), .val (.double y1), .second, .val (.double y2), .second, .val (.ref b__41), .val (.ref b__42), .val (.ref b__46), .val (.ref b_52), .val (.ref b_60), .val (.int (0 : Int32))] [(.ref b_60), (.ref b_52), (.ref u_AWARE)])) rfl (by rw [hml]; rfl) (Steps.refl _) (argsL := [(.ref b_52), (.ref b_60)]) (rest := []) (lenOf pd_6 rfl) rfl (by show 2 * 0 + _ ≤ _; exact Nat.le_of_eq rfl) (hb hby at_178) (fun _ _ => ⟨rfl, e_69, (by decide : 8 + 0 ≤ _), (by decide : 21 + 0 ≤ _)⟩)
        dsimp only [Pt.U, Pt.locs, Pt.cells, Pt.slots] at X_76 l_76 y_76 z_76 st_76 hQ_76
        obtain rfl : kc_76 = 8 := y_76
        obtain rfl : nc_76 = 21 := z_76
        obtain ⟨h_76, e_76⟩ : ∃ hh, T_76.heap = hh := ⟨_, rfl⟩
        rw [e_76] at hQ_76
        obtain ⟨rfl, N_76q, sm_76⟩ := hQ_76
        have N_76 : Fr n0 L_76 := by rw [l_76]; exact Fr.app N_69 N_76q
        refine Go.st (fun _ kk => st_76.trans kk) ?_
        rw [sm_76] at e_76
        show Go p e below s _ _ _ T_76 (mkF m 181 #[.val (.int fl), .val (.int na), .val (.int nb), .val (.int nc), .val (.int (1 : Int32)), .val (.ref u_AWARE), .val (.int bb), .val (.double y1), .second, .val (.double y2), .second, .val (.ref b__41), .val (.ref b__42), .val (.ref b__46), .val (.ref b_52), .val (.ref b_60), .val (.int (0 : Int32))] [(.int (b2i ((cmpValue (FP.dcmp y1 y2) .l) = (0 : Int32))))])
        rw [show (b2i ((cmpValue (FP.dcmp y1 y2) .l) = (0 : Int32))) = (0 : Int32) from b2i_neg (fun q => hc_70 ((own_dc hya hyb).mp q))]
        show Go p e below s _ _ _ T_76 (mkF m 181 #[.val (.int fl), .val (.int na), .val (.int nb), .val (.int nc), .val (.int (1 : Int32)), .val (.ref u_AWARE), .val (.int bb), .val (.double y1), .second, .val (.double y2), .second, .val (.ref b__41), .val (.ref b__42), .val (.ref b__46), .val (.ref b_52), .val (.ref b_60), .val (.int (0 : Int32))] [(.int (0 : Int32))])
        refine Go.st (fun _ => XS.iload X_76.here hx rfl (hb hby at_181) rfl) ?_
        show Go p e below s _ _ _ T_76 (mkF m 183 #[.val (.int fl), .val (.int na), .val (.int nb), .val (.int nc), .val (.int (1 : Int32)), .val (.ref u_AWARE), .val (.int bb), .val (.double y1), .second, .val (.double y2), .second, .val (.ref b__41), .val (.ref b__42), .val (.ref b__46), .val (.ref b_52), .val (.ref b_60), .val (.int (0 : Int32))] [(.int (0 : Int32)), (.int (0 : Int32))])
        refine Go.st (fun _ => XS.icmpNo X_76.here hx rfl (hb hby at_183) rfl (teq (by decide : (0 : Int32) = (0 : Int32))).2) ?_
        show Go p e below s _ _ _ T_76 (mkF m 186 #[.val (.int fl), .val (.int na), .val (.int nb), .val (.int nc), .val (.int (1 : Int32)), .val (.ref u_AWARE), .val (.int bb), .val (.double y1), .second, .val (.double y2), .second, .val (.ref b__41), .val (.ref b__42), .val (.ref b__46), .val (.ref b_52), .val (.ref b_60), .val (.int (0 : Int32))] [])
        refine Go.st (fun _ => XS.iconst X_76.here hx rfl (hb hby at_186)) ?_
        show Go p e below s _ _ _ T_76 (mkF m 187 #[.val (.int fl), .val (.int na), .val (.int nb), .val (.int nc), .val (.int (1 : Int32)), .val (.ref u_AWARE), .val (.int bb), .val (.double y1), .second, .val (.double y2), .second, .val (.ref b__41), .val (.ref b__42), .val (.ref b__46), .val (.ref b_52), .val (.ref b_60), .val (.int (0 : Int32))] [(.int (1 : Int32))])
        refine Go.st (fun _ => XS.goto X_76.here hx rfl (pc0 := 187) (pc' := 191) rfl (hb hby at_187) (by decide) (by decide)) ?_
        show Go p e below s _ _ _ T_76 (mkF m 191 #[.val (.int fl), .val (.int na), .val (.int nb), .val (.int nc), .val (.int (1 : Int32)), .val (.ref u_AWARE), .val (.int bb), .val (.double y1), .second, .val (.double y2), .second, .val (.ref b__41), .val (.ref b__42), .val (.ref b__46), .val (.ref b_52), .val (.ref b_60), .val (.int (0 : Int32))] [(.int (1 : Int32))])
        exact Go.retZ X_76 hx hlk Bd.returns (hb hby at_191) rfl (by rw [e_76]; exact ⟨rfl, N_76⟩) (by decide) (by decide)
    have JB : ∀ (TJB : State) (locsJB : List Loc) (XJB : Stand p l e room_1 s m #[(.int fl), (.int na), (.int nb), (.int nc)] below meth c TJB locsJB 0 0) (eJB : TJB.heap = h0) (NJB : Fr n0 locsJB) (bb : Int32) (y1 : UInt64) (hya : FP.Core.DInt na.toInt y1), Go p e below s (Qrm0 Z fl na nb nc u_TREC u_AWARE cs h0 n0) room_1.cells room_1.slots TJB (mkF m 62 #[.val (.int fl), .val (.int na), .val (.int nb), .val (.int nc), .val (.int (1 : Int32)), .val (.ref u_AWARE), .val (.int bb), .val (.double y1), .second, .unset, .unset, .unset, .unset, .unset, .unset, .unset, .unset] []) := by
      intro TJB locsJB XJB eJB NJB bb y1 hya
      refine Go.st (fun _ => XS.iload XJB.here hx rfl (hb hby at_62) rfl) ?_
      show Go p e below s _ _ _ TJB (mkF m 64 #[.val (.int fl), .val (.int na), .val (.int nb), .val (.int nc), .val (.int (1 : Int32)), .val (.ref u_AWARE), .val (.int bb), .val (.double y1), .second, .unset, .unset, .unset, .unset, .unset, .unset, .unset, .unset] [(.int bb)])
      by_cases hc_81 : bb = (0 : Int32)
      · refine Go.st (fun _ => XS.ifNo XJB.here hx rfl (hb hby at_64) rfl ((if0 _ _).trans (teq hc_81).2)) ?_
        show Go p e below s _ _ _ TJB (mkF m 67 #[.val (.int fl), .val (.int na), .val (.int nb), .val (.int nc), .val (.int (1 : Int32)), .val (.ref u_AWARE), .val (.int bb), .val (.double y1), .second, .unset, .unset, .unset, .unset, .unset, .unset, .unset, .unset] [])
        refine Go.st (fun _ => XS.iloadN XJB.here hx rfl (hb hby at_67) rfl) ?_
        show Go p e below s _ _ _ TJB (mkF m 68 #[.val (.int fl), .val (.int na), .val (.int nb), .val (.int nc), .val (.int (1 : Int32)), .val (.ref u_AWARE), .val (.int bb), .val (.double y1), .second, .unset, .unset, .unset, .unset, .unset, .unset, .unset, .unset] [(.int fl)])
        refine Go.st (fun _ => XS.bipush XJB.here hx rfl (hb hby at_68)) ?_
        show Go p e below s _ _ _ TJB (mkF m 70 #[.val (.int fl), .val (.int na), .val (.int nb), .val (.int nc), .val (.int (1 : Int32)), .val (.ref u_AWARE), .val (.int bb), .val (.double y1), .second, .unset, .unset, .unset, .unset, .unset, .unset, .unset, .unset] [(.int (8 : Int32)), (.int fl)])
        refine Go.st (fun _ => XS.iand XJB.here hx rfl (hb hby at_70) rfl) ?_
        show Go p e below s _ _ _ TJB (mkF m 71 #[.val (.int fl), .val (.int na), .val (.int nb), .val (.int nc), .val (.int (1 : Int32)), .val (.ref u_AWARE), .val (.int bb), .val (.double y1), .second, .unset, .unset, .unset, .unset, .unset, .unset, .unset, .unset] [(.int (fl &&& (8 : Int32)))])
        by_cases hc_82 : (fl &&& (8 : Int32)) = (0 : Int32)
        · refine Go.st (fun _ => XS.ifYes XJB.here hx rfl (pc0 := 71) (pc' := 80) rfl (hb hby at_71) rfl ((if0 _ _).trans (teq hc_82).1) (by decide) (by decide)) ?_
          show Go p e below s _ _ _ TJB (mkF m 80 #[.val (.int fl), .val (.int na), .val (.int nb), .val (.int nc), .val (.int (1 : Int32)), .val (.ref u_AWARE), .val (.int bb), .val (.double y1), .second, .unset, .unset, .unset, .unset, .unset, .unset, .unset, .unset] [])
          refine Go.st (fun _ => XS.iload XJB.here hx rfl (hb hby at_80) rfl) ?_
          show Go p e below s _ _ _ TJB (mkF m 82 #[.val (.int fl), .val (.int na), .val (.int nb), .val (.int nc), .val (.int (1 : Int32)), .val (.ref u_AWARE), .val (.int bb), .val (.double y1), .second, .unset, .unset, .unset, .unset, .unset, .unset, .unset, .unset] [(.int bb)])
          refine Go.st (fun _ => XS.i2dS XJB.here hx rfl (hb hby at_82) rfl rfl) ?_
          show Go p e below s _ _ _ TJB (mkF m 83 #[.val (.int fl), .val (.int na), .val (.int nb), .val (.int nc), .val (.int (1 : Int32)), .val (.ref u_AWARE), .val (.int bb), .val (.double y1), .second, .unset, .unset, .unset, .unset, .unset, .unset, .unset, .unset] [(.double (FP.i2d bb))])
          refine Go.st (fun _ => XS.dstore XJB.here hx rfl (hb hby at_83) rfl (l' := #[.val (.int fl), .val (.int na), .val (.int nb), .val (.int nc), .val (.int (1 : Int32)), .val (.ref u_AWARE), .val (.int bb), .val (.double y1), .second, .val (.double (FP.i2d bb)), .second, .unset, .unset, .unset, .unset, .unset, .unset]) rfl) ?_
          show Go p e below s _ _ _ TJB (mkF m 85 #[.val (.int fl), .val (.int na), .val (.int nb), .val (.int nc), .val (.int (1 : Int32)), .val (.ref u_AWARE), .val (.int bb), .val (.double y1), .second, .val (.double (FP.i2d bb)), .second, .unset, .unset, .unset, .unset, .unset, .unset] [])
          exact JC TJB _ XJB eJB NJB bb y1 (FP.i2d bb) hya (FP.Core.i2d_int bb)
        · refine Go.st (fun _ => XS.ifNo XJB.here hx rfl (hb hby at_71) rfl ((if0 _ _).trans (feq hc_82).1)) ?_
          show Go p e below s _ _ _ TJB (mkF m 74 #[.val (.int fl), .val (.int na), .val (.int nb), .val (.int nc), .val (.int (1 : Int32)), .val (.ref u_AWARE), .val (.int bb), .val (.double y1), .second, .unset, .unset, .unset, .unset, .unset, .unset, .unset, .unset] [])
          refine Go.st (fun tG => XJB.ldc2DoubleC hx hown (mvT hZ (hw _ (List.mem_of_getElem? (i := 56) rfl))) (g := (mkF m 74 #[.val (.int fl), .val (.int na), .val (.int nb), .val (.int nc), .val (.int (1 : Int32)), .val (.ref u_AWARE), .val (.int bb), .val (.double y1), .second, .unset, .unset, .unset, .unset, .unset, .unset, .unset, .unset] [])) rfl (hb hby at_74) tG) ?_
          show Go p e below s _ _ _ TJB (mkF m 77 #[.val (.int fl), .val (.int na), .val (.int nb), .val (.int nc), .val (.int (1 : Int32)), .val (.ref u_AWARE), .val (.int bb), .val (.double y1), .second, .unset, .unset, .unset, .unset, .unset, .unset, .unset, .unset] [(.double (9223372036854775808 : UInt64))])
          refine Go.st (fun _ => XS.goto XJB.here hx rfl (pc0 := 77) (pc' := 83) rfl (hb hby at_77) (by decide) (by decide)) ?_
          show Go p e below s _ _ _ TJB (mkF m 83 #[.val (.int fl), .val (.int na), .val (.int nb), .val (.int nc), .val (.int (1 : Int32)), .val (.ref u_AWARE), .val (.int bb), .val (.double y1), .second, .unset, .unset, .unset, .unset, .unset, .unset, .unset, .unset] [(.double (9223372036854775808 : UInt64))])
          refine Go.st (fun _ => XS.dstore XJB.here hx rfl (hb hby at_83) rfl (l' := #[.val (.int fl), .val (.int na), .val (.int nb), .val (.int nc), .val (.int (1 : Int32)), .val (.ref u_AWARE), .val (.int bb), .val (.double y1), .second, .val (.double (9223372036854775808 : UInt64)), .second, .unset, .unset, .unset, .unset, .unset, .unset]) rfl) ?_
          show Go p e below s _ _ _ TJB (mkF m 85 #[.val (.int fl), .val (.int na), .val (.int nb), .val (.int nc), .val (.int (1 : Int32)), .val (.ref u_AWARE), .val (.int bb), .val (.double y1), .second, .val (.double (9223372036854775808 : UInt64)), .second, .unset, .unset, .unset, .unset, .unset, .unset] [])
          exact JC TJB _ XJB eJB NJB bb y1 (9223372036854775808 : UInt64) hya (own_negz hc_81)
      · refine Go.st (fun _ => XS.ifYes XJB.here hx rfl (pc0 := 64) (pc' := 80) rfl (hb hby at_64) rfl ((if0 _ _).trans (feq hc_81).2) (by decide) (by decide)) ?_
        show Go p e below s _ _ _ TJB (mkF m 80 #[.val (.int fl), .val (.int na), .val (.int nb), .val (.int nc), .val (.int (1 : Int32)), .val (.ref u_AWARE), .val (.int bb), .val (.double y1), .second, .unset, .unset, .unset, .unset, .unset, .unset, .unset, .unset] [])
        refine Go.st (fun _ => XS.iload XJB.here hx rfl (hb hby at_80) rfl) ?_
        show Go p e below s _ _ _ TJB (mkF m 82 #[.val (.int fl), .val (.int na), .val (.int nb), .val (.int nc), .val (.int (1 : Int32)), .val (.ref u_AWARE), .val (.int bb), .val (.double y1), .second, .unset, .unset, .unset, .unset, .unset, .unset, .unset, .unset] [(.int bb)])
        refine Go.st (fun _ => XS.i2dS XJB.here hx rfl (hb hby at_82) rfl rfl) ?_
        show Go p e below s _ _ _ TJB (mkF m 83 #[.val (.int fl), .val (.int na), .val (.int nb), .val (.int nc), .val (.int (1 : Int32)), .val (.ref u_AWARE), .val (.int bb), .val (.double y1), .second, .unset, .unset, .unset, .unset, .unset, .unset, .unset, .unset] [(.double (FP.i2d bb))])
        refine Go.st (fun _ => XS.dstore XJB.here hx rfl (hb hby at_83) rfl (l' := #[.val (.int fl), .val (.int na), .val (.int nb), .val (.int nc), .val (.int (1 : Int32)), .val (.ref u_AWARE), .val (.int bb), .val (.double y1), .second, .val (.double (FP.i2d bb)), .second, .unset, .unset, .unset, .unset, .unset, .unset]) rfl) ?_
        show Go p e below s _ _ _ TJB (mkF m 85 #[.val (.int fl), .val (.int na), .val (.int nb), .val (.int nc), .val (.int (1 : Int32)), .val (.ref u_AWARE), .val (.int bb), .val (.double y1), .second, .val (.double (FP.i2d bb)), .second, .unset, .unset, .unset, .unset, .unset, .unset] [])
        exact JC TJB _ XJB eJB NJB bb y1 (FP.i2d bb) hya (FP.Core.i2d_int bb)
    have JA : ∀ (TJA : State) (locsJA : List Loc) (XJA : Stand p l e room_1 s m #[(.int fl), (.int na), (.int nb), (.int nc)] below meth c TJA locsJA 0 0) (eJA : TJA.heap = h0) (NJA : Fr n0 locsJA) (bb : Int32), Go p e below s (Qrm0 Z fl na nb nc u_TREC u_AWARE cs h0 n0) room_1.cells room_1.slots TJA (mkF m 42 #[.val (.int fl), .val (.int na), .val (.int nb), .val (.int nc), .val (.int (1 : Int32)), .val (.ref u_AWARE), .val (.int bb), .unset, .unset, .unset, .unset, .unset, .unset, .unset, .unset, .unset, .unset] []) := by
      intro TJA locsJA XJA eJA NJA bb
      refine Go.st (fun _ => XS.iloadN XJA.here hx rfl (hb hby at_42) rfl) ?_
      show Go p e below s _ _ _ TJA (mkF m 43 #[.val (.int fl), .val (.int na), .val (.int nb), .val (.int nc), .val (.int (1 : Int32)), .val (.ref u_AWARE), .val (.int bb), .unset, .unset, .unset, .unset, .unset, .unset, .unset, .unset, .unset, .unset] [(.int na)])
      by_cases hc_83 : na = (0 : Int32)
      · refine Go.st (fun _ => XS.ifNo XJA.here hx rfl (hb hby at_43) rfl ((if0 _ _).trans (teq hc_83).2)) ?_
        show Go p e below s _ _ _ TJA (mkF m 46 #[.val (.int fl), .val (.int na), .val (.int nb), .val (.int nc), .val (.int (1 : Int32)), .val (.ref u_AWARE), .val (.int bb), .unset, .unset, .unset, .unset, .unset, .unset, .unset, .unset, .unset, .unset] [])
        refine Go.st (fun _ => XS.iloadN XJA.here hx rfl (hb hby at_46) rfl) ?_
        show Go p e below s _ _ _ TJA (mkF m 47 #[.val (.int fl), .val (.int na), .val (.int nb), .val (.int nc), .val (.int (1 : Int32)), .val (.ref u_AWARE), .val (.int bb), .unset, .unset, .unset, .unset, .unset, .unset, .unset, .unset, .unset, .unset] [(.int fl)])
        refine Go.st (fun _ => XS.iconst XJA.here hx rfl (hb hby at_47)) ?_
        show Go p e below s _ _ _ TJA (mkF m 48 #[.val (.int fl), .val (.int na), .val (.int nb), .val (.int nc), .val (.int (1 : Int32)), .val (.ref u_AWARE), .val (.int bb), .unset, .unset, .unset, .unset, .unset, .unset, .unset, .unset, .unset, .unset] [(.int (2 : Int32)), (.int fl)])
        refine Go.st (fun _ => XS.iand XJA.here hx rfl (hb hby at_48) rfl) ?_
        show Go p e below s _ _ _ TJA (mkF m 49 #[.val (.int fl), .val (.int na), .val (.int nb), .val (.int nc), .val (.int (1 : Int32)), .val (.ref u_AWARE), .val (.int bb), .unset, .unset, .unset, .unset, .unset, .unset, .unset, .unset, .unset, .unset] [(.int (fl &&& (2 : Int32)))])
        by_cases hc_84 : (fl &&& (2 : Int32)) = (0 : Int32)
        · refine Go.st (fun _ => XS.ifYes XJA.here hx rfl (pc0 := 49) (pc' := 58) rfl (hb hby at_49) rfl ((if0 _ _).trans (teq hc_84).1) (by decide) (by decide)) ?_
          show Go p e below s _ _ _ TJA (mkF m 58 #[.val (.int fl), .val (.int na), .val (.int nb), .val (.int nc), .val (.int (1 : Int32)), .val (.ref u_AWARE), .val (.int bb), .unset, .unset, .unset, .unset, .unset, .unset, .unset, .unset, .unset, .unset] [])
          refine Go.st (fun _ => XS.iloadN XJA.here hx rfl (hb hby at_58) rfl) ?_
          show Go p e below s _ _ _ TJA (mkF m 59 #[.val (.int fl), .val (.int na), .val (.int nb), .val (.int nc), .val (.int (1 : Int32)), .val (.ref u_AWARE), .val (.int bb), .unset, .unset, .unset, .unset, .unset, .unset, .unset, .unset, .unset, .unset] [(.int na)])
          refine Go.st (fun _ => XS.i2dS XJA.here hx rfl (hb hby at_59) rfl rfl) ?_
          show Go p e below s _ _ _ TJA (mkF m 60 #[.val (.int fl), .val (.int na), .val (.int nb), .val (.int nc), .val (.int (1 : Int32)), .val (.ref u_AWARE), .val (.int bb), .unset, .unset, .unset, .unset, .unset, .unset, .unset, .unset, .unset, .unset] [(.double (FP.i2d na))])
          refine Go.st (fun _ => XS.dstore XJA.here hx rfl (hb hby at_60) rfl (l' := #[.val (.int fl), .val (.int na), .val (.int nb), .val (.int nc), .val (.int (1 : Int32)), .val (.ref u_AWARE), .val (.int bb), .val (.double (FP.i2d na)), .second, .unset, .unset, .unset, .unset, .unset, .unset, .unset, .unset]) rfl) ?_
          show Go p e below s _ _ _ TJA (mkF m 62 #[.val (.int fl), .val (.int na), .val (.int nb), .val (.int nc), .val (.int (1 : Int32)), .val (.ref u_AWARE), .val (.int bb), .val (.double (FP.i2d na)), .second, .unset, .unset, .unset, .unset, .unset, .unset, .unset, .unset] [])
          exact JB TJA _ XJA eJA NJA bb (FP.i2d na) (FP.Core.i2d_int na)
        · refine Go.st (fun _ => XS.ifNo XJA.here hx rfl (hb hby at_49) rfl ((if0 _ _).trans (feq hc_84).1)) ?_
          show Go p e below s _ _ _ TJA (mkF m 52 #[.val (.int fl), .val (.int na), .val (.int nb), .val (.int nc), .val (.int (1 : Int32)), .val (.ref u_AWARE), .val (.int bb), .unset, .unset, .unset, .unset, .unset, .unset, .unset, .unset, .unset, .unset] [])
          refine Go.st (fun tG => XJA.ldc2DoubleC hx hown (mvT hZ (hw _ (List.mem_of_getElem? (i := 56) rfl))) (g := (mkF m 52 #[.val (.int fl), .val (.int na), .val (.int nb), .val (.int nc), .val (.int (1 : Int32)), .val (.ref u_AWARE), .val (.int bb), .unset, .unset, .unset, .unset, .unset, .unset, .unset, .unset, .unset, .unset] [])) rfl (hb hby at_52) tG) ?_
          show Go p e below s _ _ _ TJA (mkF m 55 #[.val (.int fl), .val (.int na), .val (.int nb), .val (.int nc), .val (.int (1 : Int32)), .val (.ref u_AWARE), .val (.int bb), .unset, .unset, .unset, .unset, .unset, .unset, .unset, .unset, .unset, .unset] [(.double (9223372036854775808 : UInt64))])
          refine Go.st (fun _ => XS.goto XJA.here hx rfl (pc0 := 55) (pc' := 60) rfl (hb hby at_55) (by decide) (by decide)) ?_
          show Go p e below s _ _ _ TJA (mkF m 60 #[.val (.int fl), .val (.int na), .val (.int nb), .val (.int nc), .val (.int (1 : Int32)), .val (.ref u_AWARE), .val (.int bb), .unset, .unset, .unset, .unset, .unset, .unset, .unset, .unset, .unset, .unset] [(.double (9223372036854775808 : UInt64))])
          refine Go.st (fun _ => XS.dstore XJA.here hx rfl (hb hby at_60) rfl (l' := #[.val (.int fl), .val (.int na), .val (.int nb), .val (.int nc), .val (.int (1 : Int32)), .val (.ref u_AWARE), .val (.int bb), .val (.double (9223372036854775808 : UInt64)), .second, .unset, .unset, .unset, .unset, .unset, .unset, .unset, .unset]) rfl) ?_
          show Go p e below s _ _ _ TJA (mkF m 62 #[.val (.int fl), .val (.int na), .val (.int nb), .val (.int nc), .val (.int (1 : Int32)), .val (.ref u_AWARE), .val (.int bb), .val (.double (9223372036854775808 : UInt64)), .second, .unset, .unset, .unset, .unset, .unset, .unset, .unset, .unset] [])
          exact JB TJA _ XJA eJA NJA bb (9223372036854775808 : UInt64) (own_negz hc_83)
      · refine Go.st (fun _ => XS.ifYes XJA.here hx rfl (pc0 := 43) (pc' := 58) rfl (hb hby at_43) rfl ((if0 _ _).trans (feq hc_83).2) (by decide) (by decide)) ?_
        show Go p e below s _ _ _ TJA (mkF m 58 #[.val (.int fl), .val (.int na), .val (.int nb), .val (.int nc), .val (.int (1 : Int32)), .val (.ref u_AWARE), .val (.int bb), .unset, .unset, .unset, .unset, .unset, .unset, .unset, .unset, .unset, .unset] [])
        refine Go.st (fun _ => XS.iloadN XJA.here hx rfl (hb hby at_58) rfl) ?_
        show Go p e below s _ _ _ TJA (mkF m 59 #[.val (.int fl), .val (.int na), .val (.int nb), .val (.int nc), .val (.int (1 : Int32)), .val (.ref u_AWARE), .val (.int bb), .unset, .unset, .unset, .unset, .unset, .unset, .unset, .unset, .unset, .unset] [(.int na)])
        refine Go.st (fun _ => XS.i2dS XJA.here hx rfl (hb hby at_59) rfl rfl) ?_
        show Go p e below s _ _ _ TJA (mkF m 60 #[.val (.int fl), .val (.int na), .val (.int nb), .val (.int nc), .val (.int (1 : Int32)), .val (.ref u_AWARE), .val (.int bb), .unset, .unset, .unset, .unset, .unset, .unset, .unset, .unset, .unset, .unset] [(.double (FP.i2d na))])
        refine Go.st (fun _ => XS.dstore XJA.here hx rfl (hb hby at_60) rfl (l' := #[.val (.int fl), .val (.int na), .val (.int nb), .val (.int nc), .val (.int (1 : Int32)), .val (.ref u_AWARE), .val (.int bb), .val (.double (FP.i2d na)), .second, .unset, .unset, .unset, .unset, .unset, .unset, .unset, .unset]) rfl) ?_
        show Go p e below s _ _ _ TJA (mkF m 62 #[.val (.int fl), .val (.int na), .val (.int nb), .val (.int nc), .val (.int (1 : Int32)), .val (.ref u_AWARE), .val (.int bb), .val (.double (FP.i2d na)), .second, .unset, .unset, .unset, .unset, .unset, .unset, .unset, .unset] [])
        exact JB TJA _ XJA eJA NJA bb (FP.i2d na) (FP.Core.i2d_int na)
    refine Go.st (fun _ => XS.iloadN X_40.here hx rfl (hb hby at_29) rfl) ?_
    show Go p e below s _ _ _ T_40 (mkF m 30 #[.val (.int fl), .val (.int na), .val (.int nb), .val (.int nc), .val (.int (1 : Int32)), .val (.ref u_AWARE), .unset, .unset, .unset, .unset, .unset, .unset, .unset, .unset, .unset, .unset, .unset] [(.int fl)])
    refine Go.st (fun _ => XS.iconst X_40.here hx rfl (hb hby at_30)) ?_
    show Go p e below s _ _ _ T_40 (mkF m 31 #[.val (.int fl), .val (.int na), .val (.int nb), .val (.int nc), .val (.int (1 : Int32)), .val (.ref u_AWARE), .unset, .unset, .unset, .unset, .unset, .unset, .unset, .unset, .unset, .unset, .unset] [(.int (4 : Int32)), (.int fl)])
    refine Go.st (fun _ => XS.iand X_40.here hx rfl (hb hby at_31) rfl) ?_
    show Go p e below s _ _ _ T_40 (mkF m 32 #[.val (.int fl), .val (.int na), .val (.int nb), .val (.int nc), .val (.int (1 : Int32)), .val (.ref u_AWARE), .unset, .unset, .unset, .unset, .unset, .unset, .unset, .unset, .unset, .unset, .unset] [(.int (fl &&& (4 : Int32)))])
    by_cases hc_85 : (fl &&& (4 : Int32)) = (0 : Int32)
    · refine Go.st (fun _ => XS.ifYes X_40.here hx rfl (pc0 := 32) (pc' := 39) rfl (hb hby at_32) rfl ((if0 _ _).trans (teq hc_85).1) (by decide) (by decide)) ?_
      show Go p e below s _ _ _ T_40 (mkF m 39 #[.val (.int fl), .val (.int na), .val (.int nb), .val (.int nc), .val (.int (1 : Int32)), .val (.ref u_AWARE), .unset, .unset, .unset, .unset, .unset, .unset, .unset, .unset, .unset, .unset, .unset] [])
      refine Go.st (fun _ => XS.iloadN X_40.here hx rfl (hb hby at_39) rfl) ?_
      show Go p e below s _ _ _ T_40 (mkF m 40 #[.val (.int fl), .val (.int na), .val (.int nb), .val (.int nc), .val (.int (1 : Int32)), .val (.ref u_AWARE), .unset, .unset, .unset, .unset, .unset, .unset, .unset, .unset, .unset, .unset, .unset] [(.int nb)])
      refine Go.st (fun _ => XS.istore X_40.here hx rfl (hb hby at_40) rfl (l' := #[.val (.int fl), .val (.int na), .val (.int nb), .val (.int nc), .val (.int (1 : Int32)), .val (.ref u_AWARE), .val (.int nb), .unset, .unset, .unset, .unset, .unset, .unset, .unset, .unset, .unset, .unset]) rfl) ?_
      show Go p e below s _ _ _ T_40 (mkF m 42 #[.val (.int fl), .val (.int na), .val (.int nb), .val (.int nc), .val (.int (1 : Int32)), .val (.ref u_AWARE), .val (.int nb), .unset, .unset, .unset, .unset, .unset, .unset, .unset, .unset, .unset, .unset] [])
      exact JA T_40 _ X_40 e_40 N0 nb
    · refine Go.st (fun _ => XS.ifNo X_40.here hx rfl (hb hby at_32) rfl ((if0 _ _).trans (feq hc_85).1)) ?_
      show Go p e below s _ _ _ T_40 (mkF m 35 #[.val (.int fl), .val (.int na), .val (.int nb), .val (.int nc), .val (.int (1 : Int32)), .val (.ref u_AWARE), .unset, .unset, .unset, .unset, .unset, .unset, .unset, .unset, .unset, .unset, .unset] [])
      refine Go.st (fun _ => XS.iloadN X_40.here hx rfl (hb hby at_35) rfl) ?_
      show Go p e below s _ _ _ T_40 (mkF m 36 #[.val (.int fl), .val (.int na), .val (.int nb), .val (.int nc), .val (.int (1 : Int32)), .val (.ref u_AWARE), .unset, .unset, .unset, .unset, .unset, .unset, .unset, .unset, .unset, .unset, .unset] [(.int na)])
      refine Go.st (fun _ => XS.goto X_40.here hx rfl (pc0 := 36) (pc' := 40) rfl (hb hby at_36) (by decide) (by decide)) ?_
      show Go p e below s _ _ _ T_40 (mkF m 40 #[.val (.int fl), .val (.int na), .val (.int nb), .val (.int nc), .val (.int (1 : Int32)), .val (.ref u_AWARE), .unset, .unset, .unset, .unset, .unset, .unset, .unset, .unset, .unset, .unset, .unset] [(.int na)])
      refine Go.st (fun _ => XS.istore X_40.here hx rfl (hb hby at_40) rfl (l' := #[.val (.int fl), .val (.int na), .val (.int nb), .val (.int nc), .val (.int (1 : Int32)), .val (.ref u_AWARE), .val (.int na), .unset, .unset, .unset, .unset, .unset, .unset, .unset, .unset, .unset, .unset]) rfl) ?_
      show Go p e below s _ _ _ T_40 (mkF m 42 #[.val (.int fl), .val (.int na), .val (.int nb), .val (.int nc), .val (.int (1 : Int32)), .val (.ref u_AWARE), .val (.int na), .unset, .unset, .unset, .unset, .unset, .unset, .unset, .unset, .unset, .unset] [])
      exact JA T_40 _ X_40 e_40 N0 na
set_option maxRecDepth 65536 in
set_option maxHeartbeats 40000000 in
theorem comes_1 {Post : Tables → Env → Array Value → State → Outcome → State → Prop} (hpost : ∀ tb e args s v u, (limb_1_1.after args s (.returned v) u = true ∧ limb_1_2.after args s (.returned v) u = true ∧ True) → FrameEnd s (.returned v) u (Jvm.fieldLocs frame_1_writes args s ++ Jvm.arrayLocs frame_1_arrays args s ++ Jvm.staticLocs frame_1_statics s) 24 128 → Post tb e args s (.returned v) u) :
    ArmFor flags0 classFile x code maxLocals ret World_1 tables_1 room_1 Calls_1 rest_1 Pre_1 Post := by
  intro l hfl _ _ p e ha hc hk s m args below hf hA hF happ hP
  obtain ⟨hcalls, hrest, hpre⟩ := hP
  obtain ⟨-, -, -, hnamed, -, -, -, hat⟩ := (Spec.applies_iff hf).mp happ
  obtain ⟨hg, hn⟩ := and_e (Cond.before_iff.mp (show (Jvm.Cond.and given_1 narrow_1).before args s = true from hpre))
  obtain ⟨g1, g2⟩ := and_e hg
  obtain ⟨g3, g4⟩ := and_e g2
  obtain ⟨g5, g6⟩ := and_e g4
  obtain ⟨g7, g8⟩ := and_e g6
  obtain ⟨w0, w1, w2, w3, rfl⟩ : ∃ w0 w1 w2 w3 : Value, args = #[w0, w1, w2, w3] := by
    have hs : args.size = 4 := by simpa [Cond.value, given_1] using g1
    obtain ⟨L⟩ := args
    match L, hs with
    | [w0, w1, w2, w3], _ => exact ⟨w0, w1, w2, w3, rfl⟩
  have hw := fun d (hd : d ∈ tables_1) => atoms_spec (ws := Jvm.Cond.code x code maxLocals ret :: tables_1) hat d (List.mem_cons_of_mem _ hd)
  have hfit : Fit s := fun {y c} hc i hi => by
    obtain ⟨ha, rfl⟩ := Array.getElem?_eq_some_iff.mp hc
    have q := List.all_eq_true.mp ((Array.all_eq_true_iff_forall_mem.mp hF) _ (Array.getElem_mem ha)) i (List.mem_range.mpr hi)
    simpa [Array.getElem?_eq_getElem hi] using q
  obtain ⟨hsets, hown0⟩ := atoms_of _ (rest_1_c_eq ▸ (show rest_1_c.before _ s = true from hrest))
  have hr0 := Cond.before_iff.mp hown0
  obtain ⟨i0, ei0⟩ := is_v g3
  obtain rfl : w0 = (.int i0) := Option.some.inj ei0
  obtain ⟨i1, ei1⟩ := is_v g5
  obtain rfl : w1 = (.int i1) := Option.some.inj ei1
  obtain ⟨i2, ei2⟩ := is_v g7
  obtain rfl : w2 = (.int i2) := Option.some.inj ei2
  obtain ⟨i3, ei3⟩ := is_v g8
  obtain rfl : w3 = (.int i3) := Option.some.inj ei3
  obtain ⟨m1, m2⟩ := and_e hn
  obtain ⟨m3, m4⟩ := and_e m2
  obtain ⟨m5, m6⟩ := and_e m4
  obtain ⟨u_TREC, ev_TREC⟩ := exa_v m1
  have E_TREC := Exa.start ev_TREC m1
  have S_TREC := Sta.start ev_TREC (Or.inr ⟨(hw _ (List.mem_of_getElem? (i := 1) rfl)), (hw _ (List.mem_of_getElem? (i := 2) rfl))⟩)
  have F_TREC_groupsEqualScores := own_ord ev_TREC m3
  obtain ⟨u_AWARE, ev_AWARE⟩ := exa_v m5
  have E_AWARE := Exa.start ev_AWARE m5
  have S_AWARE := Sta.start ev_AWARE (Or.inr ⟨(hw _ (List.mem_of_getElem? (i := 1) rfl)), (hw _ (List.mem_of_getElem? (i := 50) rfl))⟩)
  have F_AWARE_groupsEqualScores := own_ord ev_AWARE m6
  obtain ⟨cs, ecs⟩ := is_v (Cond.before_iff.mp (hsets _ (List.mem_of_getElem? (i := 1) rfl)))
  have S_cs := Sta.start ecs (Or.inl (hsets _ (List.mem_of_getElem? (i := 0) rfl)))
  have hcs : ¬ cs = (0 : Int32) := gotF (Cond.eq_ints ecs (Term.int_eval (0 : Int32))) (not_v (Cond.before_iff.mp (hsets _ (List.mem_of_getElem? (i := 2) rfl))))
  obtain ⟨n, o, h1, h2, h3, _, L, rfl, ⟨rfl, N⟩, hq⟩ := rm0 l s _ hw tables_1 i0 i1 i2 i3 u_TREC u_AWARE cs s.heap s.heap.size (Nat.le_refl _) S_TREC S_AWARE E_TREC E_AWARE F_TREC_groupsEqualScores F_AWARE_groupsEqualScores S_cs hcs p e ha hc hk s m _ below hf ((Spec.applies_iff_loose hf).mp happ).1 ⟨rfl, State.Warmed39.refl s, rfl⟩ trivial
  refine ⟨n, _, h1, h2, h3, hpost _ _ _ _ _ _ ⟨Cond.after_iff.mpr rfl, Cond.after_iff.mpr (eq_i res_at (Term.int_eval (1)) rfl), trivial⟩ ⟨hq.1, hq.2.1, (hq.2.2.sift fun y hy => Or.inr (N y hy)).mono (by decide) (by decide)⟩⟩
theorem main_1_1 : Claimed_1_1 := comes_1 fun _ _ _ _ _ _ h hF => ⟨h.1, hF⟩
theorem main_1_2 : Claimed_1_2 := comes_1 fun _ _ _ _ _ _ h hF => ⟨h.2.1, hF⟩
end Jvm.Pilot.@@N@@
namespace Jvm.Pilot.@@N@@
open Jvm Jvm.ClassFile Sem Op Lib Jvm.Free Jvm.Stand Jvm.Pilot.@@N@@.Jvm.D
/-! MADE BY PROGRAM (witnessworld.py) out of the Statement's table words and the real class files: 19 classes; the members and pool entries that the words name. The judged class is class 1, her method 1. -/
namespace start1
open Jvm.ClassFile
def u (s : String) : CpInfo := .utf8 (stringToUtf16 s)
/-- a pool by its gaps: so many unusable entries, then the entry; so many at the end -/
def gap : Nat → List CpInfo → List CpInfo
  | 0, r => r
  | n + 1, r => .unusable :: gap n r
def poolList (es : List (Nat × CpInfo)) (last : Nat) : List CpInfo := es.foldr (fun e r => gap e.1 (e.2 :: r)) (gap last [])
def pool (es : List (Nat × CpInfo)) (last : Nat) : Array CpInfo := ⟨poolList es last⟩
def fileOf (pool : Array CpInfo) (this : Nat) (attrs : Array Attribute := #[]) (ms : Array MethodInfo := #[]) (fl : Nat := 33) (sup : Nat := 0) (ifs : Array Nat := #[]) (fds : Array FieldInfo := #[]) : ClassFile where
  minorVersion := 0
  majorVersion := 65
  constantPool := pool
  accessFlags := fl
  thisClass := this
  superClass := sup
  interfaces := ifs
  fields := fds
  methods := ms
  attributes := attrs
def plain (name : String) (sup : Option ClassId) : Class where
  name := name
  kind := .ordinary
  loader := none
  accessFlags := 33
  super := sup
  interfaces := #[]
  cf := none
  fields := #[]
  methods := #[]
  instanceTypes := #[]
  staticTypes := #[]
  resolved := #[]
  callSites := []
  init := .initialized
  statics := none
  mirror := none

def pool0 : Array CpInfo := pool [(5, u "<init>"), (0, u "()V"), (1, .class_ 10), (1, u "java/lang/Object")] 113

def k0c0 : Code := { maxStack := 0, maxLocals := 1, code := object_method_1_code, exceptionTable := #[], attributes := #[] }
def k0m0 : Method := { name := "<init>", desc := "()V", sig := { parameters := [], returnType := none }, accessFlags := 1, code := some k0c0 }
/-- java/lang/Object -/
def k0 : Class := { plain "java/lang/Object" none with
  accessFlags := 33
  interfaces := #[]
  cf := some (fileOf pool0 8 #[] #[{ accessFlags := 1, nameIndex := 5, descriptorIndex := 6, attributes := #[] }] 33 0 #[] #[])
  fields := #[]
  methods := #[k0m0]
  instanceTypes := #[]
  staticTypes := #[]
  resolved := Array.replicate 124 none
  statics := none }

def pool1 : Array CpInfo := pool [(2, .class_ 4), (1, u "java/lang/Object"), (0, u "<init>"), (0, u "()V"), (0, .fieldref 8 9), (0, .class_ 10), (0, .nameAndType 11 12), (0, u "com/example/sift_sentences/siftsentences/eval/TieRule"), (0, u "AWARE"), (0, u "Lcom/example/sift_sentences/siftsentences/eval/TieRule;"), (0, .fieldref 8 14), (0, .nameAndType 15 12), (0, u "TREC"), (0, .double 9223372036854775808), (1, .methodref 19 20), (0, .class_ 21), (0, .nameAndType 22 23), (0, u "java/lang/String"), (0, u "valueOf"), (0, u "(C)Ljava/lang/String;"), (0, .class_ 25), (0, u "com/example/sift_sentences/siftsentences/trec/RunLine"), (0, .methodref 24 27), (0, .nameAndType 5 28), (0, u "(Ljava/lang/String;Ljava/lang/String;D)V"), (0, .methodref 8 30), (0, .nameAndType 31 32), (0, u "groups"), (0, u "(Lcom/example/sift_sentences/siftsentences/trec/RunLine;Lcom/example/sift_sentences/siftsentences/trec/RunLine;)Z"), (0, .class_ 34), (0, u "com/example/sift_sentences/siftsentences/eval/TieRuleGroupsPinLaw"), (2, u "law"), (0, u "(IIII)Z")] 3

def k1m0 : Method := { name := "<init>", desc := "()V", sig := { parameters := [], returnType := none }, accessFlags := 1, code := none }
def k1c1 : Code := { maxStack := 6, maxLocals := 17, code := code, exceptionTable := #[], attributes := #[] }
def k1m1 : Method := { name := "law", desc := "(IIII)Z", sig := { parameters := [.int, .int, .int, .int], returnType := some .boolean }, accessFlags := 9, code := some k1c1 }
/-- com/example/sift_sentences/siftsentences/eval/TieRuleGroupsPinLaw -/
def k1 : Class := { plain "com/example/sift_sentences/siftsentences/eval/TieRuleGroupsPinLaw" (some 0) with
  accessFlags := 49
  interfaces := #[]
  cf := some (fileOf pool1 33 #[] #[{ accessFlags := 1, nameIndex := 5, descriptorIndex := 6, attributes := #[] }, { accessFlags := 9, nameIndex := 37, descriptorIndex := 38, attributes := #[] }] 49 2 #[] #[])
  fields := #[]
  methods := #[k1m0, k1m1]
  instanceTypes := #[]
  staticTypes := #[]
  resolved := Array.replicate 42 none
  statics := none }

def pool2 : Array CpInfo := pool [(1, .class_ 2), (0, u "java/lang/constant/Constable"), (0, .class_ 4), (0, u "java/lang/Object")] 6

/-- java/lang/constant/Constable -/
def k2 : Class := { plain "java/lang/constant/Constable" (some 0) with
  accessFlags := 1537
  interfaces := #[]
  cf := some (fileOf pool2 1 #[] #[] 1537 3 #[] #[])
  fields := #[]
  methods := #[]
  instanceTypes := #[]
  staticTypes := #[]
  resolved := Array.replicate 11 none
  statics := none }

def pool3 : Array CpInfo := pool [(1, .class_ 2), (0, u "java/lang/Comparable"), (0, .class_ 4), (0, u "java/lang/Object")] 7

/-- java/lang/Comparable -/
def k3 : Class := { plain "java/lang/Comparable" (some 0) with
  accessFlags := 1537
  interfaces := #[]
  cf := some (fileOf pool3 1 #[] #[] 1537 3 #[] #[])
  fields := #[]
  methods := #[]
  instanceTypes := #[]
  staticTypes := #[]
  resolved := Array.replicate 12 none
  statics := none }

def pool4 : Array CpInfo := pool [(1, .class_ 2), (0, u "java/io/Serializable"), (0, .class_ 4), (0, u "java/lang/Object")] 2

/-- java/io/Serializable -/
def k4 : Class := { plain "java/io/Serializable" (some 0) with
  accessFlags := 1537
  interfaces := #[]
  cf := some (fileOf pool4 1 #[] #[] 1537 3 #[] #[])
  fields := #[]
  methods := #[]
  instanceTypes := #[]
  staticTypes := #[]
  resolved := Array.replicate 7 none
  statics := none }

def pool5 : Array CpInfo := pool [(2, .class_ 4), (1, u "java/lang/Enum"), (0, u "name"), (0, u "Ljava/lang/String;"), (2, u "ordinal"), (0, u "I"), (1, .class_ 14), (1, u "java/lang/Object"), (4, u "hash"), (86, .class_ 108), (1, u "java/lang/Enum$EnumDesc"), (2, .class_ 112), (0, u "java/lang/constant/Constable"), (0, .class_ 114), (0, u "java/lang/Comparable"), (0, .class_ 116), (0, u "java/io/Serializable")] 87

/-- java/lang/Enum -/
def k5 : Class := { plain "java/lang/Enum" (some 0) with
  accessFlags := 1057
  interfaces := #[2, 3, 4]
  cf := some (fileOf pool5 2 #[.nestMembers #[106]] #[] 1057 12 #[111, 113, 115] #[{ accessFlags := 18, nameIndex := 5, descriptorIndex := 6, attributes := #[] }, { accessFlags := 18, nameIndex := 9, descriptorIndex := 10, attributes := #[] }, { accessFlags := 2, nameIndex := 19, descriptorIndex := 10, attributes := #[] }])
  fields := #[{ name := "name", type := (.object "java/lang/String"), accessFlags := 18, slot := 0, constantValue := 0 }, { name := "ordinal", type := .int, accessFlags := 18, slot := 1, constantValue := 0 }, { name := "hash", type := .int, accessFlags := 2, slot := 2, constantValue := 0 }]
  methods := #[]
  instanceTypes := #[(.object "java/lang/String"), .int, .int]
  staticTypes := #[]
  resolved := Array.replicate 204 none
  statics := none }

def pool6 : Array CpInfo := pool [(1, .class_ 2), (0, u "com/example/sift_sentences/siftsentences/eval/TieRule"), (2, u "AWARE"), (0, u "Lcom/example/sift_sentences/siftsentences/eval/TieRule;"), (2, u "TREC"), (2, u "$VALUES"), (0, u "[Lcom/example/sift_sentences/siftsentences/eval/TieRule;"), (6, .class_ 22), (1, u "java/lang/Enum"), (8, u "name"), (0, u "Ljava/lang/String;"), (0, .fieldref 1 34), (0, .nameAndType 35 36), (0, u "groupsEqualScores"), (0, u "Z"), (0, .methodref 38 39), (0, .class_ 40), (0, .nameAndType 41 42), (0, u "com/example/sift_sentences/siftsentences/trec/RunLine"), (0, u "getScore"), (0, u "()D"), (15, u "DEFAULT"), (9, u "groups"), (0, u "(Lcom/example/sift_sentences/siftsentences/trec/RunLine;Lcom/example/sift_sentences/siftsentences/trec/RunLine;)Z")] 6

def k6c0 : Code := { maxStack := 4, maxLocals := 3, code := prog_13_method_5_code, exceptionTable := #[], attributes := #[] }
def k6m0 : Method := { name := "groups", desc := "(Lcom/example/sift_sentences/siftsentences/trec/RunLine;Lcom/example/sift_sentences/siftsentences/trec/RunLine;)Z", sig := { parameters := [(.object "com/example/sift_sentences/siftsentences/trec/RunLine"), (.object "com/example/sift_sentences/siftsentences/trec/RunLine")], returnType := some .boolean }, accessFlags := 0, code := some k6c0 }
/-- com/example/sift_sentences/siftsentences/eval/TieRule -/
def k6 : Class := { plain "com/example/sift_sentences/siftsentences/eval/TieRule" (some 5) with
  accessFlags := 16433
  interfaces := #[]
  cf := some (fileOf pool6 1 #[] #[{ accessFlags := 0, nameIndex := 68, descriptorIndex := 69, attributes := #[] }] 16433 20 #[] #[{ accessFlags := 16409, nameIndex := 5, descriptorIndex := 6, attributes := #[] }, { accessFlags := 16409, nameIndex := 9, descriptorIndex := 6, attributes := #[] }, { accessFlags := 25, nameIndex := 58, descriptorIndex := 6, attributes := #[] }, { accessFlags := 18, nameIndex := 31, descriptorIndex := 32, attributes := #[] }, { accessFlags := 18, nameIndex := 35, descriptorIndex := 36, attributes := #[] }, { accessFlags := 4122, nameIndex := 12, descriptorIndex := 13, attributes := #[] }])
  fields := #[{ name := "AWARE", type := (.object "com/example/sift_sentences/siftsentences/eval/TieRule"), accessFlags := 16409, slot := 0, constantValue := 0 }, { name := "TREC", type := (.object "com/example/sift_sentences/siftsentences/eval/TieRule"), accessFlags := 16409, slot := 1, constantValue := 0 }, { name := "DEFAULT", type := (.object "com/example/sift_sentences/siftsentences/eval/TieRule"), accessFlags := 25, slot := 2, constantValue := 0 }, { name := "name", type := (.object "java/lang/String"), accessFlags := 18, slot := 3, constantValue := 0 }, { name := "groupsEqualScores", type := .boolean, accessFlags := 18, slot := 4, constantValue := 0 }, { name := "$VALUES", type := (.array (.object "com/example/sift_sentences/siftsentences/eval/TieRule")), accessFlags := 4122, slot := 3, constantValue := 0 }]
  methods := #[k6m0]
  instanceTypes := #[(.object "java/lang/String"), .int, .int, (.object "java/lang/String"), .boolean]
  staticTypes := #[(.object "com/example/sift_sentences/siftsentences/eval/TieRule"), (.object "com/example/sift_sentences/siftsentences/eval/TieRule"), (.object "com/example/sift_sentences/siftsentences/eval/TieRule"), (.array (.object "com/example/sift_sentences/siftsentences/eval/TieRule"))]
  resolved := Array.replicate 76 none
  statics := some 0 }

def pool7 : Array CpInfo := pool [(2, .class_ 4), (1, u "java/lang/CharSequence"), (42, .class_ 48), (0, u "java/lang/CharSequence$1CodePointIterator"), (10, .class_ 60), (0, u "java/lang/CharSequence$1CharIterator"), (5, .class_ 67), (0, u "java/lang/Object")] 63

/-- java/lang/CharSequence -/
def k7 : Class := { plain "java/lang/CharSequence" (some 0) with
  accessFlags := 1537
  interfaces := #[]
  cf := some (fileOf pool7 2 #[.nestMembers #[47, 59]] #[] 1537 66 #[] #[])
  fields := #[]
  methods := #[]
  instanceTypes := #[]
  staticTypes := #[]
  resolved := Array.replicate 131 none
  statics := none }

def pool8 : Array CpInfo := pool [(1, .class_ 2), (0, u "java/lang/constant/ConstantDesc"), (0, .class_ 4), (0, u "java/lang/Object")] 32

/-- java/lang/constant/ConstantDesc -/
def k8 : Class := { plain "java/lang/constant/ConstantDesc" (some 0) with
  accessFlags := 1537
  interfaces := #[]
  cf := some (fileOf pool8 1 #[] #[] 1537 3 #[] #[])
  fields := #[]
  methods := #[]
  instanceTypes := #[]
  staticTypes := #[]
  resolved := Array.replicate 37 none
  statics := none }

def pool9 : Array CpInfo := pool [(1, .methodref 2 3), (0, .class_ 4), (0, .nameAndType 5 6), (0, u "java/lang/Object"), (0, u "<init>"), (0, u "()V"), (2, .fieldref 10 11), (0, .class_ 12), (0, .nameAndType 13 14), (0, u "java/lang/String"), (0, u "value"), (0, u "[B"), (0, .fieldref 10 16), (0, .nameAndType 17 18), (0, u "coder"), (0, u "B"), (2, u "hash"), (0, u "I"), (2, u "hashIsZero"), (0, u "Z"), (11, .fieldref 10 39), (0, .nameAndType 40 26), (0, u "COMPACT_STRINGS"), (12, u "toBytes"), (53, .class_ 109), (1, u "java/lang/StringLatin1"), (99, .methodref 10 210), (0, .nameAndType 5 211), (0, u "([BB)V"), (157, u "(C)Z"), (205, .class_ 576), (0, u "java/lang/CharSequence"), (22, u "CASE_INSENSITIVE_ORDER"), (0, u "Ljava/util/Comparator;"), (181, u "valueOf"), (0, u "(C)Ljava/lang/String;"), (231, .methodref 107 1016), (0, .nameAndType 1017 369), (0, u "canEncode"), (0, .methodref 107 1019), (0, .nameAndType 53 1020), (0, u "(C)[B"), (80, u "serialPersistentFields"), (0, u "[Ljava/io/ObjectStreamField;"), (0, .class_ 1104), (0, u "java/lang/String$CaseInsensitiveComparator"), (1, .class_ 1107), (0, u "java/io/Serializable"), (0, .class_ 1109), (0, u "java/lang/Comparable"), (0, .class_ 1111), (0, u "java/lang/constant/Constable"), (0, .class_ 1113), (0, u "java/lang/constant/ConstantDesc"), (2, u "serialVersionUID"), (0, u "J"), (3, u "REPL"), (0, u "C"), (2, u "LATIN1"), (1, u "UTF16")] 323

def k9m0 : Method := { name := "<init>", desc := "()V", sig := { parameters := [], returnType := none }, accessFlags := 1, code := none }
def k9c1 : Code := { maxStack := 4, maxLocals := 1, code := jdk_42_method_139_code, exceptionTable := #[], attributes := #[] }
def k9m1 : Method := { name := "valueOf", desc := "(C)Ljava/lang/String;", sig := { parameters := [.char], returnType := some (.object "java/lang/String") }, accessFlags := 9, code := some k9c1 }
def k9c2 : Code := { maxStack := 2, maxLocals := 3, code := jdk_42_method_151_code, exceptionTable := #[], attributes := #[] }
def k9m2 : Method := { name := "<init>", desc := "([BB)V", sig := { parameters := [(.array .byte), .byte], returnType := none }, accessFlags := 0, code := some k9c2 }
/-- java/lang/String -/
def k9 : Class := { plain "java/lang/String" (some 0) with
  accessFlags := 49
  interfaces := #[4, 3, 7, 2, 8]
  cf := some (fileOf pool9 10 #[.nestMembers #[1103]] #[{ accessFlags := 1, nameIndex := 5, descriptorIndex := 6, attributes := #[] }, { accessFlags := 9, nameIndex := 782, descriptorIndex := 783, attributes := #[] }, { accessFlags := 0, nameIndex := 5, descriptorIndex := 211, attributes := #[] }] 49 2 #[1106, 1108, 575, 1110, 1112] #[{ accessFlags := 18, nameIndex := 13, descriptorIndex := 14, attributes := #[] }, { accessFlags := 18, nameIndex := 17, descriptorIndex := 18, attributes := #[] }, { accessFlags := 2, nameIndex := 21, descriptorIndex := 22, attributes := #[] }, { accessFlags := 2, nameIndex := 25, descriptorIndex := 26, attributes := #[] }, { accessFlags := 26, nameIndex := 1116, descriptorIndex := 1117, attributes := #[] }, { accessFlags := 24, nameIndex := 40, descriptorIndex := 26, attributes := #[] }, { accessFlags := 26, nameIndex := 1101, descriptorIndex := 1102, attributes := #[] }, { accessFlags := 26, nameIndex := 1121, descriptorIndex := 1122, attributes := #[] }, { accessFlags := 25, nameIndex := 599, descriptorIndex := 600, attributes := #[] }, { accessFlags := 24, nameIndex := 1125, descriptorIndex := 18, attributes := #[] }, { accessFlags := 24, nameIndex := 1127, descriptorIndex := 18, attributes := #[] }])
  fields := #[{ name := "value", type := (.array .byte), accessFlags := 18, slot := 0, constantValue := 0 }, { name := "coder", type := .byte, accessFlags := 18, slot := 1, constantValue := 0 }, { name := "hash", type := .int, accessFlags := 2, slot := 2, constantValue := 0 }, { name := "hashIsZero", type := .boolean, accessFlags := 2, slot := 3, constantValue := 0 }, { name := "serialVersionUID", type := .long, accessFlags := 26, slot := 0, constantValue := 0 }, { name := "COMPACT_STRINGS", type := .boolean, accessFlags := 24, slot := 1, constantValue := 0 }, { name := "serialPersistentFields", type := (.array (.object "java/io/ObjectStreamField")), accessFlags := 26, slot := 2, constantValue := 0 }, { name := "REPL", type := .char, accessFlags := 26, slot := 3, constantValue := 0 }, { name := "CASE_INSENSITIVE_ORDER", type := (.object "java/util/Comparator"), accessFlags := 25, slot := 4, constantValue := 0 }, { name := "LATIN1", type := .byte, accessFlags := 24, slot := 5, constantValue := 0 }, { name := "UTF16", type := .byte, accessFlags := 24, slot := 6, constantValue := 0 }]
  methods := #[k9m0, k9m1, k9m2]
  instanceTypes := #[(.array .byte), .byte, .int, .boolean]
  staticTypes := #[.long, .boolean, (.array (.object "java/io/ObjectStreamField")), .char, (.object "java/util/Comparator"), .byte, .byte]
  resolved := Array.replicate 1451 none
  statics := some 1 }

def pool10 : Array CpInfo := pool [(4, .class_ 6), (1, u "java/lang/Object"), (0, u "<init>"), (0, u "()V"), (5, .class_ 16), (1, u "java/lang/StringLatin1"), (73, u "canEncode"), (14, u "(C)Z"), (15, u "$assertionsDisabled"), (0, u "Z"), (98, .class_ 223), (1, u "java/lang/StringLatin1$LinesSpliterator"), (156, u "toBytes"), (1, u "(C)[B"), (7, .class_ 391), (0, u "java/lang/StringLatin1$CharsSpliterator")] 3

def k10m0 : Method := { name := "<init>", desc := "()V", sig := { parameters := [], returnType := none }, accessFlags := 0, code := none }
def k10c1 : Code := { maxStack := 2, maxLocals := 1, code := jdk_43_method_3_code, exceptionTable := #[], attributes := #[] }
def k10m1 : Method := { name := "canEncode", desc := "(C)Z", sig := { parameters := [.char], returnType := some .boolean }, accessFlags := 9, code := some k10c1 }
def k10c2 : Code := { maxStack := 4, maxLocals := 1, code := jdk_43_method_46_code, exceptionTable := #[], attributes := #[] }
def k10m2 : Method := { name := "toBytes", desc := "(C)[B", sig := { parameters := [.char], returnType := some (.array .byte) }, accessFlags := 9, code := some k10c2 }
/-- java/lang/StringLatin1 -/
def k10 : Class := { plain "java/lang/StringLatin1" (some 0) with
  accessFlags := 48
  interfaces := #[]
  cf := some (fileOf pool10 14 #[.nestMembers #[390, 221]] #[{ accessFlags := 0, nameIndex := 7, descriptorIndex := 8, attributes := #[] }, { accessFlags := 9, nameIndex := 90, descriptorIndex := 105, attributes := #[] }, { accessFlags := 9, nameIndex := 380, descriptorIndex := 382, attributes := #[] }] 48 4 #[] #[{ accessFlags := 4120, nameIndex := 121, descriptorIndex := 122, attributes := #[] }])
  fields := #[{ name := "$assertionsDisabled", type := .boolean, accessFlags := 4120, slot := 0, constantValue := 0 }]
  methods := #[k10m0, k10m1, k10m2]
  instanceTypes := #[]
  staticTypes := #[.boolean]
  resolved := Array.replicate 395 none
  statics := none }

def pool11 : Array CpInfo := pool [(1, .methodref 2 3), (0, .class_ 4), (0, .nameAndType 5 6), (0, u "java/lang/Object"), (0, u "<init>"), (0, u "()V"), (0, .fieldref 8 9), (0, .class_ 10), (0, .nameAndType 11 12), (0, u "com/example/sift_sentences/siftsentences/trec/RunLine"), (0, u "pairId"), (0, u "Ljava/lang/String;"), (0, .fieldref 8 14), (0, .nameAndType 15 12), (0, u "sentenceId"), (0, .fieldref 8 17), (0, .nameAndType 18 19), (0, u "score"), (0, u "D"), (0, u "(Ljava/lang/String;Ljava/lang/String;D)V"), (5, u "getScore"), (0, u "()D")] 2

def k11c0 : Code := { maxStack := 3, maxLocals := 5, code := prog_37_method_1_code, exceptionTable := #[], attributes := #[] }
def k11m0 : Method := { name := "<init>", desc := "(Ljava/lang/String;Ljava/lang/String;D)V", sig := { parameters := [(.object "java/lang/String"), (.object "java/lang/String"), .double], returnType := none }, accessFlags := 1, code := some k11c0 }
def k11c1 : Code := { maxStack := 2, maxLocals := 1, code := prog_37_method_4_code, exceptionTable := #[], attributes := #[] }
def k11m1 : Method := { name := "getScore", desc := "()D", sig := { parameters := [], returnType := some .double }, accessFlags := 1, code := some k11c1 }
/-- com/example/sift_sentences/siftsentences/trec/RunLine -/
def k11 : Class := { plain "com/example/sift_sentences/siftsentences/trec/RunLine" (some 0) with
  accessFlags := 33
  interfaces := #[]
  cf := some (fileOf pool11 8 #[] #[{ accessFlags := 1, nameIndex := 5, descriptorIndex := 20, attributes := #[] }, { accessFlags := 1, nameIndex := 26, descriptorIndex := 27, attributes := #[] }] 33 2 #[] #[{ accessFlags := 18, nameIndex := 11, descriptorIndex := 12, attributes := #[] }, { accessFlags := 18, nameIndex := 15, descriptorIndex := 12, attributes := #[] }, { accessFlags := 18, nameIndex := 18, descriptorIndex := 19, attributes := #[] }])
  fields := #[{ name := "pairId", type := (.object "java/lang/String"), accessFlags := 18, slot := 0, constantValue := 0 }, { name := "sentenceId", type := (.object "java/lang/String"), accessFlags := 18, slot := 1, constantValue := 0 }, { name := "score", type := .double, accessFlags := 18, slot := 2, constantValue := 0 }]
  methods := #[k11m0, k11m1]
  instanceTypes := #[(.object "java/lang/String"), (.object "java/lang/String"), .double]
  staticTypes := #[]
  resolved := Array.replicate 30 none
  statics := none }

def pool12 : Array CpInfo := pool [(2, .class_ 4), (1, u "java/lang/Object"), (0, u "<init>"), (0, u "()V"), (17, .class_ 26), (1, u "jdk/internal/util/Preconditions"), (28, .class_ 56), (0, u "jdk/internal/util/Preconditions$4"), (57, .class_ 115), (0, u "jdk/internal/util/Preconditions$1"), (7, u "SIOOBE_FORMATTER"), (0, u "Ljava/util/function/BiFunction;"), (0, .class_ 126), (0, u "jdk/internal/util/Preconditions$2"), (3, u "AIOOBE_FORMATTER"), (0, .class_ 132), (0, u "jdk/internal/util/Preconditions$3"), (3, u "IOOBE_FORMATTER")] 57

def k12m0 : Method := { name := "<init>", desc := "()V", sig := { parameters := [], returnType := none }, accessFlags := 1, code := none }
/-- jdk/internal/util/Preconditions -/
def k12 : Class := { plain "jdk/internal/util/Preconditions" (some 0) with
  accessFlags := 33
  interfaces := #[]
  cf := some (fileOf pool12 24 #[.nestMembers #[55, 131, 125, 114]] #[{ accessFlags := 1, nameIndex := 5, descriptorIndex := 6, attributes := #[] }] 33 2 #[] #[{ accessFlags := 25, nameIndex := 123, descriptorIndex := 124, attributes := #[] }, { accessFlags := 25, nameIndex := 130, descriptorIndex := 124, attributes := #[] }, { accessFlags := 25, nameIndex := 136, descriptorIndex := 124, attributes := #[] }])
  fields := #[{ name := "SIOOBE_FORMATTER", type := (.object "java/util/function/BiFunction"), accessFlags := 25, slot := 0, constantValue := 0 }, { name := "AIOOBE_FORMATTER", type := (.object "java/util/function/BiFunction"), accessFlags := 25, slot := 1, constantValue := 0 }, { name := "IOOBE_FORMATTER", type := (.object "java/util/function/BiFunction"), accessFlags := 25, slot := 2, constantValue := 0 }]
  methods := #[k12m0]
  instanceTypes := #[]
  staticTypes := #[(.object "java/util/function/BiFunction"), (.object "java/util/function/BiFunction"), (.object "java/util/function/BiFunction")]
  resolved := Array.replicate 194 none
  statics := some 2 }

def pool13 : Array CpInfo := pool [(9, u "<init>"), (6, .class_ 18), (1, u "java/lang/Object"), (0, u "()V"), (1, .class_ 23), (1, u "jdk/internal/util/ArraysSupport"), (0, u "LOG2_ARRAY_LONG_INDEX_SCALE"), (0, u "I"), (2, u "U"), (0, u "Ljdk/internal/misc/Unsafe;"), (8, u "BIG_ENDIAN"), (0, u "Z"), (8, u "LOG2_BYTE_BIT_SIZE"), (4, u "LOG2_ARRAY_INT_INDEX_SCALE"), (54, u "JLA"), (0, u "Ljdk/internal/access/JavaLangAccess;"), (11, u "LOG2_ARRAY_BOOLEAN_INDEX_SCALE"), (9, u "LOG2_ARRAY_BYTE_INDEX_SCALE"), (5, u "LOG2_ARRAY_CHAR_INDEX_SCALE"), (5, u "LOG2_ARRAY_SHORT_INDEX_SCALE"), (18, u "LOG2_ARRAY_FLOAT_INDEX_SCALE"), (24, u "LOG2_ARRAY_DOUBLE_INDEX_SCALE"), (89, u "T_BOOLEAN"), (2, u "T_CHAR"), (1, u "T_FLOAT"), (1, u "T_DOUBLE"), (1, u "T_BYTE"), (1, u "T_SHORT"), (1, u "T_INT"), (1, u "T_LONG"), (1, u "SOFT_MAX_ARRAY_LENGTH")] 83

def k13m0 : Method := { name := "<init>", desc := "()V", sig := { parameters := [], returnType := none }, accessFlags := 2, code := none }
/-- jdk/internal/util/ArraysSupport -/
def k13 : Class := { plain "jdk/internal/util/ArraysSupport" (some 0) with
  accessFlags := 33
  interfaces := #[]
  cf := some (fileOf pool13 21 #[] #[{ accessFlags := 2, nameIndex := 9, descriptorIndex := 19, attributes := #[] }] 33 16 #[] #[{ accessFlags := 24, nameIndex := 28, descriptorIndex := 29, attributes := #[] }, { accessFlags := 26, nameIndex := 38, descriptorIndex := 39, attributes := #[] }, { accessFlags := 25, nameIndex := 121, descriptorIndex := 25, attributes := #[] }, { accessFlags := 25, nameIndex := 131, descriptorIndex := 25, attributes := #[] }, { accessFlags := 25, nameIndex := 137, descriptorIndex := 25, attributes := #[] }, { accessFlags := 25, nameIndex := 143, descriptorIndex := 25, attributes := #[] }, { accessFlags := 25, nameIndex := 53, descriptorIndex := 25, attributes := #[] }, { accessFlags := 25, nameIndex := 24, descriptorIndex := 25, attributes := #[] }, { accessFlags := 25, nameIndex := 162, descriptorIndex := 25, attributes := #[] }, { accessFlags := 25, nameIndex := 187, descriptorIndex := 25, attributes := #[] }, { accessFlags := 26, nameIndex := 48, descriptorIndex := 25, attributes := #[] }, { accessFlags := 25, nameIndex := 277, descriptorIndex := 25, attributes := #[] }, { accessFlags := 25, nameIndex := 280, descriptorIndex := 25, attributes := #[] }, { accessFlags := 25, nameIndex := 282, descriptorIndex := 25, attributes := #[] }, { accessFlags := 25, nameIndex := 284, descriptorIndex := 25, attributes := #[] }, { accessFlags := 25, nameIndex := 286, descriptorIndex := 25, attributes := #[] }, { accessFlags := 25, nameIndex := 288, descriptorIndex := 25, attributes := #[] }, { accessFlags := 25, nameIndex := 290, descriptorIndex := 25, attributes := #[] }, { accessFlags := 25, nameIndex := 292, descriptorIndex := 25, attributes := #[] }, { accessFlags := 26, nameIndex := 108, descriptorIndex := 109, attributes := #[] }, { accessFlags := 25, nameIndex := 294, descriptorIndex := 25, attributes := #[] }])
  fields := #[{ name := "U", type := (.object "jdk/internal/misc/Unsafe"), accessFlags := 24, slot := 0, constantValue := 0 }, { name := "BIG_ENDIAN", type := .boolean, accessFlags := 26, slot := 1, constantValue := 0 }, { name := "LOG2_ARRAY_BOOLEAN_INDEX_SCALE", type := .int, accessFlags := 25, slot := 2, constantValue := 0 }, { name := "LOG2_ARRAY_BYTE_INDEX_SCALE", type := .int, accessFlags := 25, slot := 3, constantValue := 0 }, { name := "LOG2_ARRAY_CHAR_INDEX_SCALE", type := .int, accessFlags := 25, slot := 4, constantValue := 0 }, { name := "LOG2_ARRAY_SHORT_INDEX_SCALE", type := .int, accessFlags := 25, slot := 5, constantValue := 0 }, { name := "LOG2_ARRAY_INT_INDEX_SCALE", type := .int, accessFlags := 25, slot := 6, constantValue := 0 }, { name := "LOG2_ARRAY_LONG_INDEX_SCALE", type := .int, accessFlags := 25, slot := 7, constantValue := 0 }, { name := "LOG2_ARRAY_FLOAT_INDEX_SCALE", type := .int, accessFlags := 25, slot := 8, constantValue := 0 }, { name := "LOG2_ARRAY_DOUBLE_INDEX_SCALE", type := .int, accessFlags := 25, slot := 9, constantValue := 0 }, { name := "LOG2_BYTE_BIT_SIZE", type := .int, accessFlags := 26, slot := 10, constantValue := 0 }, { name := "T_BOOLEAN", type := .int, accessFlags := 25, slot := 11, constantValue := 0 }, { name := "T_CHAR", type := .int, accessFlags := 25, slot := 12, constantValue := 0 }, { name := "T_FLOAT", type := .int, accessFlags := 25, slot := 13, constantValue := 0 }, { name := "T_DOUBLE", type := .int, accessFlags := 25, slot := 14, constantValue := 0 }, { name := "T_BYTE", type := .int, accessFlags := 25, slot := 15, constantValue := 0 }, { name := "T_SHORT", type := .int, accessFlags := 25, slot := 16, constantValue := 0 }, { name := "T_INT", type := .int, accessFlags := 25, slot := 17, constantValue := 0 }, { name := "T_LONG", type := .int, accessFlags := 25, slot := 18, constantValue := 0 }, { name := "JLA", type := (.object "jdk/internal/access/JavaLangAccess"), accessFlags := 26, slot := 19, constantValue := 0 }, { name := "SOFT_MAX_ARRAY_LENGTH", type := .int, accessFlags := 25, slot := 20, constantValue := 0 }]
  methods := #[k13m0]
  instanceTypes := #[]
  staticTypes := #[(.object "jdk/internal/misc/Unsafe"), .boolean, .int, .int, .int, .int, .int, .int, .int, .int, .int, .int, .int, .int, .int, .int, .int, .int, .int, (.object "jdk/internal/access/JavaLangAccess"), .int]
  resolved := Array.replicate 378 none
  statics := none }

def pool14 : Array CpInfo := pool [(1, u "java/lang/Cloneable"), (0, .class_ 1), (0, u "java/lang/Object"), (0, .class_ 3)] 3

/-- java/lang/Cloneable -/
def k14 : Class := { plain "java/lang/Cloneable" (some 0) with
  accessFlags := 1537
  interfaces := #[]
  cf := some (fileOf pool14 2 #[] #[] 1537 4 #[] #[])
  fields := #[]
  methods := #[]
  instanceTypes := #[]
  staticTypes := #[]
  resolved := Array.replicate 8 none
  statics := none }

/-- the primitive byte -/
def k15 : Class := { plain "byte" none with kind := .primitive 'B', accessFlags := 0x411 }
/-- [B -/
def k16 : Class := { plain "[B" (some 0) with kind := .array 15 .byte, interfaces := #[14, 4], accessFlags := 1041 }

/-- the primitive int -/
def k17 : Class := { plain "int" none with kind := .primitive 'I', accessFlags := 0x411 }
/-- [I -/
def k18 : Class := { plain "[I" (some 0) with kind := .array 17 .int, interfaces := #[14, 4], accessFlags := 1041 }

def heap : Heap := #[{ cls := 6, slots := #[.ref 4, .ref 3, .null, .null], vm := .statics 6 },
  { cls := 9, slots := #[.long 0, .int 1, .null, .int 0, .null, .int 0, .int 0], vm := .statics 9 },
  { cls := 12, slots := #[.null, .null, .null], vm := .statics 12 },
  { cls := 6, slots := #[.null, .int 0, .int 0, .null, .int 0], vm := .none },
  { cls := 6, slots := #[.null, .int 0, .int 0, .null, .int 1], vm := .none }]
def classes : Array Class := #[k0, k1, k2, k3, k4, k5, k6, k7, k8, k9, k10, k11, k12, k13, k14, k15, k16, k17, k18]
def interned : List (Array UInt16 × Addr) := []
def slotsUsed : Nat := 24
def theMethod : MethodId := ⟨1, 1⟩
def args0 : Array Value := #[.int 5, .int 6, .int 7, .int 8]
def aboutOver (below : List Frame) : State where
  vm := { classes := classes, interned := interned.toArray }
  heap := heap
  slotsUsed := slotsUsed
  threads := #[{ frames := .invoking theMethod args0 :: below }]
def below0 : List Frame := [.native { method := ⟨0, 0⟩, args := #[] }]
def about1 : State := aboutOver below0
def p0 : Program := .bare "" "" ""
def e0 : Env := launch0.env 0 0 0
theorem w_frames : about1.frames = Frame.invoking theMethod args0 :: below0 := rfl
set_option maxRecDepth 65536 in
theorem w_args : argsFit about1.vm theMethod args0 = true := by decide +kernel
set_option maxRecDepth 65536 in
theorem w_heap : heapFits about1 = true := by decide +kernel
set_option maxRecDepth 65536 in
theorem w_runnable : about1.curStatus? = some .runnable := by decide +kernel
set_option maxRecDepth 65536 in
theorem w_alone : about1.alone = true := by decide +kernel
set_option maxRecDepth 65536 in
theorem w_named : about1.methodNamed? x = some theMethod := by decide +kernel
set_option maxRecDepth 65536 in
theorem w_hears : about1.hears theMethod below0 = true := by decide +kernel
set_option maxRecDepth 65536 in
theorem w_ripe : about1.ripe theMethod args0 below0 = true := by decide +kernel
theorem w_running : about1.status = .running := rfl
set_option maxRecDepth 65536 in
theorem w_room : about1.hasRoom e0.platform room_1 = true :=
  launch0.hasRoom_least _ room_1 (by decide +kernel) (by decide +kernel) (by decide +kernel) (by decide +kernel) (by decide +kernel) (by decide +kernel)
theorem allAtoms_all (ts : List Jvm.Cond) (a : Array Jvm.Value) (st : Jvm.State) : (allAtoms ts).before a st = ts.all (fun c => c.before a st) := by
  induction ts with
  | nil => rfl
  | cons c t ih =>
    show (Jvm.Cond.and c (allAtoms t)).before a st = _
    rw [Jvm.Cond.before_and, ih, List.all_cons]
def words1 : List Jvm.Cond := Jvm.Cond.code x code maxLocals ret :: tables_1
/-- a 'code' word, met by the world's own term for the bytes: nothing is compared byte by byte -/
theorem code_word {y : MethodName} {bytes : ByteArray} {mx : Nat} {rt : Option FieldType} {a : Array Value} {s : State} {m : MethodId} {meth : Method} {c : Code} (h1 : s.methodNamed? y = some m) (h2 : s.vm.method? m = some meth) (h3 : meth.code = some c) (h4 : c.code = bytes)
    (h5 : (c.maxLocals == mx && c.exceptionTable.isEmpty && decide (c.maxStack ≤ mostOperands) && decide (meth.sig.returnType = rt) && !meth.locks && decide (parseMethodDescriptor y.desc = some meth.sig)) = true) : (Jvm.Cond.code y bytes mx rt).before a s = true := by
  simp only [Bool.and_eq_true, beq_iff_eq, Bool.not_eq_true', decide_eq_true_eq] at h5
  obtain ⟨⟨⟨⟨⟨g1, g2⟩, g3⟩, g4⟩, g5⟩, g6⟩ := h5
  simp [Cond.before, Cond.holds, Cond.value, h1, h2, h3, h4, g1, g2, g3, g4, g5, g6]
def isCode : Jvm.Cond → Bool
  | .code _ _ _ _ => true
  | _ => false
theorem all_split {L : List Jvm.Cond} {P : Jvm.Cond → Bool} (h1 : L.all (fun c => isCode c || P c) = true) (h2 : ∀ c ∈ L.filter isCode, P c = true) : L.all P = true := by
  refine List.all_eq_true.mpr fun c hc => ?_
  have h := List.all_eq_true.mp h1 c hc
  rcases Bool.eq_false_or_eq_true (isCode c) with hi | hi
  · exact h2 c (List.mem_filter.mpr ⟨hc, hi⟩)
  · simpa [hi] using h
set_option maxRecDepth 65536 in
theorem w_c0 : (Jvm.Cond.code x code maxLocals ret).before args0 about1 = true := code_word (m := ⟨1, 1⟩) (meth := k1m1) (c := k1c1) (by decide +kernel) rfl rfl rfl (by decide +kernel)
set_option maxRecDepth 65536 in
theorem w_c1 : (Jvm.Cond.code ({ cls := "java/lang/String", name := "valueOf", desc := "(C)Ljava/lang/String;" } : Jvm.MethodName) jdk_42_method_139_code (1 : Nat) (Option.some (Jvm.ClassFile.FieldType.object "java/lang/String"))).before args0 about1 = true := code_word (m := ⟨9, 1⟩) (meth := k9m1) (c := k9c1) (by decide +kernel) rfl rfl rfl (by decide +kernel)
set_option maxRecDepth 65536 in
theorem w_c2 : (Jvm.Cond.code ({ cls := "java/lang/StringLatin1", name := "canEncode", desc := "(C)Z" } : Jvm.MethodName) jdk_43_method_3_code (1 : Nat) (Option.some Jvm.ClassFile.FieldType.boolean)).before args0 about1 = true := code_word (m := ⟨10, 1⟩) (meth := k10m1) (c := k10c1) (by decide +kernel) rfl rfl rfl (by decide +kernel)
set_option maxRecDepth 65536 in
theorem w_c3 : (Jvm.Cond.code ({ cls := "java/lang/StringLatin1", name := "toBytes", desc := "(C)[B" } : Jvm.MethodName) jdk_43_method_46_code (1 : Nat) (Option.some (Jvm.ClassFile.FieldType.array Jvm.ClassFile.FieldType.byte))).before args0 about1 = true := code_word (m := ⟨10, 2⟩) (meth := k10m2) (c := k10c2) (by decide +kernel) rfl rfl rfl (by decide +kernel)
set_option maxRecDepth 65536 in
theorem w_c4 : (Jvm.Cond.code ({ cls := "java/lang/String", name := "<init>", desc := "([BB)V" } : Jvm.MethodName) jdk_42_method_151_code (3 : Nat) (Option.none : Option Jvm.ClassFile.FieldType)).before args0 about1 = true := code_word (m := ⟨9, 2⟩) (meth := k9m2) (c := k9c2) (by decide +kernel) rfl rfl rfl (by decide +kernel)
set_option maxRecDepth 65536 in
theorem w_c5 : (Jvm.Cond.code ({ cls := "java/lang/Object", name := "<init>", desc := "()V" } : Jvm.MethodName) object_method_1_code (1 : Nat) (Option.none : Option Jvm.ClassFile.FieldType)).before args0 about1 = true := code_word (m := ⟨0, 0⟩) (meth := k0m0) (c := k0c0) (by decide +kernel) rfl rfl rfl (by decide +kernel)
set_option maxRecDepth 65536 in
theorem w_c6 : (Jvm.Cond.code ({ cls := "com/example/sift_sentences/siftsentences/trec/RunLine", name := "<init>", desc := "(Ljava/lang/String;Ljava/lang/String;D)V" } : Jvm.MethodName) prog_37_method_1_code (5 : Nat) (Option.none : Option Jvm.ClassFile.FieldType)).before args0 about1 = true := code_word (m := ⟨11, 0⟩) (meth := k11m0) (c := k11c0) (by decide +kernel) rfl rfl rfl (by decide +kernel)
set_option maxRecDepth 65536 in
theorem w_c7 : (Jvm.Cond.code ({ cls := "com/example/sift_sentences/siftsentences/eval/TieRule", name := "groups", desc := "(Lcom/example/sift_sentences/siftsentences/trec/RunLine;Lcom/example/sift_sentences/siftsentences/trec/RunLine;)Z" } : Jvm.MethodName) prog_13_method_5_code (3 : Nat) (Option.some Jvm.ClassFile.FieldType.boolean)).before args0 about1 = true := code_word (m := ⟨6, 0⟩) (meth := k6m0) (c := k6c0) (by decide +kernel) rfl rfl rfl (by decide +kernel)
set_option maxRecDepth 65536 in
theorem w_c8 : (Jvm.Cond.code ({ cls := "com/example/sift_sentences/siftsentences/trec/RunLine", name := "getScore", desc := "()D" } : Jvm.MethodName) prog_37_method_4_code (1 : Nat) (Option.some Jvm.ClassFile.FieldType.double)).before args0 about1 = true := code_word (m := ⟨11, 1⟩) (meth := k11m1) (c := k11c1) (by decide +kernel) rfl rfl rfl (by decide +kernel)
def codes1 : List Jvm.Cond := [Jvm.Cond.code x code maxLocals ret, Jvm.Cond.code ({ cls := "java/lang/String", name := "valueOf", desc := "(C)Ljava/lang/String;" } : Jvm.MethodName) jdk_42_method_139_code (1 : Nat) (Option.some (Jvm.ClassFile.FieldType.object "java/lang/String")), Jvm.Cond.code ({ cls := "java/lang/StringLatin1", name := "canEncode", desc := "(C)Z" } : Jvm.MethodName) jdk_43_method_3_code (1 : Nat) (Option.some Jvm.ClassFile.FieldType.boolean), Jvm.Cond.code ({ cls := "java/lang/StringLatin1", name := "toBytes", desc := "(C)[B" } : Jvm.MethodName) jdk_43_method_46_code (1 : Nat) (Option.some (Jvm.ClassFile.FieldType.array Jvm.ClassFile.FieldType.byte)), Jvm.Cond.code ({ cls := "java/lang/String", name := "<init>", desc := "([BB)V" } : Jvm.MethodName) jdk_42_method_151_code (3 : Nat) (Option.none : Option Jvm.ClassFile.FieldType), Jvm.Cond.code ({ cls := "java/lang/Object", name := "<init>", desc := "()V" } : Jvm.MethodName) object_method_1_code (1 : Nat) (Option.none : Option Jvm.ClassFile.FieldType), Jvm.Cond.code ({ cls := "com/example/sift_sentences/siftsentences/trec/RunLine", name := "<init>", desc := "(Ljava/lang/String;Ljava/lang/String;D)V" } : Jvm.MethodName) prog_37_method_1_code (5 : Nat) (Option.none : Option Jvm.ClassFile.FieldType), Jvm.Cond.code ({ cls := "com/example/sift_sentences/siftsentences/eval/TieRule", name := "groups", desc := "(Lcom/example/sift_sentences/siftsentences/trec/RunLine;Lcom/example/sift_sentences/siftsentences/trec/RunLine;)Z" } : Jvm.MethodName) prog_13_method_5_code (3 : Nat) (Option.some Jvm.ClassFile.FieldType.boolean), Jvm.Cond.code ({ cls := "com/example/sift_sentences/siftsentences/trec/RunLine", name := "getScore", desc := "()D" } : Jvm.MethodName) prog_37_method_4_code (1 : Nat) (Option.some Jvm.ClassFile.FieldType.double)]
set_option maxRecDepth 65536 in
theorem codes_eq : words1.filter isCode = codes1 := rfl
theorem w_codes : ∀ c ∈ words1.filter isCode, c.before args0 about1 = true := by
  rw [codes_eq]
  intro c hc
  simp only [codes1, List.mem_cons, List.not_mem_nil, or_false] at hc
  rcases hc with rfl | rfl | rfl | rfl | rfl | rfl | rfl | rfl | rfl
  · exact w_c0
  · exact w_c1
  · exact w_c2
  · exact w_c3
  · exact w_c4
  · exact w_c5
  · exact w_c6
  · exact w_c7
  · exact w_c8
set_option maxRecDepth 65536 in
theorem w_t1 : (words1.take 24).all (fun c => isCode c || c.before args0 about1) = true := by decide +kernel
set_option maxRecDepth 65536 in
theorem w_t2 : ((words1.drop 24).take 24).all (fun c => isCode c || c.before args0 about1) = true := by decide +kernel
set_option maxRecDepth 65536 in
theorem w_t3 : ((words1.drop 24).drop 24).all (fun c => isCode c || c.before args0 about1) = true := by decide +kernel
theorem w_tables : (allAtoms (Jvm.Cond.code x code maxLocals ret :: tables_1)).before args0 about1 = true := by
  rw [allAtoms_all]
  show words1.all (fun c => c.before args0 about1) = true
  refine all_split ?_ w_codes
  rw [← List.take_append_drop 24 words1, List.all_append, w_t1, ← List.take_append_drop 24 (words1.drop 24), List.all_append, w_t2, w_t3]
  rfl
set_option maxRecDepth 65536 in
theorem w_rest : rest_1_c.before args0 about1 = true := by decide +kernel
set_option maxRecDepth 65536 in
theorem w_case : (Jvm.Cond.and given_1 narrow_1).before args0 about1 = true := by decide +kernel
theorem w_applies : (headSpec (Jvm.Cond.code x code maxLocals ret :: tables_1) room_1).applies x e0.platform about1 = true :=
  (Spec.applies_iff w_frames).mpr ⟨w_running, w_runnable, w_alone, w_named, w_hears, w_ripe, w_room, w_tables⟩
theorem atStart : AtStart classFile x code maxLocals ret World_1 tables_1 room_1 Calls_1 rest_1 Pre_1 launch0 p0 e0 about1 theMethod args0 below0 :=
  ⟨lists_1, trivial, launch0.admits_env _ _ _, launch0.least_env, fairChoices_fair.cas, fairChoices_fair.clock, w_frames, w_args, w_heap, w_applies, trivial, w_rest, w_case⟩
end start1
theorem witness_1 : WitnessClaimed_1 := ⟨start1.p0, start1.e0, start1.about1, start1.theMethod, start1.args0, start1.below0, start1.atStart⟩
end Jvm.Pilot.@@N@@
