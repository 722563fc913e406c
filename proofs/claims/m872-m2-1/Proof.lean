import JvmDerived
import JvmDerived.Pilot.@@N@@Statement
import JvmDerived.Pilot.@@N@@Code
set_option linter.unusedVariables false
set_option linter.unusedSimpArgs false
namespace Jvm.OwnKit
open Sem ClassFile Op Lib Jvm.Stand Jvm.Free Jvm.LawKit Jvm.RoadKit
/-- from the frame g over T the run ends, and what it leaves is Q's -/
def Go (p : Program) (e : Env) (below : List Frame) (s : State) (Q : Option Value → Heap → List Loc → Prop) (C S : Nat) (T : State) (g : JFrame) : Prop :=
  ∃ s₂ o, Steps p.tables e below (T.setTop g) s₂ ∧ s₂.status = .running ∧ Ended s₂ below o ∧ ∃ v L, o = .returned v ∧ Q v s₂.heap L ∧ FrameEnd s o s₂ L C S
section OwnGo
variable {p : Program} {l : Launch} {e : Env} {R : Room} {s : State} {m : MethodId} {args : Array Value} {below : List Frame} {meth : Method} {c : Code} {T T' : State} {locs : List Loc} {cells slots : Nat} {Q : Option Value → Heap → List Loc → Prop} {C S : Nat} {g g' : JFrame}
theorem Go.st (h : ∀ t, Steps p.tables e below (T'.setTop g') t → Steps p.tables e below (T.setTop g) t) (k : Go p e below s Q C S T' g') : Go p e below s Q C S T g := by
  obtain ⟨s₂, o, h1, h2⟩ := k
  exact ⟨s₂, o, h _ h1, h2⟩
theorem Go.eq (q : g = g') (k : Go p e below s Q C S T g') : Go p e below s Q C S T g := q ▸ k
theorem Go.retV (X : Stand p l e R s m args below meth c T locs cells slots) (hx : p.tables.exec = Jvm.exec) (hlk : meth.locks = false) {pc : Nat} {Ls : Array Slot} {w : Value} {t : FieldType} {i : Instr} {rest : List Value} (hret : meth.sig.returnType = some t) (hn : narrow t w = w)
    (hi : (i = .ireturn ∧ (t = .int ∨ t = .boolean ∨ t = .byte ∨ t = .char ∨ t = .short) ∧ ∃ z, w = .int z) ∨ (i = .lreturn ∧ t = .long ∧ ∃ z, w = .long z) ∨ (i = .dreturn ∧ t = .double ∧ ∃ z, w = .double z) ∨ (i = .freturn ∧ t = .float ∧ ∃ z, w = .float z) ∨ (i = .areturn ∧ t.isReference = true ∧ w.isRef = true))
    (hd : decode c.code pc = .ok (i, 1)) (hQ : Q (some w) T.heap locs) (hc : cells ≤ C) (hs : slots ≤ S) : Go p e below s Q C S T (mkF m pc Ls (w :: rest)) := by
  obtain ⟨fs, hr, hrun, hended, hW, hsame⟩ := X.leave (v := some w) (fun h => by rw [hret] at h; cases h) hlk
  exact ⟨_, _, retOut X hx hret hn hi hd hr, hrun, hended, _, _, rfl, hQ, ⟨_, rfl⟩, hW, hsame.mono hc hs⟩
theorem Go.retI (X : Stand p l e R s m args below meth c T locs cells slots) (hx : p.tables.exec = Jvm.exec) (hlk : meth.locks = false) {pc : Nat} {Ls : Array Slot} {z : Int32} {rest : List Value} (hret : meth.sig.returnType = some .int) (hd : decode c.code pc = .ok (.ireturn, 1)) (hQ : Q (some (.int z)) T.heap locs) (hc : cells ≤ C) (hs : slots ≤ S) : Go p e below s Q C S T (mkF m pc Ls (.int z :: rest)) :=
  Go.retV X hx hlk hret rfl (Or.inl ⟨rfl, Or.inl rfl, _, rfl⟩) hd hQ hc hs
theorem Go.retZ (X : Stand p l e R s m args below meth c T locs cells slots) (hx : p.tables.exec = Jvm.exec) (hlk : meth.locks = false) {pc : Nat} {Ls : Array Slot} {z : Int32} {rest : List Value} (hret : meth.sig.returnType = some .boolean) (hd : decode c.code pc = .ok (.ireturn, 1)) (hn : narrow .boolean (.int z) = .int z) (hQ : Q (some (.int z)) T.heap locs) (hc : cells ≤ C) (hs : slots ≤ S) : Go p e below s Q C S T (mkF m pc Ls (.int z :: rest)) :=
  Go.retV X hx hlk hret hn (Or.inl ⟨rfl, Or.inr (Or.inl rfl), _, rfl⟩) hd hQ hc hs
theorem Go.retB (X : Stand p l e R s m args below meth c T locs cells slots) (hx : p.tables.exec = Jvm.exec) (hlk : meth.locks = false) {pc : Nat} {Ls : Array Slot} {z : Int32} {rest : List Value} (hret : meth.sig.returnType = some .byte) (hd : decode c.code pc = .ok (.ireturn, 1)) (hn : narrow .byte (.int z) = .int z) (hQ : Q (some (.int z)) T.heap locs) (hc : cells ≤ C) (hs : slots ≤ S) : Go p e below s Q C S T (mkF m pc Ls (.int z :: rest)) :=
  Go.retV X hx hlk hret hn (Or.inl ⟨rfl, Or.inr (Or.inr (Or.inl rfl)), _, rfl⟩) hd hQ hc hs
theorem Go.retC (X : Stand p l e R s m args below meth c T locs cells slots) (hx : p.tables.exec = Jvm.exec) (hlk : meth.locks = false) {pc : Nat} {Ls : Array Slot} {z : Int32} {rest : List Value} (hret : meth.sig.returnType = some .char) (hd : decode c.code pc = .ok (.ireturn, 1)) (hn : narrow .char (.int z) = .int z) (hQ : Q (some (.int z)) T.heap locs) (hc : cells ≤ C) (hs : slots ≤ S) : Go p e below s Q C S T (mkF m pc Ls (.int z :: rest)) :=
  Go.retV X hx hlk hret hn (Or.inl ⟨rfl, Or.inr (Or.inr (Or.inr (Or.inl rfl))), _, rfl⟩) hd hQ hc hs
theorem Go.retJ (X : Stand p l e R s m args below meth c T locs cells slots) (hx : p.tables.exec = Jvm.exec) (hlk : meth.locks = false) {pc : Nat} {Ls : Array Slot} {z : Int64} {rest : List Value} (hret : meth.sig.returnType = some .long) (hd : decode c.code pc = .ok (.lreturn, 1)) (hQ : Q (some (.long z)) T.heap locs) (hc : cells ≤ C) (hs : slots ≤ S) : Go p e below s Q C S T (mkF m pc Ls (.long z :: rest)) :=
  Go.retV X hx hlk hret rfl (Or.inr (Or.inl ⟨rfl, rfl, _, rfl⟩)) hd hQ hc hs
theorem own_nar_ref {t : FieldType} {w : Value} (hw : w.isRef = true) : narrow t w = w := by
  rcases ref_cases hw with rfl | ⟨_, rfl⟩ <;> cases t <;> rfl
theorem Go.retA (X : Stand p l e R s m args below meth c T locs cells slots) (hx : p.tables.exec = Jvm.exec) (hlk : meth.locks = false) {pc : Nat} {Ls : Array Slot} {w : Value} {t : FieldType} {rest : List Value} (hret : meth.sig.returnType = some t) (ht : t.isReference = true) (hw : w.isRef = true) (hd : decode c.code pc = .ok (.areturn, 1)) (hQ : Q (some w) T.heap locs) (hc : cells ≤ C) (hs : slots ≤ S) : Go p e below s Q C S T (mkF m pc Ls (w :: rest)) :=
  Go.retV X hx hlk hret (own_nar_ref hw) (Or.inr (Or.inr (Or.inr (Or.inr ⟨rfl, ht, hw⟩)))) hd hQ hc hs
theorem Go.ret0 (X : Stand p l e R s m args below meth c T locs cells slots) (hx : p.tables.exec = Jvm.exec) (hlk : meth.locks = false) {pc : Nat} {Ls : Array Slot} (hret : meth.sig.returnType = none) (hd : decode c.code pc = .ok (.return_, 1)) (hQ : Q none T.heap locs) (hc : cells ≤ C) (hs : slots ≤ S) : Go p e below s Q C S T (mkF m pc Ls []) := by
  obtain ⟨fs, hr, hrun, hended, hW, hsame⟩ := X.leave (v := none) (fun _ => rfl) hlk
  exact ⟨_, _, X.returnOut hx hret hd hr, hrun, hended, _, _, rfl, hQ, ⟨_, rfl⟩, hW, hsame.mono hc hs⟩
end OwnGo
/-- a proposition as Java's boolean -/
def b2i (P : Prop) [Decidable P] : Int32 := if P then 1 else 0
theorem b2i_pos {P : Prop} [Decidable P] (h : P) : b2i P = 1 := if_pos h
theorem b2i_neg {P : Prop} [Decidable P] (h : ¬ P) : b2i P = 0 := if_neg h
theorem b2i_ne {P : Prop} [Decidable P] (h : P) : ¬ b2i P = 0 := by rw [b2i_pos h]; decide
theorem b2i_zero {P : Prop} [Decidable P] (h : ¬ P) : b2i P = 0 := b2i_neg h
theorem own_b2i_t {P : Prop} [Decidable P] (h : P) : some (Value.int 1) = some (Value.int (b2i P)) := by rw [b2i_pos h]
theorem own_b2i_f {P : Prop} [Decidable P] (h : ¬ P) : some (Value.int 0) = some (Value.int (b2i P)) := by rw [b2i_neg h]
theorem own_nb (y : Int32) : nar .byte (y.toInt8.toInt32) = y.toInt8.toInt32 := by
  show y.toInt8.toInt32.toInt8.toInt32 = y.toInt8.toInt32
  simp
theorem own_nc (y : Int32) : nar .char (y.toUInt32.toUInt16.toUInt32.toInt32) = y.toUInt32.toUInt16.toUInt32.toInt32 := by
  show (y.toUInt32.toUInt16.toUInt32.toInt32).toUInt32.toUInt16.toUInt32.toInt32 = y.toUInt32.toUInt16.toUInt32.toInt32
  rw [UInt32.toUInt32_toInt32, UInt16.toUInt16_toUInt32]
theorem own_nbv (y : Int32) : narrow .byte (.int (y.toInt8.toInt32)) = .int (y.toInt8.toInt32) := congrArg Value.int (own_nb y)
theorem own_and1 (a : Int32) : a &&& (1 : Int32) = (0 : Int32) ∨ a &&& (1 : Int32) = (1 : Int32) := and_one a
theorem own_and3 (a : Int32) : a &&& (3 : Int32) = (0 : Int32) ∨ a &&& (3 : Int32) = (1 : Int32) ∨ a &&& (3 : Int32) = (2 : Int32) ∨ a &&& (3 : Int32) = (3 : Int32) := by
  have e := c_mask a 3 2 (by decide) (by decide)
  have h : (a &&& (3 : Int32)).toInt = 0 ∨ (a &&& (3 : Int32)).toInt = 1 ∨ (a &&& (3 : Int32)).toInt = 2 ∨ (a &&& (3 : Int32)).toInt = 3 := by omega
  rcases h with h | h | h | h
  · exact Or.inl (Int32.toInt_inj.mp (h.trans (by decide)))
  · exact Or.inr (Or.inl (Int32.toInt_inj.mp (h.trans (by decide))))
  · exact Or.inr (Or.inr (Or.inl (Int32.toInt_inj.mp (h.trans (by decide)))))
  · exact Or.inr (Or.inr (Or.inr (Int32.toInt_inj.mp (h.trans (by decide)))))
theorem own_ord {s : State} {args : Array Value} {t : Term} {a : Addr} {C n d : String} {k : Int32} (ev : t.eval args s none [] s = some (.ref a)) (h : (Jvm.Cond.eq (Term.field t C n d) (Term.int k)).value args s none s [] = some true) : Fld s s.heap a C n d (.int k) := by
  obtain ⟨u, w, hu, hw, k1, k2⟩ := cmp_v (Or.inl h)
  have hw' : (Term.int k).eval args s none [] s = some (.int k) := Term.int_eval k
  cases hw.symm.trans hw'
  obtain ⟨z, rfl⟩ : ∃ z, u = .int z := k2
  have hz : z = k := gotT (Cond.eq_ints hu hw') h
  subst hz
  exact Fld.start ((fld_at ev).symm.trans hu)
section OwnBounds
variable {c a b : Int32} {n : Int}
theorem own_i1 (h : c < a) (q : a.toInt ≤ b.toInt) : c < b := by rw [Int32.lt_iff_toInt_lt] at *; omega
theorem own_i2 (h : ¬ a < c) (q : a.toInt < b.toInt) : c < b := by rw [Int32.lt_iff_toInt_lt] at *; omega
theorem own_i3 (h : ¬ c < a) (q : b.toInt ≤ a.toInt) : ¬ c < b := by rw [Int32.lt_iff_toInt_lt] at *; omega
theorem own_i4 (h : a < c) (q : b.toInt ≤ a.toInt + 1) : ¬ c < b := by rw [Int32.lt_iff_toInt_lt] at *; omega
theorem own_j1 (h : c < a) (q : a.toInt ≤ b.toInt + 1) : ¬ b < c := by rw [Int32.lt_iff_toInt_lt] at *; omega
theorem own_j2 (h : ¬ a < c) (q : a.toInt ≤ b.toInt) : ¬ b < c := by rw [Int32.lt_iff_toInt_lt] at *; omega
theorem own_j3 (h : ¬ c < a) (q : b.toInt < a.toInt) : b < c := by rw [Int32.lt_iff_toInt_lt] at *; omega
theorem own_j4 (h : a < c) (q : b.toInt ≤ a.toInt) : b < c := by rw [Int32.lt_iff_toInt_lt] at *; omega
theorem own_k1 (h : c < a) (q : a.toInt ≤ b.toInt) : ¬ c = b := fun e => by rw [e, Int32.lt_iff_toInt_lt] at h; omega
theorem own_k2 (h : ¬ a < c) (q : a.toInt < b.toInt) : ¬ c = b := fun e => by rw [e, Int32.lt_iff_toInt_lt] at h; omega
theorem own_k3 (h : ¬ c < a) (q : b.toInt < a.toInt) : ¬ c = b := fun e => by rw [e, Int32.lt_iff_toInt_lt] at h; omega
theorem own_k4 (h : a < c) (q : b.toInt ≤ a.toInt) : ¬ c = b := fun e => by rw [e, Int32.lt_iff_toInt_lt] at h; omega
theorem own_c1 (h : c < a) (q : a.toInt = n) : c.toInt < n := by rw [Int32.lt_iff_toInt_lt] at h; omega
theorem own_c2 (h : ¬ a < c) (q : a.toInt = n) : c.toInt ≤ n := by rw [Int32.lt_iff_toInt_lt] at h; omega
theorem own_c3 (h : ¬ c < a) (q : a.toInt = n) : n ≤ c.toInt := by rw [Int32.lt_iff_toInt_lt] at h; omega
theorem own_c4 (h : a < c) (q : a.toInt = n) : n < c.toInt := by rw [Int32.lt_iff_toInt_lt] at h; omega
theorem own_c5 (h : c = a) (q : a.toInt = n) : c.toInt = n := by rw [h]; exact q
theorem own_c6 (h : ¬ c = a) (q : a.toInt = n) : ¬ c.toInt = n := fun e => h (Int32.toInt_inj.mp (e.trans q.symm))
end OwnBounds
theorem own_addc {a b c d : Int32} (h : b + c = d) : (a + b) + c = a + d := by rw [Int32.add_assoc, h]
theorem own_byte_of {v : Value} (h : fits .byte v = true) : ∃ w, v = .int w ∧ narrow .byte (.int w) = .int w := by
  cases v with
  | int w =>
    refine ⟨w, rfl, ?_⟩
    obtain ⟨h1, h2⟩ := rng_byte h
    have e := c_i2b w
    have e1 : (-128 : Int32).toInt = -128 := by decide
    have e2 : (127 : Int32).toInt = 127 := by decide
    rw [Int32.lt_iff_toInt_lt, e1] at h1
    rw [Int32.lt_iff_toInt_lt, e2] at h2
    have e3 : w.toInt8.toInt32 = w := Int32.toInt_inj.mp (by omega)
    exact congrArg Value.int e3
  | _ => simp [fits] at h
theorem own_arv_nostat {Z : State} {h : Heap} {a : Addr} {k : ClassId} {ty : FieldType} {z : Int32} {vs : List Value} {dv : Value} (F : Arv Z h a k ty z vs dv) : ∀ cell : Cell, h[a]? = some cell → cell.vm.isStatics = false := by
  obtain ⟨c, A, -⟩ := F
  intro cell hc
  cases A.1.symm.trans hc
  exact A.plain
theorem own_selP {s : State} {args args' : Array Value} {y y' : MethodName} (hsel : (Jvm.Cond.selects y'.cls y' y').before args s = true) (he : y.cls = y'.cls) (hp : s.PrivateAt y) (hi : (Jvm.Cond.instanceMethod y).before args s = true) (hy : y.cls ≠ "java/lang/invoke/MethodHandle" ∧ y.cls ≠ "java/lang/invoke/VarHandle") : (Jvm.Cond.selects y.cls y y).before args s = true := by
  obtain ⟨c2, r2, m2, -, -, q3, -, kP, hkP, hkPi⟩ := Cond.selects_spec hsel
  exact Jvm.Stand.selects_self_of_private (by rw [he]; exact findClass_of_methodNamed q3) hkP hkPi hp hi hy
theorem own_irr {a : Int32} : ¬ (a < a) := Int32.lt_irrefl
theorem own_irrL {a : Int64} : ¬ (a < a) := Int64.lt_irrefl
theorem own_sta_keep {Z : State} {h h' : Heap} {C n d : String} {v : Value} {ws : List Addr} (F : Sta Z h C n d v) (K : Keep h h' ws) (q : ∀ x ∈ ws, ∀ cell : Cell, h[x]? = some cell → cell.vm.isStatics = false) : Sta Z h' C n d v := by
  obtain ⟨cf, i, k, f, st, cell, h1, h2, h3, h4, h5, h6, h7⟩ := F
  refine ⟨cf, i, k, f, st, cell, h1, h2, h3, h4, K.2.1 _ _ h5 (fun hm => ?_), h6, h7⟩
  have := q _ hm _ h5
  rw [h6] at this
  cases this
end Jvm.OwnKit
namespace Jvm.Pilot.@@N@@
open Jvm Jvm.ClassFile Sem Op Lib Jvm.Free Jvm.Stand Jvm.LawKit Jvm.RoadKit Jvm.OwnKit Bundle Jvm.Pilot.@@N@@.Jvm.D
theorem own_c255 (a : Int32) : ¬ (255 : Int32) < ((a &&& (255 : Int32)).toUInt32.toUInt16.toUInt32.toInt32) := by
  have e := c_mask a 255 8 (by decide) (by decide)
  have e2 := c_i2c (a &&& (255 : Int32))
  have h0 : (255 : Int32).toInt = 255 := by decide
  rw [Int32.lt_iff_toInt_lt, h0]
  omega
theorem own_ge {a : Int64} (h : ¬ a < (1 : Int64)) : (0 : Int64) < a := by
  have h1 : (1 : Int64).toInt = 1 := by decide
  have h0 : (0 : Int64).toInt = 0 := by decide
  rw [Int64.lt_iff_toInt_lt] at *
  omega
theorem own_lt {a : Int64} (h : a < (1 : Int64)) : ¬ (0 : Int64) < a := by
  have h1 : (1 : Int64).toInt = 1 := by decide
  have h0 : (0 : Int64).toInt = 0 := by decide
  rw [Int64.lt_iff_toInt_lt] at *
  omega
theorem d5_0 : decode jdk_52_method_21_code 0 = .ok (.iconst 0, 1) := by decide +kernel
theorem d5_1 : decode jdk_52_method_21_code 1 = .ok (.istore 5, 2) := by decide +kernel
theorem d5_3 : decode jdk_52_method_21_code 3 = .ok (.iload 5, 2) := by decide +kernel
theorem d5_5 : decode jdk_52_method_21_code 5 = .ok (.iload 4, 2) := by decide +kernel
theorem d5_7 : decode jdk_52_method_21_code 7 = .ok (.if_icmp .ge 37, 3) := by decide +kernel
theorem d5_10 : decode jdk_52_method_21_code 10 = .ok (.aload_n 0, 1) := by decide +kernel
theorem d5_11 : decode jdk_52_method_21_code 11 = .ok (.iload_n 1, 1) := by decide +kernel
theorem d5_12 : decode jdk_52_method_21_code 12 = .ok (.caload, 1) := by decide +kernel
theorem d5_13 : decode jdk_52_method_21_code 13 = .ok (.istore 6, 2) := by decide +kernel
theorem d5_15 : decode jdk_52_method_21_code 15 = .ok (.iload 6, 2) := by decide +kernel
theorem d5_17 : decode jdk_52_method_21_code 17 = .ok (.sipush 255, 3) := by decide +kernel
theorem d5_20 : decode jdk_52_method_21_code 20 = .ok (.if_icmp .le 6, 3) := by decide +kernel
theorem d5_26 : decode jdk_52_method_21_code 26 = .ok (.aload_n 2, 1) := by decide +kernel
theorem d5_27 : decode jdk_52_method_21_code 27 = .ok (.iload_n 3, 1) := by decide +kernel
theorem d5_28 : decode jdk_52_method_21_code 28 = .ok (.iload 6, 2) := by decide +kernel
theorem d5_30 : decode jdk_52_method_21_code 30 = .ok (.i2b, 1) := by decide +kernel
theorem d5_31 : decode jdk_52_method_21_code 31 = .ok (.bastore, 1) := by decide +kernel
theorem d5_32 : decode jdk_52_method_21_code 32 = .ok (.iinc 1 1, 3) := by decide +kernel
theorem d5_35 : decode jdk_52_method_21_code 35 = .ok (.iinc 3 1, 3) := by decide +kernel
theorem d5_38 : decode jdk_52_method_21_code 38 = .ok (.iinc 5 1, 3) := by decide +kernel
theorem d5_41 : decode jdk_52_method_21_code 41 = .ok (.goto (-38), 3) := by decide +kernel
theorem d5_44 : decode jdk_52_method_21_code 44 = .ok (.iload 4, 2) := by decide +kernel
theorem d5_46 : decode jdk_52_method_21_code 46 = .ok (.ireturn, 1) := by decide +kernel
theorem pn_0 : plainName "java/lang/StringUTF16" = true := by first | (simp [plainName, overriddenIn]; done) | decide +kernel
theorem ef_rmC2 (m : MethodId) (t : Addr) (d : Addr) : entryFrame m #[(.ref t), (.int (0 : Int32)), (.ref d), (.int (0 : Int32)), (.int (1 : Int32))] 7 = mkF m 0 #[.val (.ref t), .val (.int (0 : Int32)), .val (.ref d), .val (.int (0 : Int32)), .val (.int (1 : Int32)), .unset, .unset] [] := by first | (simp [entryFrame, mkF, argsToLocals, Value.category]; done) | rfl
def QrmC2 (Z : State) (t : Addr) (d : Addr) (kt : ClassId) (kd : ClassId) (ch : Int32) (h0 : Heap) (n0 : Nat) (rV : Option Value) (hE : Heap) (LE : List Loc) : Prop := rV = some (.int (1 : Int32)) ∧ Fr n0 LE ∧ Keep h0 hE [d] ∧ Arv Z hE d kd .byte (1 : Int32) [(.int (ch.toInt8.toInt32))] (.int (0 : Int32))
set_option maxRecDepth 65536 in
set_option maxHeartbeats 40000000 in
theorem rmC2 (l : Launch) (Z : State) (a0 : Array Value) (hw : ∀ d ∈ tables_1, d.before a0 Z = true) (ws : List Jvm.Cond) (t : Addr) (d : Addr) (kt : ClassId) (kd : ClassId) (ch : Int32) (h0 : Heap) (n0 : Nat) (Z0 : n0 ≤ h0.size) (V_t : Arv Z h0 t kt .char (1 : Int32) [(.int ch)] (.int (0 : Int32))) (V_d : Arv Z h0 d kd .byte (1 : Int32) [(.int (0 : Int32))] (.int (0 : Int32))) (g_d : n0 ≤ d) (ne_t_d : t ≠ d) (hch : ¬ ((255 : Int32) < ch)) :
    MetFree l (⟨"java/lang/StringUTF16", "compress", "([CI[BII)I"⟩ : MethodName) (head1 (Jvm.Cond.code (⟨"java/lang/StringUTF16", "compress", "([CI[BII)I"⟩ : MethodName) jdk_52_method_21_code 7 (some .int) :: ws) ({ frames := 0, cells := 0, slots := 0, locals := 0 } : Room)) (fun aA UA => aA = #[(.ref t), (.int (0 : Int32)), (.ref d), (.int (0 : Int32)), (.int (1 : Int32))] ∧ Z.Warmed39 UA.vm ∧ UA.heap = h0) (fun _ _ _ _ _ => True) (fun _ UA oA UB => ∃ rV LE, oA = .returned rV ∧ QrmC2 Z t d kt kd ch h0 n0 rV UB.heap LE ∧ FrameEnd UA oA UB LE ({ frames := 0, cells := 0, slots := 0, locals := 0 } : Room).cells ({ frames := 0, cells := 0, slots := 0, locals := 0 } : Room).slots) := by
  refine MetFree.of_bodySF (plainFor_of_name pn_0) hisR ?_
  intro p e s m args below meth c s₁ Bd hml0 hP hK
  obtain ⟨rfl, hZ, hh⟩ := hP
  have hx := Bd.exec
  have hby := Bd.bytes
  have hml : c.maxLocals = 7 := hml0
  have hown : s.vm.findClass "java/lang/StringUTF16" = some m.cls := findClass_of_methodNamed Bd.named
  have hnm := (name_of_methodNamed Bd.named Bd.method).1
  have hlk := Bd.notSynchronized
  have X0 : Stand p l e ({ frames := 0, cells := 0, slots := 0, locals := 0 } : Room) s m #[(.ref t), (.int (0 : Int32)), (.ref d), (.int (0 : Int32)), (.int (1 : Int32))] below meth c s₁ [] 0 0 := Stand.of_body Bd
  have e0 : s₁.heap = h0 := by rw [← hh, Bd.state]; rfl
  have N0 := Fr.nil n0
  show Go p e below s (QrmC2 Z t d kt kd ch h0 n0) ({ frames := 0, cells := 0, slots := 0, locals := 0 } : Room).cells ({ frames := 0, cells := 0, slots := 0, locals := 0 } : Room).slots s₁ (entryFrame m #[(.ref t), (.int (0 : Int32)), (.ref d), (.int (0 : Int32)), (.int (1 : Int32))] 7)
  refine Go.eq (ef_rmC2 m t d) ?_
  show Go p e below s _ _ _ s₁ (mkF m 0 #[.val (.ref t), .val (.int (0 : Int32)), .val (.ref d), .val (.int (0 : Int32)), .val (.int (1 : Int32)), .unset, .unset] [])
  refine Go.st (fun _ => XS.iconst X0.here hx rfl (hb hby d5_0)) ?_
  show Go p e below s _ _ _ s₁ (mkF m 1 #[.val (.ref t), .val (.int (0 : Int32)), .val (.ref d), .val (.int (0 : Int32)), .val (.int (1 : Int32)), .unset, .unset] [(.int (0 : Int32))])
  refine Go.st (fun _ => XS.istore X0.here hx rfl (hb hby d5_1) rfl (l' := #[.val (.ref t), .val (.int (0 : Int32)), .val (.ref d), .val (.int (0 : Int32)), .val (.int (1 : Int32)), .val (.int (0 : Int32)), .unset]) rfl) ?_
  show Go p e below s _ _ _ s₁ (mkF m 3 #[.val (.ref t), .val (.int (0 : Int32)), .val (.ref d), .val (.int (0 : Int32)), .val (.int (1 : Int32)), .val (.int (0 : Int32)), .unset] [])
  refine Go.st (fun _ => XS.iload X0.here hx rfl (hb hby d5_3) rfl) ?_
  show Go p e below s _ _ _ s₁ (mkF m 5 #[.val (.ref t), .val (.int (0 : Int32)), .val (.ref d), .val (.int (0 : Int32)), .val (.int (1 : Int32)), .val (.int (0 : Int32)), .unset] [(.int (0 : Int32))])
  refine Go.st (fun _ => XS.iload X0.here hx rfl (hb hby d5_5) rfl) ?_
  show Go p e below s _ _ _ s₁ (mkF m 7 #[.val (.ref t), .val (.int (0 : Int32)), .val (.ref d), .val (.int (0 : Int32)), .val (.int (1 : Int32)), .val (.int (0 : Int32)), .unset] [(.int (1 : Int32)), (.int (0 : Int32))])
  refine Go.st (fun _ => XS.icmpNo X0.here hx rfl (hb hby d5_7) rfl (tlt (by decide : (0 : Int32) < (1 : Int32))).2.1) ?_
  show Go p e below s _ _ _ s₁ (mkF m 10 #[.val (.ref t), .val (.int (0 : Int32)), .val (.ref d), .val (.int (0 : Int32)), .val (.int (1 : Int32)), .val (.int (0 : Int32)), .unset] [])
  refine Go.st (fun _ => XS.aloadN X0.here hx rfl (hb hby d5_10) rfl rfl) ?_
  show Go p e below s _ _ _ s₁ (mkF m 11 #[.val (.ref t), .val (.int (0 : Int32)), .val (.ref d), .val (.int (0 : Int32)), .val (.int (1 : Int32)), .val (.int (0 : Int32)), .unset] [(.ref t)])
  refine Go.st (fun _ => XS.iloadN X0.here hx rfl (hb hby d5_11) rfl) ?_
  show Go p e below s _ _ _ s₁ (mkF m 12 #[.val (.ref t), .val (.int (0 : Int32)), .val (.ref d), .val (.int (0 : Int32)), .val (.int (1 : Int32)), .val (.int (0 : Int32)), .unset] [(.int (0 : Int32)), (.ref t)])
  obtain ⟨cl1, Ar1, q1, S1, M1, H1, G1⟩ := id V_t
  have hin1 : ¬ ((0 : Int32) < 0 ∨ cl1.slots.size ≤ ((0 : Int32)).toNatClampNeg) := inb_of S1 ⟨by decide, by decide⟩
  have hat1 : cl1.slots[((0 : Int32)).toNatClampNeg]? = some (.int ch) := H1.at hin1 rfl
  refine Go.st (fun tG => X0.caload hx (j := (0 : Int32)) (v := (.int ch)) (by rw [e0]; exact Ar1.1) (State.isArrayOf_alike hZ.alike Ar1.2.1) Ar1.2.2 hin1 hat1 (g := (mkF m 12 #[.val (.ref t), .val (.int (0 : Int32)), .val (.ref d), .val (.int (0 : Int32)), .val (.int (1 : Int32)), .val (.int (0 : Int32)), .unset] [(.int (0 : Int32)), (.ref t)])) rfl rfl (hb hby d5_12) tG) ?_
  show Go p e below s _ _ _ s₁ (mkF m 13 #[.val (.ref t), .val (.int (0 : Int32)), .val (.ref d), .val (.int (0 : Int32)), .val (.int (1 : Int32)), .val (.int (0 : Int32)), .unset] [(.int ch)])
  refine Go.st (fun _ => XS.istore X0.here hx rfl (hb hby d5_13) rfl (l' := #[.val (.ref t), .val (.int (0 : Int32)), .val (.ref d), .val (.int (0 : Int32)), .val (.int (1 : Int32)), .val (.int (0 : Int32)), .val (.int ch)]) rfl) ?_
  show Go p e below s _ _ _ s₁ (mkF m 15 #[.val (.ref t), .val (.int (0 : Int32)), .val (.ref d), .val (.int (0 : Int32)), .val (.int (1 : Int32)), .val (.int (0 : Int32)), .val (.int ch)] [])
  refine Go.st (fun _ => XS.iload X0.here hx rfl (hb hby d5_15) rfl) ?_
  show Go p e below s _ _ _ s₁ (mkF m 17 #[.val (.ref t), .val (.int (0 : Int32)), .val (.ref d), .val (.int (0 : Int32)), .val (.int (1 : Int32)), .val (.int (0 : Int32)), .val (.int ch)] [(.int ch)])
  refine Go.st (fun _ => XS.sipush X0.here hx rfl (hb hby d5_17)) ?_
  show Go p e below s _ _ _ s₁ (mkF m 20 #[.val (.ref t), .val (.int (0 : Int32)), .val (.ref d), .val (.int (0 : Int32)), .val (.int (1 : Int32)), .val (.int (0 : Int32)), .val (.int ch)] [(.int (255 : Int32)), (.int ch)])
  refine Go.st (fun _ => XS.icmpYes X0.here hx rfl (pc0 := 20) (pc' := 26) rfl (hb hby d5_20) rfl (flt hch).2.2.2 (by decide) (by decide)) ?_
  show Go p e below s _ _ _ s₁ (mkF m 26 #[.val (.ref t), .val (.int (0 : Int32)), .val (.ref d), .val (.int (0 : Int32)), .val (.int (1 : Int32)), .val (.int (0 : Int32)), .val (.int ch)] [])
  refine Go.st (fun _ => XS.aloadN X0.here hx rfl (hb hby d5_26) rfl rfl) ?_
  show Go p e below s _ _ _ s₁ (mkF m 27 #[.val (.ref t), .val (.int (0 : Int32)), .val (.ref d), .val (.int (0 : Int32)), .val (.int (1 : Int32)), .val (.int (0 : Int32)), .val (.int ch)] [(.ref d)])
  refine Go.st (fun _ => XS.iloadN X0.here hx rfl (hb hby d5_27) rfl) ?_
  show Go p e below s _ _ _ s₁ (mkF m 28 #[.val (.ref t), .val (.int (0 : Int32)), .val (.ref d), .val (.int (0 : Int32)), .val (.int (1 : Int32)), .val (.int (0 : Int32)), .val (.int ch)] [(.int (0 : Int32)), (.ref d)])
  refine Go.st (fun _ => XS.iload X0.here hx rfl (hb hby d5_28) rfl) ?_
  show Go p e below s _ _ _ s₁ (mkF m 30 #[.val (.ref t), .val (.int (0 : Int32)), .val (.ref d), .val (.int (0 : Int32)), .val (.int (1 : Int32)), .val (.int (0 : Int32)), .val (.int ch)] [(.int ch), (.int (0 : Int32)), (.ref d)])
  refine Go.st (fun _ => XS.i2b X0.here hx rfl (hb hby d5_30) rfl) ?_
  show Go p e below s _ _ _ s₁ (mkF m 31 #[.val (.ref t), .val (.int (0 : Int32)), .val (.ref d), .val (.int (0 : Int32)), .val (.int (1 : Int32)), .val (.int (0 : Int32)), .val (.int ch)] [(.int (ch.toInt8.toInt32)), (.int (0 : Int32)), (.ref d)])
  obtain ⟨cl2, Ar2, q2, S2, M2, H2, G2⟩ := id V_d
  have hin2 : ¬ ((0 : Int32) < 0 ∨ cl2.slots.size ≤ ((0 : Int32)).toNatClampNeg) := inb_of S2 ⟨by decide, by decide⟩
  obtain ⟨T2, h2, X2, e2, W2, st2⟩ := stB X0 hx hZ e0 Ar2 (j := (0 : Int32)) hin2 (g := (mkF m 31 #[.val (.ref t), .val (.int (0 : Int32)), .val (.ref d), .val (.int (0 : Int32)), .val (.int (1 : Int32)), .val (.int (0 : Int32)), .val (.int ch)] [(.int (ch.toInt8.toInt32)), (.int (0 : Int32)), (.ref d)])) rfl rfl (hb hby d5_31)
  refine Go.st st2 ?_
  rw [own_nb] at W2
  have V2 : Arv Z h2 d kd .byte (1 : Int32) [(.int (ch.toInt8.toInt32))] (.int (0 : Int32)) := Arv.set Ar2 q2 S2 M2 H2 G2 (fits_nar_byte _) W2 0 rfl (Nat.le_of_ble_eq_true rfl)
  have N2 := Fr.snoc X2 N0 g_d
  have K2 : Keep h0 h2 [d] := (Keep.refl h0 [d]).wr W2 (Or.inl (List.mem_of_getElem? (i := 0) rfl))
  have z2 : n0 ≤ h2.size := Nat.le_trans Z0 (Nat.le_of_eq W2.size.symm)
  show Go p e below s _ _ _ T2 (mkF m 32 #[.val (.ref t), .val (.int (0 : Int32)), .val (.ref d), .val (.int (0 : Int32)), .val (.int (1 : Int32)), .val (.int (0 : Int32)), .val (.int ch)] [])
  refine Go.st (fun _ => XS.iinc X2.here hx rfl (hb hby d5_32) rfl (l' := #[.val (.ref t), .val (.int ((0 : Int32) + (1 : Int32))), .val (.ref d), .val (.int (0 : Int32)), .val (.int (1 : Int32)), .val (.int (0 : Int32)), .val (.int ch)]) rfl) ?_
  show Go p e below s _ _ _ T2 (mkF m 35 #[.val (.ref t), .val (.int ((0 : Int32) + (1 : Int32))), .val (.ref d), .val (.int (0 : Int32)), .val (.int (1 : Int32)), .val (.int (0 : Int32)), .val (.int ch)] [])
  rw [show ((0 : Int32) + (1 : Int32)) = (1 : Int32) from by decide]
  show Go p e below s _ _ _ T2 (mkF m 35 #[.val (.ref t), .val (.int (1 : Int32)), .val (.ref d), .val (.int (0 : Int32)), .val (.int (1 : Int32)), .val (.int (0 : Int32)), .val (.int ch)] [])
  refine Go.st (fun _ => XS.iinc X2.here hx rfl (hb hby d5_35) rfl (l' := #[.val (.ref t), .val (.int (1 : Int32)), .val (.ref d), .val (.int ((0 : Int32) + (1 : Int32))), .val (.int (1 : Int32)), .val (.int (0 : Int32)), .val (.int ch)]) rfl) ?_
  show Go p e below s _ _ _ T2 (mkF m 38 #[.val (.ref t), .val (.int (1 : Int32)), .val (.ref d), .val (.int ((0 : Int32) + (1 : Int32))), .val (.int (1 : Int32)), .val (.int (0 : Int32)), .val (.int ch)] [])
  rw [show ((0 : Int32) + (1 : Int32)) = (1 : Int32) from by decide]
  show Go p e below s _ _ _ T2 (mkF m 38 #[.val (.ref t), .val (.int (1 : Int32)), .val (.ref d), .val (.int (1 : Int32)), .val (.int (1 : Int32)), .val (.int (0 : Int32)), .val (.int ch)] [])
  refine Go.st (fun _ => XS.iinc X2.here hx rfl (hb hby d5_38) rfl (l' := #[.val (.ref t), .val (.int (1 : Int32)), .val (.ref d), .val (.int (1 : Int32)), .val (.int (1 : Int32)), .val (.int ((0 : Int32) + (1 : Int32))), .val (.int ch)]) rfl) ?_
  show Go p e below s _ _ _ T2 (mkF m 41 #[.val (.ref t), .val (.int (1 : Int32)), .val (.ref d), .val (.int (1 : Int32)), .val (.int (1 : Int32)), .val (.int ((0 : Int32) + (1 : Int32))), .val (.int ch)] [])
  rw [show ((0 : Int32) + (1 : Int32)) = (1 : Int32) from by decide]
  show Go p e below s _ _ _ T2 (mkF m 41 #[.val (.ref t), .val (.int (1 : Int32)), .val (.ref d), .val (.int (1 : Int32)), .val (.int (1 : Int32)), .val (.int (1 : Int32)), .val (.int ch)] [])
  refine Go.st (fun _ => XS.goto X2.here hx rfl (pc0 := 41) (pc' := 3) rfl (hb hby d5_41) (by decide) (by decide)) ?_
  show Go p e below s _ _ _ T2 (mkF m 3 #[.val (.ref t), .val (.int (1 : Int32)), .val (.ref d), .val (.int (1 : Int32)), .val (.int (1 : Int32)), .val (.int (1 : Int32)), .val (.int ch)] [])
  refine Go.st (fun _ => XS.iload X2.here hx rfl (hb hby d5_3) rfl) ?_
  show Go p e below s _ _ _ T2 (mkF m 5 #[.val (.ref t), .val (.int (1 : Int32)), .val (.ref d), .val (.int (1 : Int32)), .val (.int (1 : Int32)), .val (.int (1 : Int32)), .val (.int ch)] [(.int (1 : Int32))])
  refine Go.st (fun _ => XS.iload X2.here hx rfl (hb hby d5_5) rfl) ?_
  show Go p e below s _ _ _ T2 (mkF m 7 #[.val (.ref t), .val (.int (1 : Int32)), .val (.ref d), .val (.int (1 : Int32)), .val (.int (1 : Int32)), .val (.int (1 : Int32)), .val (.int ch)] [(.int (1 : Int32)), (.int (1 : Int32))])
  refine Go.st (fun _ => XS.icmpYes X2.here hx rfl (pc0 := 7) (pc' := 44) rfl (hb hby d5_7) rfl (flt (by decide : ¬ ((1 : Int32) < (1 : Int32)))).2.1 (by decide) (by decide)) ?_
  show Go p e below s _ _ _ T2 (mkF m 44 #[.val (.ref t), .val (.int (1 : Int32)), .val (.ref d), .val (.int (1 : Int32)), .val (.int (1 : Int32)), .val (.int (1 : Int32)), .val (.int ch)] [])
  refine Go.st (fun _ => XS.iload X2.here hx rfl (hb hby d5_44) rfl) ?_
  show Go p e below s _ _ _ T2 (mkF m 46 #[.val (.ref t), .val (.int (1 : Int32)), .val (.ref d), .val (.int (1 : Int32)), .val (.int (1 : Int32)), .val (.int (1 : Int32)), .val (.int ch)] [(.int (1 : Int32))])
  exact Go.retI X2 hx hlk Bd.returns (hb hby d5_46) (by rw [e2]; exact ⟨rfl, N2, K2, V2⟩) (by decide) (by decide)
theorem d4_0 : decode jdk_52_method_16_code 0 = .ok (.iload_n 2, 1) := by decide +kernel
theorem d4_1 : decode jdk_52_method_16_code 1 = .ok (.newarray .byte, 2) := by decide +kernel
theorem d4_3 : decode jdk_52_method_16_code 3 = .ok (.astore_n 3, 1) := by decide +kernel
theorem d4_4 : decode jdk_52_method_16_code 4 = .ok (.aload_n 0, 1) := by decide +kernel
theorem d4_5 : decode jdk_52_method_16_code 5 = .ok (.iload_n 1, 1) := by decide +kernel
theorem d4_6 : decode jdk_52_method_16_code 6 = .ok (.aload_n 3, 1) := by decide +kernel
theorem d4_7 : decode jdk_52_method_16_code 7 = .ok (.iconst 0, 1) := by decide +kernel
theorem d4_8 : decode jdk_52_method_16_code 8 = .ok (.iload_n 2, 1) := by decide +kernel
theorem d4_9 : decode jdk_52_method_16_code 9 = .ok (.invokestatic 115, 3) := by decide +kernel
theorem pd_0 : parseMethodDescriptor "([CI[BII)I" = some ⟨[(.array .char), .int, (.array .byte), .int, .int], some .int⟩ := by decide +kernel
theorem d4_12 : decode jdk_52_method_16_code 12 = .ok (.istore 4, 2) := by decide +kernel
theorem d4_14 : decode jdk_52_method_16_code 14 = .ok (.iload 4, 2) := by decide +kernel
theorem d4_16 : decode jdk_52_method_16_code 16 = .ok (.iload_n 2, 1) := by decide +kernel
theorem d4_17 : decode jdk_52_method_16_code 17 = .ok (.if_icmp .eq 40, 3) := by decide +kernel
theorem d4_57 : decode jdk_52_method_16_code 57 = .ok (.aload_n 3, 1) := by decide +kernel
theorem d4_58 : decode jdk_52_method_16_code 58 = .ok (.areturn, 1) := by decide +kernel
theorem ef_rmC1 (m : MethodId) (t : Addr) : entryFrame m #[(.ref t), (.int (0 : Int32)), (.int (1 : Int32))] 6 = mkF m 0 #[.val (.ref t), .val (.int (0 : Int32)), .val (.int (1 : Int32)), .unset, .unset, .unset] [] := by first | (simp [entryFrame, mkF, argsToLocals, Value.category]; done) | rfl
def QrmC1 (Z : State) (t : Addr) (kt : ClassId) (ch : Int32) (h0 : Heap) (n0 : Nat) (rV : Option Value) (hE : Heap) (LE : List Loc) : Prop := ∃ d : Addr, ∃ kd : ClassId, rV = some (.ref d) ∧ Fr n0 LE ∧ Keep h0 hE [] ∧ h0.size ≤ d ∧ n0 ≤ d ∧ Arv Z hE d kd .byte (1 : Int32) [(.int (ch.toInt8.toInt32))] (.int (0 : Int32))
set_option maxRecDepth 65536 in
set_option maxHeartbeats 40000000 in
theorem rmC1 (l : Launch) (Z : State) (a0 : Array Value) (hw : ∀ d ∈ tables_1, d.before a0 Z = true) (ws : List Jvm.Cond) (t : Addr) (kt : ClassId) (ch : Int32) (h0 : Heap) (n0 : Nat) (Z0 : n0 ≤ h0.size) (V_t : Arv Z h0 t kt .char (1 : Int32) [(.int ch)] (.int (0 : Int32))) (hch : ¬ ((255 : Int32) < ch)) :
    MetFree l (⟨"java/lang/StringUTF16", "compress", "([CII)[B"⟩ : MethodName) (head1 (Jvm.Cond.code (⟨"java/lang/StringUTF16", "compress", "([CII)[B"⟩ : MethodName) jdk_52_method_16_code 6 (some (.array .byte)) :: ws) ({ frames := 1, cells := 1, slots := 1, locals := 18 } : Room)) (fun aA UA => aA = #[(.ref t), (.int (0 : Int32)), (.int (1 : Int32))] ∧ Z.Warmed39 UA.vm ∧ UA.heap = h0) (fun _ _ _ _ _ => True) (fun _ UA oA UB => ∃ rV LE, oA = .returned rV ∧ QrmC1 Z t kt ch h0 n0 rV UB.heap LE ∧ FrameEnd UA oA UB LE ({ frames := 1, cells := 1, slots := 1, locals := 18 } : Room).cells ({ frames := 1, cells := 1, slots := 1, locals := 18 } : Room).slots) := by
  refine MetFree.of_bodySF (plainFor_of_name pn_0) hisR ?_
  intro p e s m args below meth c s₁ Bd hml0 hP hK
  obtain ⟨rfl, hZ, hh⟩ := hP
  have hx := Bd.exec
  have hby := Bd.bytes
  have hml : c.maxLocals = 6 := hml0
  have hown : s.vm.findClass "java/lang/StringUTF16" = some m.cls := findClass_of_methodNamed Bd.named
  have hnm := (name_of_methodNamed Bd.named Bd.method).1
  have hlk := Bd.notSynchronized
  have X0 : Stand p l e ({ frames := 1, cells := 1, slots := 1, locals := 18 } : Room) s m #[(.ref t), (.int (0 : Int32)), (.int (1 : Int32))] below meth c s₁ [] 0 0 := Stand.of_body Bd
  have e0 : s₁.heap = h0 := by rw [← hh, Bd.state]; rfl
  have N0 := Fr.nil n0
  show Go p e below s (QrmC1 Z t kt ch h0 n0) ({ frames := 1, cells := 1, slots := 1, locals := 18 } : Room).cells ({ frames := 1, cells := 1, slots := 1, locals := 18 } : Room).slots s₁ (entryFrame m #[(.ref t), (.int (0 : Int32)), (.int (1 : Int32))] 6)
  refine Go.eq (ef_rmC1 m t) ?_
  show Go p e below s _ _ _ s₁ (mkF m 0 #[.val (.ref t), .val (.int (0 : Int32)), .val (.int (1 : Int32)), .unset, .unset, .unset] [])
  refine Go.st (fun _ => XS.iloadN X0.here hx rfl (hb hby d4_0) rfl) ?_
  show Go p e below s _ _ _ s₁ (mkF m 1 #[.val (.ref t), .val (.int (0 : Int32)), .val (.int (1 : Int32)), .unset, .unset, .unset] [(.int (1 : Int32))])
  obtain ⟨T1, h1, kA1, X1, e1, E1, A1, st1⟩ := newP X0 hx hZ (hw _ (List.mem_of_getElem? (i := 23) rfl)) e0 (g := (mkF m 1 #[.val (.ref t), .val (.int (0 : Int32)), .val (.int (1 : Int32)), .unset, .unset, .unset] [(.int (1 : Int32))])) rfl (hb hby d4_1) rfl (by decide) (cap := 1) (by decide) (by decide) (by decide) (by decide)
  obtain ⟨b1, g1⟩ : ∃ z, z = h0.size := ⟨_, rfl⟩
  rw [← g1] at A1 st1
  refine Go.st st1 ?_
  have ne_t_b1 : t ≠ b1 := Nat.ne_of_lt (Nat.lt_of_lt_of_eq V_t.lt g1.symm)
  have gg1 : n0 ≤ b1 := Nat.le_trans Z0 (Nat.le_of_eq g1.symm)
  have sz1 : h0.size ≤ b1 := Nat.le_trans (Keep.refl h0 []).1 (Nat.le_of_eq g1.symm)
  have K1 : Keep h0 h1 [] := (Keep.refl h0 []).ext E1
  have z1 : n0 ≤ h1.size := Nat.le_trans Z0 E1.1
  have V_b1 : Arv Z h1 b1 kA1 .byte (1 : Int32) [(.int (0 : Int32))] (.int (0 : Int32)) := (Arv.new A1 (by decide)).pad (pad_rep [] (.int (0 : Int32)) 1)
  show Go p e below s _ _ _ T1 (mkF m 3 #[.val (.ref t), .val (.int (0 : Int32)), .val (.int (1 : Int32)), .unset, .unset, .unset] [(.ref b1)])
  refine Go.st (fun _ => XS.astoreN X1.here hx rfl (hb hby d4_3) rfl rfl (l' := #[.val (.ref t), .val (.int (0 : Int32)), .val (.int (1 : Int32)), .val (.ref b1), .unset, .unset]) rfl) ?_
  show Go p e below s _ _ _ T1 (mkF m 4 #[.val (.ref t), .val (.int (0 : Int32)), .val (.int (1 : Int32)), .val (.ref b1), .unset, .unset] [])
  refine Go.st (fun _ => XS.aloadN X1.here hx rfl (hb hby d4_4) rfl rfl) ?_
  show Go p e below s _ _ _ T1 (mkF m 5 #[.val (.ref t), .val (.int (0 : Int32)), .val (.int (1 : Int32)), .val (.ref b1), .unset, .unset] [(.ref t)])
  refine Go.st (fun _ => XS.iloadN X1.here hx rfl (hb hby d4_5) rfl) ?_
  show Go p e below s _ _ _ T1 (mkF m 6 #[.val (.ref t), .val (.int (0 : Int32)), .val (.int (1 : Int32)), .val (.ref b1), .unset, .unset] [(.int (0 : Int32)), (.ref t)])
  refine Go.st (fun _ => XS.aloadN X1.here hx rfl (hb hby d4_6) rfl rfl) ?_
  show Go p e below s _ _ _ T1 (mkF m 7 #[.val (.ref t), .val (.int (0 : Int32)), .val (.int (1 : Int32)), .val (.ref b1), .unset, .unset] [(.ref b1), (.int (0 : Int32)), (.ref t)])
  refine Go.st (fun _ => XS.iconst X1.here hx rfl (hb hby d4_7)) ?_
  show Go p e below s _ _ _ T1 (mkF m 8 #[.val (.ref t), .val (.int (0 : Int32)), .val (.int (1 : Int32)), .val (.ref b1), .unset, .unset] [(.int (0 : Int32)), (.ref b1), (.int (0 : Int32)), (.ref t)])
  refine Go.st (fun _ => XS.iloadN X1.here hx rfl (hb hby d4_8) rfl) ?_
  show Go p e below s _ _ _ T1 (mkF m 9 #[.val (.ref t), .val (.int (0 : Int32)), .val (.int (1 : Int32)), .val (.ref b1), .unset, .unset] [(.int (1 : Int32)), (.int (0 : Int32)), (.ref b1), (.int (0 : Int32)), (.ref t)])
  have f3 := (V_t.ext E1)
  obtain ⟨_, _, ⟨T2, L2, kc2, nc2⟩, -, X2, ⟨Lc2, hQ2, l2, y2, z2⟩, st2⟩ := Jvm.LawKit.callS X1 hx (y := (⟨"java/lang/StringUTF16", "compress", "([CI[BII)I"⟩ : MethodName)) hown (mvT hZ (hw _ (List.mem_of_getElem? (i := 24) rfl))) (mvT hZ (hw _ (List.mem_of_getElem? (i := 25) rfl))) (mvT hZ (hw _ (List.mem_of_getElem? (i := 21) rfl))) (mvT hZ (hw _ (List.mem_of_getElem? (i := 26) rfl))) (by decide) (backOf (W := 0) (rmC2 l Z a0 hw [] t b1 kt kA1 ch h1 n0 z1 f3 V_b1 gg1 ne_t_b1 hch) hZ (hw _ (List.mem_of_getElem? (i := 26) rfl)) (hw _ (List.mem_of_getElem? (i := 21) rfl)) (by decide) (by decide)) (g := (mkF m 9 #[.val (.ref t), .val (.int (0 : Int32)), .val (.int (1 : Int32)), .val (.ref b1), .unset, .unset] [(.int (1 : Int32)), (.int (0 : Int32)), (.ref b1), (.int (0 : Int32)), (.ref t)])) rfl (by rw [hml]; rfl) (argsL := [(.ref t), (.int (0 : Int32)), (.ref b1), (.int (0 : Int32)), (.int (1 : Int32))]) (rest := []) (lenOf pd_0 rfl) rfl (by show 2 * 0 + _ ≤ _; exact Nat.le_of_eq rfl) (hb hby d4_9) (fun _ _ => ⟨rfl, e1, (by decide : 1 + 0 ≤ _), (by decide : 1 + 0 ≤ _)⟩)
  dsimp only [Pt.U, Pt.locs, Pt.cells, Pt.slots] at X2 l2 y2 z2 st2 hQ2
  subst l2 y2 z2
  obtain ⟨h2, e2⟩ : ∃ hh, T2.heap = hh := ⟨_, rfl⟩
  rw [e2] at hQ2
  obtain ⟨rfl, N2q, K2, p2_0⟩ := hQ2
  have N2 := Fr.app N0 N2q
  refine Go.st st2 ?_
  have KK2 : Keep h0 h2 [] := K1.trans K2 (allS (Or.inr sz1) all0)
  have z2q : n0 ≤ h2.size := Nat.le_trans z1 K2.1
  show Go p e below s _ _ _ T2 (mkF m 12 #[.val (.ref t), .val (.int (0 : Int32)), .val (.int (1 : Int32)), .val (.ref b1), .unset, .unset] [(.int (1 : Int32))])
  refine Go.st (fun _ => XS.istore X2.here hx rfl (hb hby d4_12) rfl (l' := #[.val (.ref t), .val (.int (0 : Int32)), .val (.int (1 : Int32)), .val (.ref b1), .val (.int (1 : Int32)), .unset]) rfl) ?_
  show Go p e below s _ _ _ T2 (mkF m 14 #[.val (.ref t), .val (.int (0 : Int32)), .val (.int (1 : Int32)), .val (.ref b1), .val (.int (1 : Int32)), .unset] [])
  refine Go.st (fun _ => XS.iload X2.here hx rfl (hb hby d4_14) rfl) ?_
  show Go p e below s _ _ _ T2 (mkF m 16 #[.val (.ref t), .val (.int (0 : Int32)), .val (.int (1 : Int32)), .val (.ref b1), .val (.int (1 : Int32)), .unset] [(.int (1 : Int32))])
  refine Go.st (fun _ => XS.iloadN X2.here hx rfl (hb hby d4_16) rfl) ?_
  show Go p e below s _ _ _ T2 (mkF m 17 #[.val (.ref t), .val (.int (0 : Int32)), .val (.int (1 : Int32)), .val (.ref b1), .val (.int (1 : Int32)), .unset] [(.int (1 : Int32)), (.int (1 : Int32))])
  refine Go.st (fun _ => XS.icmpYes X2.here hx rfl (pc0 := 17) (pc' := 57) rfl (hb hby d4_17) rfl (teq (by decide : (1 : Int32) = (1 : Int32))).1 (by decide) (by decide)) ?_
  show Go p e below s _ _ _ T2 (mkF m 57 #[.val (.ref t), .val (.int (0 : Int32)), .val (.int (1 : Int32)), .val (.ref b1), .val (.int (1 : Int32)), .unset] [])
  refine Go.st (fun _ => XS.aloadN X2.here hx rfl (hb hby d4_57) rfl rfl) ?_
  show Go p e below s _ _ _ T2 (mkF m 58 #[.val (.ref t), .val (.int (0 : Int32)), .val (.int (1 : Int32)), .val (.ref b1), .val (.int (1 : Int32)), .unset] [(.ref b1)])
  exact Go.retA X2 hx hlk Bd.returns rfl rfl (hb hby d4_58) (by rw [e2]; exact ⟨b1, kA1, rfl, N2, KK2, sz1, gg1, p2_0⟩) (by decide) (by decide)
theorem d6_0 : decode jdk_52_method_15_code 0 = .ok (.iload_n 1, 1) := by decide +kernel
theorem d6_1 : decode jdk_52_method_15_code 1 = .ok (.aload_n 0, 1) := by decide +kernel
theorem d6_2 : decode jdk_52_method_15_code 2 = .ok (.arraylength, 1) := by decide +kernel
theorem d6_3 : decode jdk_52_method_15_code 3 = .ok (.isub, 1) := by decide +kernel
theorem d6_4 : decode jdk_52_method_15_code 4 = .ok (.bipush 31, 2) := by decide +kernel
theorem d6_6 : decode jdk_52_method_15_code 6 = .ok (.iushr, 1) := by decide +kernel
theorem d6_7 : decode jdk_52_method_15_code 7 = .ok (.i2b, 1) := by decide +kernel
theorem d6_8 : decode jdk_52_method_15_code 8 = .ok (.ireturn, 1) := by decide +kernel
theorem ef_rmCf (m : MethodId) (d : Addr) : entryFrame m #[(.ref d), (.int (1 : Int32))] 2 = mkF m 0 #[.val (.ref d), .val (.int (1 : Int32))] [] := by first | (simp [entryFrame, mkF, argsToLocals, Value.category]; done) | rfl
def QrmCf (Z : State) (d : Addr) (kd : ClassId) (vs : List Value) (h0 : Heap) (n0 : Nat) (rV : Option Value) (hE : Heap) (LE : List Loc) : Prop := rV = some (.int (0 : Int32)) ∧ Fr n0 LE ∧ hE = h0
set_option maxRecDepth 65536 in
set_option maxHeartbeats 40000000 in
theorem rmCf (l : Launch) (Z : State) (a0 : Array Value) (hw : ∀ d ∈ tables_1, d.before a0 Z = true) (ws : List Jvm.Cond) (d : Addr) (kd : ClassId) (vs : List Value) (h0 : Heap) (n0 : Nat) (Z0 : n0 ≤ h0.size) (V_d : Arv Z h0 d kd .byte (1 : Int32) vs (.int (0 : Int32))) :
    MetFree l (⟨"java/lang/StringUTF16", "coderFromArrayLen", "([BI)B"⟩ : MethodName) (head1 (Jvm.Cond.code (⟨"java/lang/StringUTF16", "coderFromArrayLen", "([BI)B"⟩ : MethodName) jdk_52_method_15_code 2 (some .byte) :: ws) ({ frames := 0, cells := 0, slots := 0, locals := 0 } : Room)) (fun aA UA => aA = #[(.ref d), (.int (1 : Int32))] ∧ Z.Warmed39 UA.vm ∧ UA.heap = h0) (fun _ _ _ _ _ => True) (fun _ UA oA UB => ∃ rV LE, oA = .returned rV ∧ QrmCf Z d kd vs h0 n0 rV UB.heap LE ∧ FrameEnd UA oA UB LE ({ frames := 0, cells := 0, slots := 0, locals := 0 } : Room).cells ({ frames := 0, cells := 0, slots := 0, locals := 0 } : Room).slots) := by
  refine MetFree.of_bodySF (plainFor_of_name pn_0) hisR ?_
  intro p e s m args below meth c s₁ Bd hml0 hP hK
  obtain ⟨rfl, hZ, hh⟩ := hP
  have hx := Bd.exec
  have hby := Bd.bytes
  have hml : c.maxLocals = 2 := hml0
  have hown : s.vm.findClass "java/lang/StringUTF16" = some m.cls := findClass_of_methodNamed Bd.named
  have hnm := (name_of_methodNamed Bd.named Bd.method).1
  have hlk := Bd.notSynchronized
  have X0 : Stand p l e ({ frames := 0, cells := 0, slots := 0, locals := 0 } : Room) s m #[(.ref d), (.int (1 : Int32))] below meth c s₁ [] 0 0 := Stand.of_body Bd
  have e0 : s₁.heap = h0 := by rw [← hh, Bd.state]; rfl
  have N0 := Fr.nil n0
  show Go p e below s (QrmCf Z d kd vs h0 n0) ({ frames := 0, cells := 0, slots := 0, locals := 0 } : Room).cells ({ frames := 0, cells := 0, slots := 0, locals := 0 } : Room).slots s₁ (entryFrame m #[(.ref d), (.int (1 : Int32))] 2)
  refine Go.eq (ef_rmCf m d) ?_
  show Go p e below s _ _ _ s₁ (mkF m 0 #[.val (.ref d), .val (.int (1 : Int32))] [])
  refine Go.st (fun _ => XS.iloadN X0.here hx rfl (hb hby d6_0) rfl) ?_
  show Go p e below s _ _ _ s₁ (mkF m 1 #[.val (.ref d), .val (.int (1 : Int32))] [(.int (1 : Int32))])
  refine Go.st (fun _ => XS.aloadN X0.here hx rfl (hb hby d6_1) rfl rfl) ?_
  show Go p e below s _ _ _ s₁ (mkF m 2 #[.val (.ref d), .val (.int (1 : Int32))] [(.ref d), (.int (1 : Int32))])
  obtain ⟨cl1, Ar1, q1, S1, M1, H1, G1⟩ := id V_d
  refine Go.st (fun tG => X0.arraylength hx (by rw [e0]; exact Ar1.1) (State.isArrayOf_alike hZ.alike Ar1.2.1) (g := (mkF m 2 #[.val (.ref d), .val (.int (1 : Int32))] [(.ref d), (.int (1 : Int32))])) rfl rfl (hb hby d6_2) tG) ?_
  rw [len_of S1 M1]
  show Go p e below s _ _ _ s₁ (mkF m 3 #[.val (.ref d), .val (.int (1 : Int32))] [(.int (1 : Int32)), (.int (1 : Int32))])
  refine Go.st (fun _ => XS.isub X0.here hx rfl (hb hby d6_3) rfl) ?_
  show Go p e below s _ _ _ s₁ (mkF m 4 #[.val (.ref d), .val (.int (1 : Int32))] [(.int ((1 : Int32) - (1 : Int32)))])
  rw [show ((1 : Int32) - (1 : Int32)) = (0 : Int32) from by decide]
  show Go p e below s _ _ _ s₁ (mkF m 4 #[.val (.ref d), .val (.int (1 : Int32))] [(.int (0 : Int32))])
  refine Go.st (fun _ => XS.bipush X0.here hx rfl (hb hby d6_4)) ?_
  show Go p e below s _ _ _ s₁ (mkF m 6 #[.val (.ref d), .val (.int (1 : Int32))] [(.int (31 : Int32)), (.int (0 : Int32))])
  refine Go.st (fun _ => XS.iushr X0.here hx rfl (hb hby d6_6) rfl) ?_
  show Go p e below s _ _ _ s₁ (mkF m 7 #[.val (.ref d), .val (.int (1 : Int32))] [(.int (((0 : Int32).toUInt32 >>> ((31 : Int32) &&& 31).toUInt32).toInt32))])
  rw [show (((0 : Int32).toUInt32 >>> ((31 : Int32) &&& 31).toUInt32).toInt32) = (0 : Int32) from by decide]
  show Go p e below s _ _ _ s₁ (mkF m 7 #[.val (.ref d), .val (.int (1 : Int32))] [(.int (0 : Int32))])
  refine Go.st (fun _ => XS.i2b X0.here hx rfl (hb hby d6_7) rfl) ?_
  show Go p e below s _ _ _ s₁ (mkF m 8 #[.val (.ref d), .val (.int (1 : Int32))] [(.int ((0 : Int32).toInt8.toInt32))])
  rw [show ((0 : Int32).toInt8.toInt32) = (0 : Int32) from by decide]
  show Go p e below s _ _ _ s₁ (mkF m 8 #[.val (.ref d), .val (.int (1 : Int32))] [(.int (0 : Int32))])
  exact Go.retB X0 hx hlk Bd.returns (hb hby d6_8) rfl (by rw [e0]; exact ⟨rfl, N0, rfl⟩) (by decide) (by decide)
theorem d2_0 : decode jdk_42_method_149_code 0 = .ok (.aload_n 0, 1) := by decide +kernel
theorem d2_1 : decode jdk_42_method_149_code 1 = .ok (.invokespecial 1, 3) := by decide +kernel
theorem d2_4 : decode jdk_42_method_149_code 4 = .ok (.iload_n 3, 1) := by decide +kernel
theorem d2_5 : decode jdk_42_method_149_code 5 = .ok (.ifCond .ne 22, 3) := by decide +kernel
theorem d2_27 : decode jdk_42_method_149_code 27 = .ok (.getstatic 38, 3) := by decide +kernel
theorem d2_30 : decode jdk_42_method_149_code 30 = .ok (.ifCond .eq 28, 3) := by decide +kernel
theorem d2_33 : decode jdk_42_method_149_code 33 = .ok (.aload_n 1, 1) := by decide +kernel
theorem d2_34 : decode jdk_42_method_149_code 34 = .ok (.iload_n 2, 1) := by decide +kernel
theorem d2_35 : decode jdk_42_method_149_code 35 = .ok (.iload_n 3, 1) := by decide +kernel
theorem d2_36 : decode jdk_42_method_149_code 36 = .ok (.invokestatic 177, 3) := by decide +kernel
theorem pd_1 : parseMethodDescriptor "([CII)[B" = some ⟨[(.array .char), .int, .int], some (.array .byte)⟩ := by decide +kernel
theorem d2_39 : decode jdk_42_method_149_code 39 = .ok (.astore 5, 2) := by decide +kernel
theorem d2_41 : decode jdk_42_method_149_code 41 = .ok (.aload_n 0, 1) := by decide +kernel
theorem d2_42 : decode jdk_42_method_149_code 42 = .ok (.aload 5, 2) := by decide +kernel
theorem d2_44 : decode jdk_42_method_149_code 44 = .ok (.iload_n 3, 1) := by decide +kernel
theorem d2_45 : decode jdk_42_method_149_code 45 = .ok (.invokestatic 47, 3) := by decide +kernel
theorem pd_2 : parseMethodDescriptor "([BI)B" = some ⟨[(.array .byte), .int], some .byte⟩ := by decide +kernel
theorem d2_48 : decode jdk_42_method_149_code 48 = .ok (.putfield 15, 3) := by decide +kernel
theorem d2_51 : decode jdk_42_method_149_code 51 = .ok (.aload_n 0, 1) := by decide +kernel
theorem d2_52 : decode jdk_42_method_149_code 52 = .ok (.aload 5, 2) := by decide +kernel
theorem d2_54 : decode jdk_42_method_149_code 54 = .ok (.putfield 9, 3) := by decide +kernel
theorem d2_57 : decode jdk_42_method_149_code 57 = .ok (.return_, 1) := by decide +kernel
theorem pn_1 : plainName "java/lang/String" = true := by first | (simp [plainName, overriddenIn]; done) | decide +kernel
theorem ef_rmI4 (m : MethodId) (a : Addr) (t : Addr) : entryFrame m #[(.ref a), (.ref t), (.int (0 : Int32)), (.int (1 : Int32)), .null] 6 = mkF m 0 #[.val (.ref a), .val (.ref t), .val (.int (0 : Int32)), .val (.int (1 : Int32)), .val .null, .unset] [] := by first | (simp [entryFrame, mkF, argsToLocals, Value.category]; done) | rfl
def QrmI4 (Z : State) (a : Addr) (t : Addr) (kt : ClassId) (ch : Int32) (cs : Int32) (h0 : Heap) (n0 : Nat) (rV : Option Value) (hE : Heap) (LE : List Loc) : Prop := rV = none ∧ Fr n0 LE ∧ Keep h0 hE [a] ∧ Exa Z hE a "java/lang/String"
set_option maxRecDepth 65536 in
set_option maxHeartbeats 40000000 in
theorem rmI4 (l : Launch) (Z : State) (a0 : Array Value) (hw : ∀ d ∈ tables_1, d.before a0 Z = true) (ws : List Jvm.Cond) (a : Addr) (t : Addr) (kt : ClassId) (ch : Int32) (cs : Int32) (h0 : Heap) (n0 : Nat) (Z0 : n0 ≤ h0.size) (E_a : Exa Z h0 a "java/lang/String") (F_value_a : Fld Z h0 a "java/lang/String" "value" "[B" .null) (F_coder_a : Fld Z h0 a "java/lang/String" "coder" "B" (.int (0 : Int32))) (V_t : Arv Z h0 t kt .char (1 : Int32) [(.int ch)] (.int (0 : Int32))) (S_COMPACT_STRINGS : Sta Z h0 "java/lang/String" "COMPACT_STRINGS" "Z" (.int cs)) (hcs : ¬ (cs = (0 : Int32))) (hch : ¬ ((255 : Int32) < ch)) (g_a : n0 ≤ a) :
    MetFree l (⟨"java/lang/String", "<init>", "([CIILjava/lang/Void;)V"⟩ : MethodName) (head1 (Jvm.Cond.code (⟨"java/lang/String", "<init>", "([CIILjava/lang/Void;)V"⟩ : MethodName) jdk_42_method_149_code 6 none :: ws) ({ frames := 2, cells := 1, slots := 1, locals := 35 } : Room)) (fun aA UA => aA = #[(.ref a), (.ref t), (.int (0 : Int32)), (.int (1 : Int32)), .null] ∧ Z.Warmed39 UA.vm ∧ UA.heap = h0) (fun _ _ _ _ _ => True) (fun _ UA oA UB => ∃ rV LE, oA = .returned rV ∧ QrmI4 Z a t kt ch cs h0 n0 rV UB.heap LE ∧ FrameEnd UA oA UB LE ({ frames := 2, cells := 1, slots := 1, locals := 35 } : Room).cells ({ frames := 2, cells := 1, slots := 1, locals := 35 } : Room).slots) := by
  refine MetFree.of_bodySF (plainFor_of_name pn_1) hisR ?_
  intro p e s m args below meth c s₁ Bd hml0 hP hK
  obtain ⟨rfl, hZ, hh⟩ := hP
  have hx := Bd.exec
  have hby := Bd.bytes
  have hml : c.maxLocals = 6 := hml0
  have hown : s.vm.findClass "java/lang/String" = some m.cls := findClass_of_methodNamed Bd.named
  have hnm := (name_of_methodNamed Bd.named Bd.method).1
  have hlk := Bd.notSynchronized
  have X0 : Stand p l e ({ frames := 2, cells := 1, slots := 1, locals := 35 } : Room) s m #[(.ref a), (.ref t), (.int (0 : Int32)), (.int (1 : Int32)), .null] below meth c s₁ [] 0 0 := Stand.of_body Bd
  have e0 : s₁.heap = h0 := by rw [← hh, Bd.state]; rfl
  have N0 := Fr.nil n0
  show Go p e below s (QrmI4 Z a t kt ch cs h0 n0) ({ frames := 2, cells := 1, slots := 1, locals := 35 } : Room).cells ({ frames := 2, cells := 1, slots := 1, locals := 35 } : Room).slots s₁ (entryFrame m #[(.ref a), (.ref t), (.int (0 : Int32)), (.int (1 : Int32)), .null] 6)
  refine Go.eq (ef_rmI4 m a t) ?_
  show Go p e below s _ _ _ s₁ (mkF m 0 #[.val (.ref a), .val (.ref t), .val (.int (0 : Int32)), .val (.int (1 : Int32)), .val .null, .unset] [])
  refine Go.st (fun _ => XS.aloadN X0.here hx rfl (hb hby d2_0) rfl rfl) ?_
  show Go p e below s _ _ _ s₁ (mkF m 1 #[.val (.ref a), .val (.ref t), .val (.int (0 : Int32)), .val (.int (1 : Int32)), .val .null, .unset] [(.ref a)])
  obtain ⟨T1, X1, e1, st1⟩ := initO X0 hx hZ hown (hw _ (List.mem_of_getElem? (i := 15) rfl)) (hw _ (List.mem_of_getElem? (i := 16) rfl)) (hw _ (List.mem_of_getElem? (i := 17) rfl)) e0 (g := (mkF m 1 #[.val (.ref a), .val (.ref t), .val (.int (0 : Int32)), .val (.int (1 : Int32)), .val .null, .unset] [(.ref a)])) rfl (by rw [hml]; rfl) rfl (hb hby d2_1) (by decide) (W := 0) (by show 2 * 0 + _ ≤ _; exact Nat.le_of_eq rfl) (by decide)
  refine Go.st st1 ?_
  show Go p e below s _ _ _ T1 (mkF m 4 #[.val (.ref a), .val (.ref t), .val (.int (0 : Int32)), .val (.int (1 : Int32)), .val .null, .unset] [])
  refine Go.st (fun _ => XS.iloadN X1.here hx rfl (hb hby d2_4) rfl) ?_
  show Go p e below s _ _ _ T1 (mkF m 5 #[.val (.ref a), .val (.ref t), .val (.int (0 : Int32)), .val (.int (1 : Int32)), .val .null, .unset] [(.int (1 : Int32))])
  refine Go.st (fun _ => XS.ifYes X1.here hx rfl (pc0 := 5) (pc' := 27) rfl (hb hby d2_5) rfl ((if0 _ _).trans (feq (by decide : ¬ ((1 : Int32) = (0 : Int32)))).2) (by decide) (by decide)) ?_
  show Go p e below s _ _ _ T1 (mkF m 27 #[.val (.ref a), .val (.ref t), .val (.int (0 : Int32)), .val (.int (1 : Int32)), .val .null, .unset] [])
  obtain ⟨T2, X2, e2, st2⟩ := getS2 X1 hx hZ hown (host := "") (Or.inl (hw _ (List.mem_of_getElem? (i := 18) rfl))) Via.refl e1 S_COMPACT_STRINGS (g := (mkF m 27 #[.val (.ref a), .val (.ref t), .val (.int (0 : Int32)), .val (.int (1 : Int32)), .val .null, .unset] [])) rfl (hb hby d2_27)
  refine Go.st st2 ?_
  show Go p e below s _ _ _ T2 (mkF m 30 #[.val (.ref a), .val (.ref t), .val (.int (0 : Int32)), .val (.int (1 : Int32)), .val .null, .unset] [(.int cs)])
  refine Go.st (fun _ => XS.ifNo X2.here hx rfl (hb hby d2_30) rfl ((if0 _ _).trans (feq hcs).1)) ?_
  show Go p e below s _ _ _ T2 (mkF m 33 #[.val (.ref a), .val (.ref t), .val (.int (0 : Int32)), .val (.int (1 : Int32)), .val .null, .unset] [])
  refine Go.st (fun _ => XS.aloadN X2.here hx rfl (hb hby d2_33) rfl rfl) ?_
  show Go p e below s _ _ _ T2 (mkF m 34 #[.val (.ref a), .val (.ref t), .val (.int (0 : Int32)), .val (.int (1 : Int32)), .val .null, .unset] [(.ref t)])
  refine Go.st (fun _ => XS.iloadN X2.here hx rfl (hb hby d2_34) rfl) ?_
  show Go p e below s _ _ _ T2 (mkF m 35 #[.val (.ref a), .val (.ref t), .val (.int (0 : Int32)), .val (.int (1 : Int32)), .val .null, .unset] [(.int (0 : Int32)), (.ref t)])
  refine Go.st (fun _ => XS.iloadN X2.here hx rfl (hb hby d2_35) rfl) ?_
  show Go p e below s _ _ _ T2 (mkF m 36 #[.val (.ref a), .val (.ref t), .val (.int (0 : Int32)), .val (.int (1 : Int32)), .val .null, .unset] [(.int (1 : Int32)), (.int (0 : Int32)), (.ref t)])
  obtain ⟨_, _, ⟨T3, L3, kc3, nc3⟩, -, X3, ⟨Lc3, hQ3, l3, y3, z3⟩, st3⟩ := Jvm.LawKit.callS X2 hx (y := (⟨"java/lang/StringUTF16", "compress", "([CII)[B"⟩ : MethodName)) hown (mvT hZ (hw _ (List.mem_of_getElem? (i := 19) rfl))) (mvT hZ (hw _ (List.mem_of_getElem? (i := 20) rfl))) (mvT hZ (hw _ (List.mem_of_getElem? (i := 21) rfl))) (mvT hZ (hw _ (List.mem_of_getElem? (i := 22) rfl))) (by decide) (backOf (W := 0) (rmC1 l Z a0 hw [] t kt ch h0 n0 Z0 V_t hch) hZ (hw _ (List.mem_of_getElem? (i := 22) rfl)) (hw _ (List.mem_of_getElem? (i := 21) rfl)) (by decide) (by decide)) (g := (mkF m 36 #[.val (.ref a), .val (.ref t), .val (.int (0 : Int32)), .val (.int (1 : Int32)), .val .null, .unset] [(.int (1 : Int32)), (.int (0 : Int32)), (.ref t)])) rfl (by rw [hml]; rfl) (argsL := [(.ref t), (.int (0 : Int32)), (.int (1 : Int32))]) (rest := []) (lenOf pd_1 rfl) rfl (by show 2 * 0 + _ ≤ _; exact Nat.le_of_eq rfl) (hb hby d2_36) (fun _ _ => ⟨rfl, e2, (by decide : 0 + 1 ≤ _), (by decide : 0 + 1 ≤ _)⟩)
  dsimp only [Pt.U, Pt.locs, Pt.cells, Pt.slots] at X3 l3 y3 z3 st3 hQ3
  subst l3 y3 z3
  obtain ⟨h3, e3⟩ : ∃ hh, T3.heap = hh := ⟨_, rfl⟩
  rw [e3] at hQ3
  obtain ⟨d_3, kd_3, rfl, N3q, K3, p3_0, p3_1, p3_2⟩ := hQ3
  have N3 := Fr.app N0 N3q
  refine Go.st st3 ?_
  have ne_a_d_3 : a ≠ d_3 := Nat.ne_of_lt (Nat.lt_of_lt_of_le E_a.lt p3_0)
  have ne_t_d_3 : t ≠ d_3 := Nat.ne_of_lt (Nat.lt_of_lt_of_le V_t.lt p3_0)
  have KK3 : Keep h0 h3 [a] := (Keep.refl h0 [a]).trans K3 all0
  have z3q : n0 ≤ h3.size := Nat.le_trans Z0 K3.1
  have ns3 : ∀ x ∈ ([] : List Addr), ∀ cell : Cell, h0[x]? = some cell → cell.vm.isStatics = false := all0
  have sz3_0 : h0.size ≤ d_3 := Nat.le_trans (Keep.refl h0 [a]).1 p3_0
  show Go p e below s _ _ _ T3 (mkF m 39 #[.val (.ref a), .val (.ref t), .val (.int (0 : Int32)), .val (.int (1 : Int32)), .val .null, .unset] [(.ref d_3)])
  refine Go.st (fun _ => XS.astore X3.here hx rfl (hb hby d2_39) rfl rfl (l' := #[.val (.ref a), .val (.ref t), .val (.int (0 : Int32)), .val (.int (1 : Int32)), .val .null, .val (.ref d_3)]) rfl) ?_
  show Go p e below s _ _ _ T3 (mkF m 41 #[.val (.ref a), .val (.ref t), .val (.int (0 : Int32)), .val (.int (1 : Int32)), .val .null, .val (.ref d_3)] [])
  refine Go.st (fun _ => XS.aloadN X3.here hx rfl (hb hby d2_41) rfl rfl) ?_
  show Go p e below s _ _ _ T3 (mkF m 42 #[.val (.ref a), .val (.ref t), .val (.int (0 : Int32)), .val (.int (1 : Int32)), .val .null, .val (.ref d_3)] [(.ref a)])
  refine Go.st (fun _ => XS.aload X3.here hx rfl (hb hby d2_42) rfl rfl) ?_
  show Go p e below s _ _ _ T3 (mkF m 44 #[.val (.ref a), .val (.ref t), .val (.int (0 : Int32)), .val (.int (1 : Int32)), .val .null, .val (.ref d_3)] [(.ref d_3), (.ref a)])
  refine Go.st (fun _ => XS.iloadN X3.here hx rfl (hb hby d2_44) rfl) ?_
  show Go p e below s _ _ _ T3 (mkF m 45 #[.val (.ref a), .val (.ref t), .val (.int (0 : Int32)), .val (.int (1 : Int32)), .val .null, .val (.ref d_3)] [(.int (1 : Int32)), (.ref d_3), (.ref a)])
  obtain ⟨_, _, ⟨T4, L4, kc4, nc4⟩, -, X4, ⟨Lc4, hQ4, l4, y4, z4⟩, st4⟩ := Jvm.LawKit.callS X3 hx (y := (⟨"java/lang/StringUTF16", "coderFromArrayLen", "([BI)B"⟩ : MethodName)) hown (mvT hZ (hw _ (List.mem_of_getElem? (i := 27) rfl))) (mvT hZ (hw _ (List.mem_of_getElem? (i := 28) rfl))) (mvT hZ (hw _ (List.mem_of_getElem? (i := 21) rfl))) (mvT hZ (hw _ (List.mem_of_getElem? (i := 29) rfl))) (by decide) (backOf (W := 1) (rmCf l Z a0 hw [] d_3 kd_3 [(.int (ch.toInt8.toInt32))] h3 n0 z3q p3_2) hZ (hw _ (List.mem_of_getElem? (i := 29) rfl)) (hw _ (List.mem_of_getElem? (i := 21) rfl)) (by decide) (by decide)) (g := (mkF m 45 #[.val (.ref a), .val (.ref t), .val (.int (0 : Int32)), .val (.int (1 : Int32)), .val .null, .val (.ref d_3)] [(.int (1 : Int32)), (.ref d_3), (.ref a)])) rfl (by rw [hml]; rfl) (argsL := [(.ref d_3), (.int (1 : Int32))]) (rest := [(.ref a)]) (lenOf pd_2 rfl) rfl (by show 2 * 0 + _ ≤ _; exact Nat.le_of_eq rfl) (hb hby d2_45) (fun _ _ => ⟨rfl, e3, (by decide : 1 + 0 ≤ _), (by decide : 1 + 0 ≤ _)⟩)
  dsimp only [Pt.U, Pt.locs, Pt.cells, Pt.slots] at X4 l4 y4 z4 st4 hQ4
  subst l4 y4 z4
  obtain ⟨h4, e4⟩ : ∃ hh, T4.heap = hh := ⟨_, rfl⟩
  rw [e4] at hQ4
  obtain ⟨rfl, N4q, sm4⟩ := hQ4
  have N4 := Fr.app N3 N4q
  refine Go.st st4 ?_
  rw [sm4] at e4
  show Go p e below s _ _ _ T4 (mkF m 48 #[.val (.ref a), .val (.ref t), .val (.int (0 : Int32)), .val (.int (1 : Int32)), .val .null, .val (.ref d_3)] [(.int (0 : Int32)), (.ref a)])
  have f5 := (E_a.keep K3)
  have f6 := (F_coder_a.keep K3 nin0)
  obtain ⟨T7, h7, X7, e7, W7, st7⟩ := putF X4 hx hZ hown (host := "") (Or.inl (hw _ (List.mem_of_getElem? (i := 30) rfl))) Via.refl e4 f6 f5 (Or.inr ⟨(hw _ (List.mem_of_getElem? (i := 31) rfl)), rfl, hnm⟩) (hw _ (List.mem_of_getElem? (i := 6) rfl)) (ty := .byte) (by decide) rfl rfl (g := (mkF m 48 #[.val (.ref a), .val (.ref t), .val (.int (0 : Int32)), .val (.int (1 : Int32)), .val .null, .val (.ref d_3)] [(.int (0 : Int32)), (.ref a)])) rfl rfl (hb hby d2_48)
  refine Go.st st7 ?_
  have N7 := Fr.snoc X7 N4 g_a
  have K7 : Keep h0 h7 [a] := KK3.wr W7 (Or.inl (List.mem_of_getElem? (i := 0) rfl))
  have z7 : n0 ≤ h7.size := Nat.le_trans z3q (Nat.le_of_eq W7.size.symm)
  have Fw7 := f6.same W7
  show Go p e below s _ _ _ T7 (mkF m 51 #[.val (.ref a), .val (.ref t), .val (.int (0 : Int32)), .val (.int (1 : Int32)), .val .null, .val (.ref d_3)] [])
  refine Go.st (fun _ => XS.aloadN X7.here hx rfl (hb hby d2_51) rfl rfl) ?_
  show Go p e below s _ _ _ T7 (mkF m 52 #[.val (.ref a), .val (.ref t), .val (.int (0 : Int32)), .val (.int (1 : Int32)), .val .null, .val (.ref d_3)] [(.ref a)])
  refine Go.st (fun _ => XS.aload X7.here hx rfl (hb hby d2_52) rfl rfl) ?_
  show Go p e below s _ _ _ T7 (mkF m 54 #[.val (.ref a), .val (.ref t), .val (.int (0 : Int32)), .val (.int (1 : Int32)), .val .null, .val (.ref d_3)] [(.ref d_3), (.ref a)])
  have f8 := (f5.wr W7)
  have f9 := ((F_value_a.keep K3 nin0).other W7 (Or.inr (slot_ne (Or.inr (hw _ (List.mem_of_getElem? (i := 33) rfl))) (Or.inr (hw _ (List.mem_of_getElem? (i := 31) rfl))) (by decide) (t := (.array .byte)) (t' := .byte) (by decide) (by decide))))
  obtain ⟨T10, h10, X10, e10, W10, st10⟩ := putF X7 hx hZ hown (host := "") (Or.inl (hw _ (List.mem_of_getElem? (i := 32) rfl))) Via.refl e7 f9 f8 (Or.inr ⟨(hw _ (List.mem_of_getElem? (i := 33) rfl)), rfl, hnm⟩) (hw _ (List.mem_of_getElem? (i := 6) rfl)) (ty := (.array .byte)) (by decide) rfl rfl (g := (mkF m 54 #[.val (.ref a), .val (.ref t), .val (.int (0 : Int32)), .val (.int (1 : Int32)), .val .null, .val (.ref d_3)] [(.ref d_3), (.ref a)])) rfl rfl (hb hby d2_54)
  refine Go.st st10 ?_
  have N10 := Fr.snoc X10 N7 g_a
  have K10 : Keep h0 h10 [a] := K7.wr W10 (Or.inl (List.mem_of_getElem? (i := 0) rfl))
  have z10 : n0 ≤ h10.size := Nat.le_trans z7 (Nat.le_of_eq W10.size.symm)
  have Fw10 := f9.same W10
  show Go p e below s _ _ _ T10 (mkF m 57 #[.val (.ref a), .val (.ref t), .val (.int (0 : Int32)), .val (.int (1 : Int32)), .val .null, .val (.ref d_3)] [])
  have f11 := (f8.wr W10)
  exact Go.ret0 X10 hx hlk Bd.returns (hb hby d2_57) (by rw [e10]; exact ⟨rfl, N10, K10, f11⟩) (by decide) (by decide)
theorem d1_0 : decode jdk_42_method_3_code 0 = .ok (.aload_n 0, 1) := by decide +kernel
theorem d1_1 : decode jdk_42_method_3_code 1 = .ok (.aload_n 1, 1) := by decide +kernel
theorem d1_2 : decode jdk_42_method_3_code 2 = .ok (.iconst 0, 1) := by decide +kernel
theorem d1_3 : decode jdk_42_method_3_code 3 = .ok (.aload_n 1, 1) := by decide +kernel
theorem d1_4 : decode jdk_42_method_3_code 4 = .ok (.arraylength, 1) := by decide +kernel
theorem d1_5 : decode jdk_42_method_3_code 5 = .ok (.aconst_null, 1) := by decide +kernel
theorem d1_6 : decode jdk_42_method_3_code 6 = .ok (.invokespecial 27, 3) := by decide +kernel
theorem pd_3 : parseMethodDescriptor "([CIILjava/lang/Void;)V" = some ⟨[(.array .char), .int, .int, (.object "java/lang/Void")], none⟩ := by decide +kernel
theorem d1_9 : decode jdk_42_method_3_code 9 = .ok (.return_, 1) := by decide +kernel
theorem ef_rmI1 (m : MethodId) (a : Addr) (t : Addr) : entryFrame m #[(.ref a), (.ref t)] 2 = mkF m 0 #[.val (.ref a), .val (.ref t)] [] := by first | (simp [entryFrame, mkF, argsToLocals, Value.category]; done) | rfl
def QrmI1 (Z : State) (a : Addr) (t : Addr) (kt : ClassId) (ch : Int32) (cs : Int32) (h0 : Heap) (n0 : Nat) (rV : Option Value) (hE : Heap) (LE : List Loc) : Prop := rV = none ∧ Fr n0 LE ∧ Keep h0 hE [a] ∧ Exa Z hE a "java/lang/String"
set_option maxRecDepth 65536 in
set_option maxHeartbeats 40000000 in
theorem rmI1 (l : Launch) (Z : State) (a0 : Array Value) (hw : ∀ d ∈ tables_1, d.before a0 Z = true) (ws : List Jvm.Cond) (a : Addr) (t : Addr) (kt : ClassId) (ch : Int32) (cs : Int32) (h0 : Heap) (n0 : Nat) (Z0 : n0 ≤ h0.size) (E_a : Exa Z h0 a "java/lang/String") (F_value_a : Fld Z h0 a "java/lang/String" "value" "[B" .null) (F_coder_a : Fld Z h0 a "java/lang/String" "coder" "B" (.int (0 : Int32))) (V_t : Arv Z h0 t kt .char (1 : Int32) [(.int ch)] (.int (0 : Int32))) (S_COMPACT_STRINGS : Sta Z h0 "java/lang/String" "COMPACT_STRINGS" "Z" (.int cs)) (hcs : ¬ (cs = (0 : Int32))) (hch : ¬ ((255 : Int32) < ch)) (g_a : n0 ≤ a) :
    MetFree l (⟨"java/lang/String", "<init>", "([C)V"⟩ : MethodName) (head1 (Jvm.Cond.code (⟨"java/lang/String", "<init>", "([C)V"⟩ : MethodName) jdk_42_method_3_code 2 none :: ws) ({ frames := 3, cells := 1, slots := 1, locals := 52 } : Room)) (fun aA UA => aA = #[(.ref a), (.ref t)] ∧ Z.Warmed39 UA.vm ∧ UA.heap = h0) (fun _ _ _ _ _ => True) (fun _ UA oA UB => ∃ rV LE, oA = .returned rV ∧ QrmI1 Z a t kt ch cs h0 n0 rV UB.heap LE ∧ FrameEnd UA oA UB LE ({ frames := 3, cells := 1, slots := 1, locals := 52 } : Room).cells ({ frames := 3, cells := 1, slots := 1, locals := 52 } : Room).slots) := by
  refine MetFree.of_bodySF (plainFor_of_name pn_1) hisR ?_
  intro p e s m args below meth c s₁ Bd hml0 hP hK
  obtain ⟨rfl, hZ, hh⟩ := hP
  have hx := Bd.exec
  have hby := Bd.bytes
  have hml : c.maxLocals = 2 := hml0
  have hown : s.vm.findClass "java/lang/String" = some m.cls := findClass_of_methodNamed Bd.named
  have hnm := (name_of_methodNamed Bd.named Bd.method).1
  have hlk := Bd.notSynchronized
  have X0 : Stand p l e ({ frames := 3, cells := 1, slots := 1, locals := 52 } : Room) s m #[(.ref a), (.ref t)] below meth c s₁ [] 0 0 := Stand.of_body Bd
  have e0 : s₁.heap = h0 := by rw [← hh, Bd.state]; rfl
  have N0 := Fr.nil n0
  show Go p e below s (QrmI1 Z a t kt ch cs h0 n0) ({ frames := 3, cells := 1, slots := 1, locals := 52 } : Room).cells ({ frames := 3, cells := 1, slots := 1, locals := 52 } : Room).slots s₁ (entryFrame m #[(.ref a), (.ref t)] 2)
  refine Go.eq (ef_rmI1 m a t) ?_
  show Go p e below s _ _ _ s₁ (mkF m 0 #[.val (.ref a), .val (.ref t)] [])
  refine Go.st (fun _ => XS.aloadN X0.here hx rfl (hb hby d1_0) rfl rfl) ?_
  show Go p e below s _ _ _ s₁ (mkF m 1 #[.val (.ref a), .val (.ref t)] [(.ref a)])
  refine Go.st (fun _ => XS.aloadN X0.here hx rfl (hb hby d1_1) rfl rfl) ?_
  show Go p e below s _ _ _ s₁ (mkF m 2 #[.val (.ref a), .val (.ref t)] [(.ref t), (.ref a)])
  refine Go.st (fun _ => XS.iconst X0.here hx rfl (hb hby d1_2)) ?_
  show Go p e below s _ _ _ s₁ (mkF m 3 #[.val (.ref a), .val (.ref t)] [(.int (0 : Int32)), (.ref t), (.ref a)])
  refine Go.st (fun _ => XS.aloadN X0.here hx rfl (hb hby d1_3) rfl rfl) ?_
  show Go p e below s _ _ _ s₁ (mkF m 4 #[.val (.ref a), .val (.ref t)] [(.ref t), (.int (0 : Int32)), (.ref t), (.ref a)])
  obtain ⟨cl1, Ar1, q1, S1, M1, H1, G1⟩ := id V_t
  refine Go.st (fun tG => X0.arraylength hx (by rw [e0]; exact Ar1.1) (State.isArrayOf_alike hZ.alike Ar1.2.1) (g := (mkF m 4 #[.val (.ref a), .val (.ref t)] [(.ref t), (.int (0 : Int32)), (.ref t), (.ref a)])) rfl rfl (hb hby d1_4) tG) ?_
  rw [len_of S1 M1]
  show Go p e below s _ _ _ s₁ (mkF m 5 #[.val (.ref a), .val (.ref t)] [(.int (1 : Int32)), (.int (0 : Int32)), (.ref t), (.ref a)])
  refine Go.st (fun _ => XS.aconstNull X0.here hx rfl (hb hby d1_5)) ?_
  show Go p e below s _ _ _ s₁ (mkF m 6 #[.val (.ref a), .val (.ref t)] [.null, (.int (1 : Int32)), (.int (0 : Int32)), (.ref t), (.ref a)])
  obtain ⟨_, _, ⟨T2, L2, kc2, nc2⟩, -, X2, ⟨Lc2, hQ2, l2, y2, z2⟩, st2⟩ := X0.specialBack hx (y := (⟨"java/lang/String", "<init>", "([CIILjava/lang/Void;)V"⟩ : MethodName)) rfl hown (mvT hZ (hw _ (List.mem_of_getElem? (i := 11) rfl))) (mvT hZ (hw _ (List.mem_of_getElem? (i := 12) rfl))) (mvT hZ (hw _ (List.mem_of_getElem? (i := 14) rfl))) (by decide) (backOf (W := 0) (rmI4 l Z a0 hw [] a t kt ch cs h0 n0 Z0 E_a F_value_a F_coder_a V_t S_COMPACT_STRINGS hcs hch g_a) hZ (hw _ (List.mem_of_getElem? (i := 14) rfl)) (hw _ (List.mem_of_getElem? (i := 7) rfl)) (by decide) (by decide)) (g := (mkF m 6 #[.val (.ref a), .val (.ref t)] [.null, (.int (1 : Int32)), (.int (0 : Int32)), (.ref t), (.ref a)])) rfl (by rw [hml]; rfl) (Steps.refl _) (a := a) (argsL := [(.ref t), (.int (0 : Int32)), (.int (1 : Int32)), .null]) (rest := []) (lenOf pd_3 rfl) rfl (by show 2 * 0 + _ ≤ _; exact Nat.le_of_eq rfl) (hb hby d1_6) (fun _ _ => ⟨rfl, e0, (by decide : 0 + 1 ≤ _), (by decide : 0 + 1 ≤ _)⟩)
  dsimp only [Pt.U, Pt.locs, Pt.cells, Pt.slots] at X2 l2 y2 z2 st2 hQ2
  subst l2 y2 z2
  obtain ⟨h2, e2⟩ : ∃ hh, T2.heap = hh := ⟨_, rfl⟩
  rw [e2] at hQ2
  obtain ⟨rfl, N2q, K2, p2_0⟩ := hQ2
  have N2 := Fr.app N0 N2q
  refine Go.st (fun _ kk => st2.trans kk) ?_
  have KK2 : Keep h0 h2 [a] := (Keep.refl h0 [a]).trans K2 (allS (Or.inl (List.mem_of_getElem? (i := 0) rfl)) all0)
  have z2q : n0 ≤ h2.size := Nat.le_trans Z0 K2.1
  have ns2 : ∀ x ∈ ([a] : List Addr), ∀ cell : Cell, h0[x]? = some cell → cell.vm.isStatics = false := (allS E_a.nostat all0)
  show Go p e below s _ _ _ T2 (mkF m 9 #[.val (.ref a), .val (.ref t)] [])
  exact Go.ret0 X2 hx hlk Bd.returns (hb hby d1_9) (by rw [e2]; exact ⟨rfl, N2, KK2, p2_0⟩) (by decide) (by decide)
theorem d8_0 : decode jdk_30_method_1_code 0 = .ok (.aload_n 0, 1) := by decide +kernel
theorem d8_1 : decode jdk_30_method_1_code 1 = .ok (.invokespecial 1, 3) := by decide +kernel
theorem d8_4 : decode jdk_30_method_1_code 4 = .ok (.return_, 1) := by decide +kernel
theorem pn_2 : plainName "java/lang/Record" = true := by first | (simp [plainName, overriddenIn]; done) | decide +kernel
theorem ef_rmRe (m : MethodId) (a : Addr) : entryFrame m #[(.ref a)] 1 = mkF m 0 #[.val (.ref a)] [] := by first | (simp [entryFrame, mkF, argsToLocals, Value.category]; done) | rfl
def QrmRe (Z : State) (a : Addr) (h0 : Heap) (n0 : Nat) (rV : Option Value) (hE : Heap) (LE : List Loc) : Prop := rV = none ∧ Fr n0 LE ∧ hE = h0
set_option maxRecDepth 65536 in
set_option maxHeartbeats 40000000 in
theorem rmRe (l : Launch) (Z : State) (a0 : Array Value) (hw : ∀ d ∈ tables_1, d.before a0 Z = true) (ws : List Jvm.Cond) (a : Addr) (h0 : Heap) (n0 : Nat) (Z0 : n0 ≤ h0.size) :
    MetFree l (⟨"java/lang/Record", "<init>", "()V"⟩ : MethodName) (head1 (Jvm.Cond.code (⟨"java/lang/Record", "<init>", "()V"⟩ : MethodName) jdk_30_method_1_code 1 none :: ws) ({ frames := 1, cells := 0, slots := 0, locals := 12 } : Room)) (fun aA UA => aA = #[(.ref a)] ∧ Z.Warmed39 UA.vm ∧ UA.heap = h0) (fun _ _ _ _ _ => True) (fun _ UA oA UB => ∃ rV LE, oA = .returned rV ∧ QrmRe Z a h0 n0 rV UB.heap LE ∧ FrameEnd UA oA UB LE ({ frames := 1, cells := 0, slots := 0, locals := 12 } : Room).cells ({ frames := 1, cells := 0, slots := 0, locals := 12 } : Room).slots) := by
  refine MetFree.of_bodySF (plainFor_of_name pn_2) hisR ?_
  intro p e s m args below meth c s₁ Bd hml0 hP hK
  obtain ⟨rfl, hZ, hh⟩ := hP
  have hx := Bd.exec
  have hby := Bd.bytes
  have hml : c.maxLocals = 1 := hml0
  have hown : s.vm.findClass "java/lang/Record" = some m.cls := findClass_of_methodNamed Bd.named
  have hnm := (name_of_methodNamed Bd.named Bd.method).1
  have hlk := Bd.notSynchronized
  have X0 : Stand p l e ({ frames := 1, cells := 0, slots := 0, locals := 12 } : Room) s m #[(.ref a)] below meth c s₁ [] 0 0 := Stand.of_body Bd
  have e0 : s₁.heap = h0 := by rw [← hh, Bd.state]; rfl
  have N0 := Fr.nil n0
  show Go p e below s (QrmRe Z a h0 n0) ({ frames := 1, cells := 0, slots := 0, locals := 12 } : Room).cells ({ frames := 1, cells := 0, slots := 0, locals := 12 } : Room).slots s₁ (entryFrame m #[(.ref a)] 1)
  refine Go.eq (ef_rmRe m a) ?_
  show Go p e below s _ _ _ s₁ (mkF m 0 #[.val (.ref a)] [])
  refine Go.st (fun _ => XS.aloadN X0.here hx rfl (hb hby d8_0) rfl rfl) ?_
  show Go p e below s _ _ _ s₁ (mkF m 1 #[.val (.ref a)] [(.ref a)])
  obtain ⟨T1, X1, e1, st1⟩ := initO X0 hx hZ hown (hw _ (List.mem_of_getElem? (i := 46) rfl)) (hw _ (List.mem_of_getElem? (i := 16) rfl)) (hw _ (List.mem_of_getElem? (i := 17) rfl)) e0 (g := (mkF m 1 #[.val (.ref a)] [(.ref a)])) rfl (by rw [hml]; rfl) rfl (hb hby d8_1) (by decide) (W := 0) (by show 2 * 0 + _ ≤ _; exact Nat.le_of_eq rfl) (by decide)
  refine Go.st st1 ?_
  show Go p e below s _ _ _ T1 (mkF m 4 #[.val (.ref a)] [])
  exact Go.ret0 X1 hx hlk Bd.returns (hb hby d8_4) (by rw [e1]; exact ⟨rfl, N0, rfl⟩) (by decide) (by decide)
theorem d7_0 : decode prog_22_method_1_code 0 = .ok (.aload_n 0, 1) := by decide +kernel
theorem d7_1 : decode prog_22_method_1_code 1 = .ok (.invokespecial 1, 3) := by decide +kernel
theorem pd_4 : parseMethodDescriptor "()V" = some ⟨[], none⟩ := by decide +kernel
theorem d7_4 : decode prog_22_method_1_code 4 = .ok (.aload_n 0, 1) := by decide +kernel
theorem d7_5 : decode prog_22_method_1_code 5 = .ok (.aload_n 1, 1) := by decide +kernel
theorem d7_6 : decode prog_22_method_1_code 6 = .ok (.putfield 7, 3) := by decide +kernel
theorem d7_9 : decode prog_22_method_1_code 9 = .ok (.aload_n 0, 1) := by decide +kernel
theorem d7_10 : decode prog_22_method_1_code 10 = .ok (.aload_n 2, 1) := by decide +kernel
theorem d7_11 : decode prog_22_method_1_code 11 = .ok (.putfield 13, 3) := by decide +kernel
theorem d7_14 : decode prog_22_method_1_code 14 = .ok (.aload_n 0, 1) := by decide +kernel
theorem d7_15 : decode prog_22_method_1_code 15 = .ok (.lload_n 3, 1) := by decide +kernel
theorem d7_16 : decode prog_22_method_1_code 16 = .ok (.putfield 17, 3) := by decide +kernel
theorem d7_19 : decode prog_22_method_1_code 19 = .ok (.aload_n 0, 1) := by decide +kernel
theorem d7_20 : decode prog_22_method_1_code 20 = .ok (.lload 5, 2) := by decide +kernel
theorem d7_22 : decode prog_22_method_1_code 22 = .ok (.putfield 21, 3) := by decide +kernel
theorem d7_25 : decode prog_22_method_1_code 25 = .ok (.aload_n 0, 1) := by decide +kernel
theorem d7_26 : decode prog_22_method_1_code 26 = .ok (.lload 7, 2) := by decide +kernel
theorem d7_28 : decode prog_22_method_1_code 28 = .ok (.putfield 24, 3) := by decide +kernel
theorem d7_31 : decode prog_22_method_1_code 31 = .ok (.aload_n 0, 1) := by decide +kernel
theorem d7_32 : decode prog_22_method_1_code 32 = .ok (.lload 9, 2) := by decide +kernel
theorem d7_34 : decode prog_22_method_1_code 34 = .ok (.putfield 27, 3) := by decide +kernel
theorem d7_37 : decode prog_22_method_1_code 37 = .ok (.aload_n 0, 1) := by decide +kernel
theorem d7_38 : decode prog_22_method_1_code 38 = .ok (.lload 11, 2) := by decide +kernel
theorem d7_40 : decode prog_22_method_1_code 40 = .ok (.putfield 30, 3) := by decide +kernel
theorem d7_43 : decode prog_22_method_1_code 43 = .ok (.aload_n 0, 1) := by decide +kernel
theorem d7_44 : decode prog_22_method_1_code 44 = .ok (.lload 13, 2) := by decide +kernel
theorem d7_46 : decode prog_22_method_1_code 46 = .ok (.putfield 33, 3) := by decide +kernel
theorem d7_49 : decode prog_22_method_1_code 49 = .ok (.aload_n 0, 1) := by decide +kernel
theorem d7_50 : decode prog_22_method_1_code 50 = .ok (.lload 15, 2) := by decide +kernel
theorem d7_52 : decode prog_22_method_1_code 52 = .ok (.putfield 36, 3) := by decide +kernel
theorem d7_55 : decode prog_22_method_1_code 55 = .ok (.return_, 1) := by decide +kernel
theorem pn_3 : plainName "com/example/reapd/reapd/TableStats" = true := by first | (simp [plainName, overriddenIn]; done) | decide +kernel
theorem ef_rmTi (m : MethodId) (a : Addr) (nm : Addr) (sg : Addr) (q0 : Int64) (q1 : Int64) (q2 : Int64) (q3 : Int64) (q4 : Int64) (q5 : Int64) (q6 : Int64) : entryFrame m #[(.ref a), (.ref nm), (.ref sg), (.long q0), (.long q1), (.long q2), (.long q3), (.long q4), (.long q5), (.long q6)] 17 = mkF m 0 #[.val (.ref a), .val (.ref nm), .val (.ref sg), .val (.long q0), .second, .val (.long q1), .second, .val (.long q2), .second, .val (.long q3), .second, .val (.long q4), .second, .val (.long q5), .second, .val (.long q6), .second] [] := by first | (simp [entryFrame, mkF, argsToLocals, Value.category]; done) | rfl
def QrmTi (Z : State) (a : Addr) (nm : Addr) (sg : Addr) (q0 : Int64) (q1 : Int64) (q2 : Int64) (q3 : Int64) (q4 : Int64) (q5 : Int64) (q6 : Int64) (h0 : Heap) (n0 : Nat) (rV : Option Value) (hE : Heap) (LE : List Loc) : Prop := rV = none ∧ Fr n0 LE ∧ Keep h0 hE [a] ∧ Exa Z hE a "com/example/reapd/reapd/TableStats" ∧ Fld Z hE a "com/example/reapd/reapd/TableStats" "expirySeconds" "J" (.long q4) ∧ Fld Z hE a "com/example/reapd/reapd/TableStats" "expiring" "J" (.long q5)
set_option maxRecDepth 65536 in
set_option maxHeartbeats 40000000 in
theorem rmTi (l : Launch) (Z : State) (a0 : Array Value) (hw : ∀ d ∈ tables_1, d.before a0 Z = true) (ws : List Jvm.Cond) (a : Addr) (nm : Addr) (sg : Addr) (q0 : Int64) (q1 : Int64) (q2 : Int64) (q3 : Int64) (q4 : Int64) (q5 : Int64) (q6 : Int64) (h0 : Heap) (n0 : Nat) (Z0 : n0 ≤ h0.size) (E_a : Exa Z h0 a "com/example/reapd/reapd/TableStats") (F_name_a : Fld Z h0 a "com/example/reapd/reapd/TableStats" "name" "Ljava/lang/String;" .null) (F_strategy_a : Fld Z h0 a "com/example/reapd/reapd/TableStats" "strategy" "Lcom/example/reapd/reapd/SweepStrategy;" .null) (F_keys_a : Fld Z h0 a "com/example/reapd/reapd/TableStats" "keys" "J" (.long (0 : Int64))) (F_versions_a : Fld Z h0 a "com/example/reapd/reapd/TableStats" "versions" "J" (.long (0 : Int64))) (F_tombstones_a : Fld Z h0 a "com/example/reapd/reapd/TableStats" "tombstones" "J" (.long (0 : Int64))) (F_sentinels_a : Fld Z h0 a "com/example/reapd/reapd/TableStats" "sentinels" "J" (.long (0 : Int64))) (F_expirySeconds_a : Fld Z h0 a "com/example/reapd/reapd/TableStats" "expirySeconds" "J" (.long (0 : Int64))) (F_expiring_a : Fld Z h0 a "com/example/reapd/reapd/TableStats" "expiring" "J" (.long (0 : Int64))) (F_expired_a : Fld Z h0 a "com/example/reapd/reapd/TableStats" "expired" "J" (.long (0 : Int64))) (g_a : n0 ≤ a) :
    MetFree l (⟨"com/example/reapd/reapd/TableStats", "<init>", "(Ljava/lang/String;Lcom/example/reapd/reapd/SweepStrategy;JJJJJJJ)V"⟩ : MethodName) (head1 (Jvm.Cond.code (⟨"com/example/reapd/reapd/TableStats", "<init>", "(Ljava/lang/String;Lcom/example/reapd/reapd/SweepStrategy;JJJJJJJ)V"⟩ : MethodName) prog_22_method_1_code 17 none :: ws) ({ frames := 2, cells := 0, slots := 0, locals := 24 } : Room)) (fun aA UA => aA = #[(.ref a), (.ref nm), (.ref sg), (.long q0), (.long q1), (.long q2), (.long q3), (.long q4), (.long q5), (.long q6)] ∧ Z.Warmed39 UA.vm ∧ UA.heap = h0) (fun _ _ _ _ _ => True) (fun _ UA oA UB => ∃ rV LE, oA = .returned rV ∧ QrmTi Z a nm sg q0 q1 q2 q3 q4 q5 q6 h0 n0 rV UB.heap LE ∧ FrameEnd UA oA UB LE ({ frames := 2, cells := 0, slots := 0, locals := 24 } : Room).cells ({ frames := 2, cells := 0, slots := 0, locals := 24 } : Room).slots) := by
  refine MetFree.of_bodySF (plainFor_of_name pn_3) hisR ?_
  intro p e s m args below meth c s₁ Bd hml0 hP hK
  obtain ⟨rfl, hZ, hh⟩ := hP
  have hx := Bd.exec
  have hby := Bd.bytes
  have hml : c.maxLocals = 17 := hml0
  have hown : s.vm.findClass "com/example/reapd/reapd/TableStats" = some m.cls := findClass_of_methodNamed Bd.named
  have hnm := (name_of_methodNamed Bd.named Bd.method).1
  have hlk := Bd.notSynchronized
  have X0 : Stand p l e ({ frames := 2, cells := 0, slots := 0, locals := 24 } : Room) s m #[(.ref a), (.ref nm), (.ref sg), (.long q0), (.long q1), (.long q2), (.long q3), (.long q4), (.long q5), (.long q6)] below meth c s₁ [] 0 0 := Stand.of_body Bd
  have e0 : s₁.heap = h0 := by rw [← hh, Bd.state]; rfl
  have N0 := Fr.nil n0
  show Go p e below s (QrmTi Z a nm sg q0 q1 q2 q3 q4 q5 q6 h0 n0) ({ frames := 2, cells := 0, slots := 0, locals := 24 } : Room).cells ({ frames := 2, cells := 0, slots := 0, locals := 24 } : Room).slots s₁ (entryFrame m #[(.ref a), (.ref nm), (.ref sg), (.long q0), (.long q1), (.long q2), (.long q3), (.long q4), (.long q5), (.long q6)] 17)
  refine Go.eq (ef_rmTi m a nm sg q0 q1 q2 q3 q4 q5 q6) ?_
  show Go p e below s _ _ _ s₁ (mkF m 0 #[.val (.ref a), .val (.ref nm), .val (.ref sg), .val (.long q0), .second, .val (.long q1), .second, .val (.long q2), .second, .val (.long q3), .second, .val (.long q4), .second, .val (.long q5), .second, .val (.long q6), .second] [])
  refine Go.st (fun _ => XS.aloadN X0.here hx rfl (hb hby d7_0) rfl rfl) ?_
  show Go p e below s _ _ _ s₁ (mkF m 1 #[.val (.ref a), .val (.ref nm), .val (.ref sg), .val (.long q0), .second, .val (.long q1), .second, .val (.long q2), .second, .val (.long q3), .second, .val (.long q4), .second, .val (.long q5), .second, .val (.long q6), .second] [(.ref a)])
  obtain ⟨_, _, ⟨T1, L1, kc1, nc1⟩, -, X1, ⟨Lc1, hQ1, l1, y1, z1⟩, st1⟩ := X0.specialBack hx (y := (⟨"java/lang/Record", "<init>", "()V"⟩ : MethodName)) rfl hown (mvT hZ (hw _ (List.mem_of_getElem? (i := 41) rfl))) (mvT hZ (hw _ (List.mem_of_getElem? (i := 42) rfl))) (mvT hZ (hw _ (List.mem_of_getElem? (i := 45) rfl))) (by decide) (backOf (W := 0) (rmRe l Z a0 hw [] a h0 n0 Z0 ) hZ (hw _ (List.mem_of_getElem? (i := 45) rfl)) (hw _ (List.mem_of_getElem? (i := 44) rfl)) (by decide) (by decide)) (g := (mkF m 1 #[.val (.ref a), .val (.ref nm), .val (.ref sg), .val (.long q0), .second, .val (.long q1), .second, .val (.long q2), .second, .val (.long q3), .second, .val (.long q4), .second, .val (.long q5), .second, .val (.long q6), .second] [(.ref a)])) rfl (by rw [hml]; rfl) (Steps.refl _) (a := a) (argsL := []) (rest := []) (lenOf pd_4 rfl) rfl (by show 2 * 0 + _ ≤ _; exact Nat.le_of_eq rfl) (hb hby d7_1) (fun _ _ => ⟨rfl, e0, (by decide : 0 + 0 ≤ _), (by decide : 0 + 0 ≤ _)⟩)
  dsimp only [Pt.U, Pt.locs, Pt.cells, Pt.slots] at X1 l1 y1 z1 st1 hQ1
  subst l1 y1 z1
  obtain ⟨h1, e1⟩ : ∃ hh, T1.heap = hh := ⟨_, rfl⟩
  rw [e1] at hQ1
  obtain ⟨rfl, N1q, sm1⟩ := hQ1
  have N1 := Fr.app N0 N1q
  refine Go.st (fun _ kk => st1.trans kk) ?_
  rw [sm1] at e1
  show Go p e below s _ _ _ T1 (mkF m 4 #[.val (.ref a), .val (.ref nm), .val (.ref sg), .val (.long q0), .second, .val (.long q1), .second, .val (.long q2), .second, .val (.long q3), .second, .val (.long q4), .second, .val (.long q5), .second, .val (.long q6), .second] [])
  refine Go.st (fun _ => XS.aloadN X1.here hx rfl (hb hby d7_4) rfl rfl) ?_
  show Go p e below s _ _ _ T1 (mkF m 5 #[.val (.ref a), .val (.ref nm), .val (.ref sg), .val (.long q0), .second, .val (.long q1), .second, .val (.long q2), .second, .val (.long q3), .second, .val (.long q4), .second, .val (.long q5), .second, .val (.long q6), .second] [(.ref a)])
  refine Go.st (fun _ => XS.aloadN X1.here hx rfl (hb hby d7_5) rfl rfl) ?_
  show Go p e below s _ _ _ T1 (mkF m 6 #[.val (.ref a), .val (.ref nm), .val (.ref sg), .val (.long q0), .second, .val (.long q1), .second, .val (.long q2), .second, .val (.long q3), .second, .val (.long q4), .second, .val (.long q5), .second, .val (.long q6), .second] [(.ref nm), (.ref a)])
  obtain ⟨T2, h2, X2, e2, W2, st2⟩ := putF X1 hx hZ hown (host := "") (Or.inl (hw _ (List.mem_of_getElem? (i := 47) rfl))) Via.refl e1 F_name_a E_a (Or.inr ⟨(hw _ (List.mem_of_getElem? (i := 48) rfl)), rfl, hnm⟩) (hw _ (List.mem_of_getElem? (i := 35) rfl)) (ty := (.object "java/lang/String")) (by decide) rfl rfl (g := (mkF m 6 #[.val (.ref a), .val (.ref nm), .val (.ref sg), .val (.long q0), .second, .val (.long q1), .second, .val (.long q2), .second, .val (.long q3), .second, .val (.long q4), .second, .val (.long q5), .second, .val (.long q6), .second] [(.ref nm), (.ref a)])) rfl rfl (hb hby d7_6)
  refine Go.st st2 ?_
  have N2 := Fr.snoc X2 N1 g_a
  have K2 : Keep h0 h2 [a] := (Keep.refl h0 [a]).wr W2 (Or.inl (List.mem_of_getElem? (i := 0) rfl))
  have z2 : n0 ≤ h2.size := Nat.le_trans Z0 (Nat.le_of_eq W2.size.symm)
  have Fw2 := F_name_a.same W2
  show Go p e below s _ _ _ T2 (mkF m 9 #[.val (.ref a), .val (.ref nm), .val (.ref sg), .val (.long q0), .second, .val (.long q1), .second, .val (.long q2), .second, .val (.long q3), .second, .val (.long q4), .second, .val (.long q5), .second, .val (.long q6), .second] [])
  refine Go.st (fun _ => XS.aloadN X2.here hx rfl (hb hby d7_9) rfl rfl) ?_
  show Go p e below s _ _ _ T2 (mkF m 10 #[.val (.ref a), .val (.ref nm), .val (.ref sg), .val (.long q0), .second, .val (.long q1), .second, .val (.long q2), .second, .val (.long q3), .second, .val (.long q4), .second, .val (.long q5), .second, .val (.long q6), .second] [(.ref a)])
  refine Go.st (fun _ => XS.aloadN X2.here hx rfl (hb hby d7_10) rfl rfl) ?_
  show Go p e below s _ _ _ T2 (mkF m 11 #[.val (.ref a), .val (.ref nm), .val (.ref sg), .val (.long q0), .second, .val (.long q1), .second, .val (.long q2), .second, .val (.long q3), .second, .val (.long q4), .second, .val (.long q5), .second, .val (.long q6), .second] [(.ref sg), (.ref a)])
  have f3 := (E_a.wr W2)
  have f4 := (F_strategy_a.other W2 (Or.inr (slot_ne (Or.inr (hw _ (List.mem_of_getElem? (i := 50) rfl))) (Or.inr (hw _ (List.mem_of_getElem? (i := 48) rfl))) (by decide) (t := (.object "com/example/reapd/reapd/SweepStrategy")) (t' := (.object "java/lang/String")) (by decide) (by decide))))
  obtain ⟨T5, h5, X5, e5, W5, st5⟩ := putF X2 hx hZ hown (host := "") (Or.inl (hw _ (List.mem_of_getElem? (i := 49) rfl))) Via.refl e2 f4 f3 (Or.inr ⟨(hw _ (List.mem_of_getElem? (i := 50) rfl)), rfl, hnm⟩) (hw _ (List.mem_of_getElem? (i := 35) rfl)) (ty := (.object "com/example/reapd/reapd/SweepStrategy")) (by decide) rfl rfl (g := (mkF m 11 #[.val (.ref a), .val (.ref nm), .val (.ref sg), .val (.long q0), .second, .val (.long q1), .second, .val (.long q2), .second, .val (.long q3), .second, .val (.long q4), .second, .val (.long q5), .second, .val (.long q6), .second] [(.ref sg), (.ref a)])) rfl rfl (hb hby d7_11)
  refine Go.st st5 ?_
  have N5 := Fr.snoc X5 N2 g_a
  have K5 : Keep h0 h5 [a] := K2.wr W5 (Or.inl (List.mem_of_getElem? (i := 0) rfl))
  have z5 : n0 ≤ h5.size := Nat.le_trans z2 (Nat.le_of_eq W5.size.symm)
  have Fw5 := f4.same W5
  show Go p e below s _ _ _ T5 (mkF m 14 #[.val (.ref a), .val (.ref nm), .val (.ref sg), .val (.long q0), .second, .val (.long q1), .second, .val (.long q2), .second, .val (.long q3), .second, .val (.long q4), .second, .val (.long q5), .second, .val (.long q6), .second] [])
  refine Go.st (fun _ => XS.aloadN X5.here hx rfl (hb hby d7_14) rfl rfl) ?_
  show Go p e below s _ _ _ T5 (mkF m 15 #[.val (.ref a), .val (.ref nm), .val (.ref sg), .val (.long q0), .second, .val (.long q1), .second, .val (.long q2), .second, .val (.long q3), .second, .val (.long q4), .second, .val (.long q5), .second, .val (.long q6), .second] [(.ref a)])
  refine Go.st (fun _ => XS.lloadN X5.here hx rfl (hb hby d7_15) rfl) ?_
  show Go p e below s _ _ _ T5 (mkF m 16 #[.val (.ref a), .val (.ref nm), .val (.ref sg), .val (.long q0), .second, .val (.long q1), .second, .val (.long q2), .second, .val (.long q3), .second, .val (.long q4), .second, .val (.long q5), .second, .val (.long q6), .second] [(.long q0), (.ref a)])
  have f6 := (f3.wr W5)
  have f7 := ((F_keys_a.other W2 (Or.inr (slot_ne (Or.inr (hw _ (List.mem_of_getElem? (i := 52) rfl))) (Or.inr (hw _ (List.mem_of_getElem? (i := 48) rfl))) (by decide) (t := .long) (t' := (.object "java/lang/String")) (by decide) (by decide)))).other W5 (Or.inr (slot_ne (Or.inr (hw _ (List.mem_of_getElem? (i := 52) rfl))) (Or.inr (hw _ (List.mem_of_getElem? (i := 50) rfl))) (by decide) (t := .long) (t' := (.object "com/example/reapd/reapd/SweepStrategy")) (by decide) (by decide))))
  obtain ⟨T8, h8, X8, e8, W8, st8⟩ := putF X5 hx hZ hown (host := "") (Or.inl (hw _ (List.mem_of_getElem? (i := 51) rfl))) Via.refl e5 f7 f6 (Or.inr ⟨(hw _ (List.mem_of_getElem? (i := 52) rfl)), rfl, hnm⟩) (hw _ (List.mem_of_getElem? (i := 35) rfl)) (ty := .long) (by decide) rfl rfl (g := (mkF m 16 #[.val (.ref a), .val (.ref nm), .val (.ref sg), .val (.long q0), .second, .val (.long q1), .second, .val (.long q2), .second, .val (.long q3), .second, .val (.long q4), .second, .val (.long q5), .second, .val (.long q6), .second] [(.long q0), (.ref a)])) rfl rfl (hb hby d7_16)
  refine Go.st st8 ?_
  have N8 := Fr.snoc X8 N5 g_a
  have K8 : Keep h0 h8 [a] := K5.wr W8 (Or.inl (List.mem_of_getElem? (i := 0) rfl))
  have z8 : n0 ≤ h8.size := Nat.le_trans z5 (Nat.le_of_eq W8.size.symm)
  have Fw8 := f7.same W8
  show Go p e below s _ _ _ T8 (mkF m 19 #[.val (.ref a), .val (.ref nm), .val (.ref sg), .val (.long q0), .second, .val (.long q1), .second, .val (.long q2), .second, .val (.long q3), .second, .val (.long q4), .second, .val (.long q5), .second, .val (.long q6), .second] [])
  refine Go.st (fun _ => XS.aloadN X8.here hx rfl (hb hby d7_19) rfl rfl) ?_
  show Go p e below s _ _ _ T8 (mkF m 20 #[.val (.ref a), .val (.ref nm), .val (.ref sg), .val (.long q0), .second, .val (.long q1), .second, .val (.long q2), .second, .val (.long q3), .second, .val (.long q4), .second, .val (.long q5), .second, .val (.long q6), .second] [(.ref a)])
  refine Go.st (fun _ => XS.lload X8.here hx rfl (hb hby d7_20) rfl) ?_
  show Go p e below s _ _ _ T8 (mkF m 22 #[.val (.ref a), .val (.ref nm), .val (.ref sg), .val (.long q0), .second, .val (.long q1), .second, .val (.long q2), .second, .val (.long q3), .second, .val (.long q4), .second, .val (.long q5), .second, .val (.long q6), .second] [(.long q1), (.ref a)])
  have f9 := (f6.wr W8)
  have f10 := (((F_versions_a.other W2 (Or.inr (slot_ne (Or.inr (hw _ (List.mem_of_getElem? (i := 54) rfl))) (Or.inr (hw _ (List.mem_of_getElem? (i := 48) rfl))) (by decide) (t := .long) (t' := (.object "java/lang/String")) (by decide) (by decide)))).other W5 (Or.inr (slot_ne (Or.inr (hw _ (List.mem_of_getElem? (i := 54) rfl))) (Or.inr (hw _ (List.mem_of_getElem? (i := 50) rfl))) (by decide) (t := .long) (t' := (.object "com/example/reapd/reapd/SweepStrategy")) (by decide) (by decide)))).other W8 (Or.inr (slot_ne (Or.inr (hw _ (List.mem_of_getElem? (i := 54) rfl))) (Or.inr (hw _ (List.mem_of_getElem? (i := 52) rfl))) (by decide) (t := .long) (t' := .long) (by decide) (by decide))))
  obtain ⟨T11, h11, X11, e11, W11, st11⟩ := putF X8 hx hZ hown (host := "") (Or.inl (hw _ (List.mem_of_getElem? (i := 53) rfl))) Via.refl e8 f10 f9 (Or.inr ⟨(hw _ (List.mem_of_getElem? (i := 54) rfl)), rfl, hnm⟩) (hw _ (List.mem_of_getElem? (i := 35) rfl)) (ty := .long) (by decide) rfl rfl (g := (mkF m 22 #[.val (.ref a), .val (.ref nm), .val (.ref sg), .val (.long q0), .second, .val (.long q1), .second, .val (.long q2), .second, .val (.long q3), .second, .val (.long q4), .second, .val (.long q5), .second, .val (.long q6), .second] [(.long q1), (.ref a)])) rfl rfl (hb hby d7_22)
  refine Go.st st11 ?_
  have N11 := Fr.snoc X11 N8 g_a
  have K11 : Keep h0 h11 [a] := K8.wr W11 (Or.inl (List.mem_of_getElem? (i := 0) rfl))
  have z11 : n0 ≤ h11.size := Nat.le_trans z8 (Nat.le_of_eq W11.size.symm)
  have Fw11 := f10.same W11
  show Go p e below s _ _ _ T11 (mkF m 25 #[.val (.ref a), .val (.ref nm), .val (.ref sg), .val (.long q0), .second, .val (.long q1), .second, .val (.long q2), .second, .val (.long q3), .second, .val (.long q4), .second, .val (.long q5), .second, .val (.long q6), .second] [])
  refine Go.st (fun _ => XS.aloadN X11.here hx rfl (hb hby d7_25) rfl rfl) ?_
  show Go p e below s _ _ _ T11 (mkF m 26 #[.val (.ref a), .val (.ref nm), .val (.ref sg), .val (.long q0), .second, .val (.long q1), .second, .val (.long q2), .second, .val (.long q3), .second, .val (.long q4), .second, .val (.long q5), .second, .val (.long q6), .second] [(.ref a)])
  refine Go.st (fun _ => XS.lload X11.here hx rfl (hb hby d7_26) rfl) ?_
  show Go p e below s _ _ _ T11 (mkF m 28 #[.val (.ref a), .val (.ref nm), .val (.ref sg), .val (.long q0), .second, .val (.long q1), .second, .val (.long q2), .second, .val (.long q3), .second, .val (.long q4), .second, .val (.long q5), .second, .val (.long q6), .second] [(.long q2), (.ref a)])
  have f12 := (f9.wr W11)
  have f13 := ((((F_tombstones_a.other W2 (Or.inr (slot_ne (Or.inr (hw _ (List.mem_of_getElem? (i := 56) rfl))) (Or.inr (hw _ (List.mem_of_getElem? (i := 48) rfl))) (by decide) (t := .long) (t' := (.object "java/lang/String")) (by decide) (by decide)))).other W5 (Or.inr (slot_ne (Or.inr (hw _ (List.mem_of_getElem? (i := 56) rfl))) (Or.inr (hw _ (List.mem_of_getElem? (i := 50) rfl))) (by decide) (t := .long) (t' := (.object "com/example/reapd/reapd/SweepStrategy")) (by decide) (by decide)))).other W8 (Or.inr (slot_ne (Or.inr (hw _ (List.mem_of_getElem? (i := 56) rfl))) (Or.inr (hw _ (List.mem_of_getElem? (i := 52) rfl))) (by decide) (t := .long) (t' := .long) (by decide) (by decide)))).other W11 (Or.inr (slot_ne (Or.inr (hw _ (List.mem_of_getElem? (i := 56) rfl))) (Or.inr (hw _ (List.mem_of_getElem? (i := 54) rfl))) (by decide) (t := .long) (t' := .long) (by decide) (by decide))))
  obtain ⟨T14, h14, X14, e14, W14, st14⟩ := putF X11 hx hZ hown (host := "") (Or.inl (hw _ (List.mem_of_getElem? (i := 55) rfl))) Via.refl e11 f13 f12 (Or.inr ⟨(hw _ (List.mem_of_getElem? (i := 56) rfl)), rfl, hnm⟩) (hw _ (List.mem_of_getElem? (i := 35) rfl)) (ty := .long) (by decide) rfl rfl (g := (mkF m 28 #[.val (.ref a), .val (.ref nm), .val (.ref sg), .val (.long q0), .second, .val (.long q1), .second, .val (.long q2), .second, .val (.long q3), .second, .val (.long q4), .second, .val (.long q5), .second, .val (.long q6), .second] [(.long q2), (.ref a)])) rfl rfl (hb hby d7_28)
  refine Go.st st14 ?_
  have N14 := Fr.snoc X14 N11 g_a
  have K14 : Keep h0 h14 [a] := K11.wr W14 (Or.inl (List.mem_of_getElem? (i := 0) rfl))
  have z14 : n0 ≤ h14.size := Nat.le_trans z11 (Nat.le_of_eq W14.size.symm)
  have Fw14 := f13.same W14
  show Go p e below s _ _ _ T14 (mkF m 31 #[.val (.ref a), .val (.ref nm), .val (.ref sg), .val (.long q0), .second, .val (.long q1), .second, .val (.long q2), .second, .val (.long q3), .second, .val (.long q4), .second, .val (.long q5), .second, .val (.long q6), .second] [])
  refine Go.st (fun _ => XS.aloadN X14.here hx rfl (hb hby d7_31) rfl rfl) ?_
  show Go p e below s _ _ _ T14 (mkF m 32 #[.val (.ref a), .val (.ref nm), .val (.ref sg), .val (.long q0), .second, .val (.long q1), .second, .val (.long q2), .second, .val (.long q3), .second, .val (.long q4), .second, .val (.long q5), .second, .val (.long q6), .second] [(.ref a)])
  refine Go.st (fun _ => XS.lload X14.here hx rfl (hb hby d7_32) rfl) ?_
  show Go p e below s _ _ _ T14 (mkF m 34 #[.val (.ref a), .val (.ref nm), .val (.ref sg), .val (.long q0), .second, .val (.long q1), .second, .val (.long q2), .second, .val (.long q3), .second, .val (.long q4), .second, .val (.long q5), .second, .val (.long q6), .second] [(.long q3), (.ref a)])
  have f15 := (f12.wr W14)
  have f16 := (((((F_sentinels_a.other W2 (Or.inr (slot_ne (Or.inr (hw _ (List.mem_of_getElem? (i := 58) rfl))) (Or.inr (hw _ (List.mem_of_getElem? (i := 48) rfl))) (by decide) (t := .long) (t' := (.object "java/lang/String")) (by decide) (by decide)))).other W5 (Or.inr (slot_ne (Or.inr (hw _ (List.mem_of_getElem? (i := 58) rfl))) (Or.inr (hw _ (List.mem_of_getElem? (i := 50) rfl))) (by decide) (t := .long) (t' := (.object "com/example/reapd/reapd/SweepStrategy")) (by decide) (by decide)))).other W8 (Or.inr (slot_ne (Or.inr (hw _ (List.mem_of_getElem? (i := 58) rfl))) (Or.inr (hw _ (List.mem_of_getElem? (i := 52) rfl))) (by decide) (t := .long) (t' := .long) (by decide) (by decide)))).other W11 (Or.inr (slot_ne (Or.inr (hw _ (List.mem_of_getElem? (i := 58) rfl))) (Or.inr (hw _ (List.mem_of_getElem? (i := 54) rfl))) (by decide) (t := .long) (t' := .long) (by decide) (by decide)))).other W14 (Or.inr (slot_ne (Or.inr (hw _ (List.mem_of_getElem? (i := 58) rfl))) (Or.inr (hw _ (List.mem_of_getElem? (i := 56) rfl))) (by decide) (t := .long) (t' := .long) (by decide) (by decide))))
  obtain ⟨T17, h17, X17, e17, W17, st17⟩ := putF X14 hx hZ hown (host := "") (Or.inl (hw _ (List.mem_of_getElem? (i := 57) rfl))) Via.refl e14 f16 f15 (Or.inr ⟨(hw _ (List.mem_of_getElem? (i := 58) rfl)), rfl, hnm⟩) (hw _ (List.mem_of_getElem? (i := 35) rfl)) (ty := .long) (by decide) rfl rfl (g := (mkF m 34 #[.val (.ref a), .val (.ref nm), .val (.ref sg), .val (.long q0), .second, .val (.long q1), .second, .val (.long q2), .second, .val (.long q3), .second, .val (.long q4), .second, .val (.long q5), .second, .val (.long q6), .second] [(.long q3), (.ref a)])) rfl rfl (hb hby d7_34)
  refine Go.st st17 ?_
  have N17 := Fr.snoc X17 N14 g_a
  have K17 : Keep h0 h17 [a] := K14.wr W17 (Or.inl (List.mem_of_getElem? (i := 0) rfl))
  have z17 : n0 ≤ h17.size := Nat.le_trans z14 (Nat.le_of_eq W17.size.symm)
  have Fw17 := f16.same W17
  show Go p e below s _ _ _ T17 (mkF m 37 #[.val (.ref a), .val (.ref nm), .val (.ref sg), .val (.long q0), .second, .val (.long q1), .second, .val (.long q2), .second, .val (.long q3), .second, .val (.long q4), .second, .val (.long q5), .second, .val (.long q6), .second] [])
  refine Go.st (fun _ => XS.aloadN X17.here hx rfl (hb hby d7_37) rfl rfl) ?_
  show Go p e below s _ _ _ T17 (mkF m 38 #[.val (.ref a), .val (.ref nm), .val (.ref sg), .val (.long q0), .second, .val (.long q1), .second, .val (.long q2), .second, .val (.long q3), .second, .val (.long q4), .second, .val (.long q5), .second, .val (.long q6), .second] [(.ref a)])
  refine Go.st (fun _ => XS.lload X17.here hx rfl (hb hby d7_38) rfl) ?_
  show Go p e below s _ _ _ T17 (mkF m 40 #[.val (.ref a), .val (.ref nm), .val (.ref sg), .val (.long q0), .second, .val (.long q1), .second, .val (.long q2), .second, .val (.long q3), .second, .val (.long q4), .second, .val (.long q5), .second, .val (.long q6), .second] [(.long q4), (.ref a)])
  have f18 := (f15.wr W17)
  have f19 := ((((((F_expirySeconds_a.other W2 (Or.inr (slot_ne (Or.inr (hw _ (List.mem_of_getElem? (i := 60) rfl))) (Or.inr (hw _ (List.mem_of_getElem? (i := 48) rfl))) (by decide) (t := .long) (t' := (.object "java/lang/String")) (by decide) (by decide)))).other W5 (Or.inr (slot_ne (Or.inr (hw _ (List.mem_of_getElem? (i := 60) rfl))) (Or.inr (hw _ (List.mem_of_getElem? (i := 50) rfl))) (by decide) (t := .long) (t' := (.object "com/example/reapd/reapd/SweepStrategy")) (by decide) (by decide)))).other W8 (Or.inr (slot_ne (Or.inr (hw _ (List.mem_of_getElem? (i := 60) rfl))) (Or.inr (hw _ (List.mem_of_getElem? (i := 52) rfl))) (by decide) (t := .long) (t' := .long) (by decide) (by decide)))).other W11 (Or.inr (slot_ne (Or.inr (hw _ (List.mem_of_getElem? (i := 60) rfl))) (Or.inr (hw _ (List.mem_of_getElem? (i := 54) rfl))) (by decide) (t := .long) (t' := .long) (by decide) (by decide)))).other W14 (Or.inr (slot_ne (Or.inr (hw _ (List.mem_of_getElem? (i := 60) rfl))) (Or.inr (hw _ (List.mem_of_getElem? (i := 56) rfl))) (by decide) (t := .long) (t' := .long) (by decide) (by decide)))).other W17 (Or.inr (slot_ne (Or.inr (hw _ (List.mem_of_getElem? (i := 60) rfl))) (Or.inr (hw _ (List.mem_of_getElem? (i := 58) rfl))) (by decide) (t := .long) (t' := .long) (by decide) (by decide))))
  obtain ⟨T20, h20, X20, e20, W20, st20⟩ := putF X17 hx hZ hown (host := "") (Or.inl (hw _ (List.mem_of_getElem? (i := 59) rfl))) Via.refl e17 f19 f18 (Or.inr ⟨(hw _ (List.mem_of_getElem? (i := 60) rfl)), rfl, hnm⟩) (hw _ (List.mem_of_getElem? (i := 35) rfl)) (ty := .long) (by decide) rfl rfl (g := (mkF m 40 #[.val (.ref a), .val (.ref nm), .val (.ref sg), .val (.long q0), .second, .val (.long q1), .second, .val (.long q2), .second, .val (.long q3), .second, .val (.long q4), .second, .val (.long q5), .second, .val (.long q6), .second] [(.long q4), (.ref a)])) rfl rfl (hb hby d7_40)
  refine Go.st st20 ?_
  have N20 := Fr.snoc X20 N17 g_a
  have K20 : Keep h0 h20 [a] := K17.wr W20 (Or.inl (List.mem_of_getElem? (i := 0) rfl))
  have z20 : n0 ≤ h20.size := Nat.le_trans z17 (Nat.le_of_eq W20.size.symm)
  have Fw20 := f19.same W20
  show Go p e below s _ _ _ T20 (mkF m 43 #[.val (.ref a), .val (.ref nm), .val (.ref sg), .val (.long q0), .second, .val (.long q1), .second, .val (.long q2), .second, .val (.long q3), .second, .val (.long q4), .second, .val (.long q5), .second, .val (.long q6), .second] [])
  refine Go.st (fun _ => XS.aloadN X20.here hx rfl (hb hby d7_43) rfl rfl) ?_
  show Go p e below s _ _ _ T20 (mkF m 44 #[.val (.ref a), .val (.ref nm), .val (.ref sg), .val (.long q0), .second, .val (.long q1), .second, .val (.long q2), .second, .val (.long q3), .second, .val (.long q4), .second, .val (.long q5), .second, .val (.long q6), .second] [(.ref a)])
  refine Go.st (fun _ => XS.lload X20.here hx rfl (hb hby d7_44) rfl) ?_
  show Go p e below s _ _ _ T20 (mkF m 46 #[.val (.ref a), .val (.ref nm), .val (.ref sg), .val (.long q0), .second, .val (.long q1), .second, .val (.long q2), .second, .val (.long q3), .second, .val (.long q4), .second, .val (.long q5), .second, .val (.long q6), .second] [(.long q5), (.ref a)])
  have f21 := (f18.wr W20)
  have f22 := (((((((F_expiring_a.other W2 (Or.inr (slot_ne (Or.inr (hw _ (List.mem_of_getElem? (i := 62) rfl))) (Or.inr (hw _ (List.mem_of_getElem? (i := 48) rfl))) (by decide) (t := .long) (t' := (.object "java/lang/String")) (by decide) (by decide)))).other W5 (Or.inr (slot_ne (Or.inr (hw _ (List.mem_of_getElem? (i := 62) rfl))) (Or.inr (hw _ (List.mem_of_getElem? (i := 50) rfl))) (by decide) (t := .long) (t' := (.object "com/example/reapd/reapd/SweepStrategy")) (by decide) (by decide)))).other W8 (Or.inr (slot_ne (Or.inr (hw _ (List.mem_of_getElem? (i := 62) rfl))) (Or.inr (hw _ (List.mem_of_getElem? (i := 52) rfl))) (by decide) (t := .long) (t' := .long) (by decide) (by decide)))).other W11 (Or.inr (slot_ne (Or.inr (hw _ (List.mem_of_getElem? (i := 62) rfl))) (Or.inr (hw _ (List.mem_of_getElem? (i := 54) rfl))) (by decide) (t := .long) (t' := .long) (by decide) (by decide)))).other W14 (Or.inr (slot_ne (Or.inr (hw _ (List.mem_of_getElem? (i := 62) rfl))) (Or.inr (hw _ (List.mem_of_getElem? (i := 56) rfl))) (by decide) (t := .long) (t' := .long) (by decide) (by decide)))).other W17 (Or.inr (slot_ne (Or.inr (hw _ (List.mem_of_getElem? (i := 62) rfl))) (Or.inr (hw _ (List.mem_of_getElem? (i := 58) rfl))) (by decide) (t := .long) (t' := .long) (by decide) (by decide)))).other W20 (Or.inr (slot_ne (Or.inr (hw _ (List.mem_of_getElem? (i := 62) rfl))) (Or.inr (hw _ (List.mem_of_getElem? (i := 60) rfl))) (by decide) (t := .long) (t' := .long) (by decide) (by decide))))
  obtain ⟨T23, h23, X23, e23, W23, st23⟩ := putF X20 hx hZ hown (host := "") (Or.inl (hw _ (List.mem_of_getElem? (i := 61) rfl))) Via.refl e20 f22 f21 (Or.inr ⟨(hw _ (List.mem_of_getElem? (i := 62) rfl)), rfl, hnm⟩) (hw _ (List.mem_of_getElem? (i := 35) rfl)) (ty := .long) (by decide) rfl rfl (g := (mkF m 46 #[.val (.ref a), .val (.ref nm), .val (.ref sg), .val (.long q0), .second, .val (.long q1), .second, .val (.long q2), .second, .val (.long q3), .second, .val (.long q4), .second, .val (.long q5), .second, .val (.long q6), .second] [(.long q5), (.ref a)])) rfl rfl (hb hby d7_46)
  refine Go.st st23 ?_
  have N23 := Fr.snoc X23 N20 g_a
  have K23 : Keep h0 h23 [a] := K20.wr W23 (Or.inl (List.mem_of_getElem? (i := 0) rfl))
  have z23 : n0 ≤ h23.size := Nat.le_trans z20 (Nat.le_of_eq W23.size.symm)
  have Fw23 := f22.same W23
  show Go p e below s _ _ _ T23 (mkF m 49 #[.val (.ref a), .val (.ref nm), .val (.ref sg), .val (.long q0), .second, .val (.long q1), .second, .val (.long q2), .second, .val (.long q3), .second, .val (.long q4), .second, .val (.long q5), .second, .val (.long q6), .second] [])
  refine Go.st (fun _ => XS.aloadN X23.here hx rfl (hb hby d7_49) rfl rfl) ?_
  show Go p e below s _ _ _ T23 (mkF m 50 #[.val (.ref a), .val (.ref nm), .val (.ref sg), .val (.long q0), .second, .val (.long q1), .second, .val (.long q2), .second, .val (.long q3), .second, .val (.long q4), .second, .val (.long q5), .second, .val (.long q6), .second] [(.ref a)])
  refine Go.st (fun _ => XS.lload X23.here hx rfl (hb hby d7_50) rfl) ?_
  show Go p e below s _ _ _ T23 (mkF m 52 #[.val (.ref a), .val (.ref nm), .val (.ref sg), .val (.long q0), .second, .val (.long q1), .second, .val (.long q2), .second, .val (.long q3), .second, .val (.long q4), .second, .val (.long q5), .second, .val (.long q6), .second] [(.long q6), (.ref a)])
  have f24 := (f21.wr W23)
  have f25 := ((((((((F_expired_a.other W2 (Or.inr (slot_ne (Or.inr (hw _ (List.mem_of_getElem? (i := 64) rfl))) (Or.inr (hw _ (List.mem_of_getElem? (i := 48) rfl))) (by decide) (t := .long) (t' := (.object "java/lang/String")) (by decide) (by decide)))).other W5 (Or.inr (slot_ne (Or.inr (hw _ (List.mem_of_getElem? (i := 64) rfl))) (Or.inr (hw _ (List.mem_of_getElem? (i := 50) rfl))) (by decide) (t := .long) (t' := (.object "com/example/reapd/reapd/SweepStrategy")) (by decide) (by decide)))).other W8 (Or.inr (slot_ne (Or.inr (hw _ (List.mem_of_getElem? (i := 64) rfl))) (Or.inr (hw _ (List.mem_of_getElem? (i := 52) rfl))) (by decide) (t := .long) (t' := .long) (by decide) (by decide)))).other W11 (Or.inr (slot_ne (Or.inr (hw _ (List.mem_of_getElem? (i := 64) rfl))) (Or.inr (hw _ (List.mem_of_getElem? (i := 54) rfl))) (by decide) (t := .long) (t' := .long) (by decide) (by decide)))).other W14 (Or.inr (slot_ne (Or.inr (hw _ (List.mem_of_getElem? (i := 64) rfl))) (Or.inr (hw _ (List.mem_of_getElem? (i := 56) rfl))) (by decide) (t := .long) (t' := .long) (by decide) (by decide)))).other W17 (Or.inr (slot_ne (Or.inr (hw _ (List.mem_of_getElem? (i := 64) rfl))) (Or.inr (hw _ (List.mem_of_getElem? (i := 58) rfl))) (by decide) (t := .long) (t' := .long) (by decide) (by decide)))).other W20 (Or.inr (slot_ne (Or.inr (hw _ (List.mem_of_getElem? (i := 64) rfl))) (Or.inr (hw _ (List.mem_of_getElem? (i := 60) rfl))) (by decide) (t := .long) (t' := .long) (by decide) (by decide)))).other W23 (Or.inr (slot_ne (Or.inr (hw _ (List.mem_of_getElem? (i := 64) rfl))) (Or.inr (hw _ (List.mem_of_getElem? (i := 62) rfl))) (by decide) (t := .long) (t' := .long) (by decide) (by decide))))
  obtain ⟨T26, h26, X26, e26, W26, st26⟩ := putF X23 hx hZ hown (host := "") (Or.inl (hw _ (List.mem_of_getElem? (i := 63) rfl))) Via.refl e23 f25 f24 (Or.inr ⟨(hw _ (List.mem_of_getElem? (i := 64) rfl)), rfl, hnm⟩) (hw _ (List.mem_of_getElem? (i := 35) rfl)) (ty := .long) (by decide) rfl rfl (g := (mkF m 52 #[.val (.ref a), .val (.ref nm), .val (.ref sg), .val (.long q0), .second, .val (.long q1), .second, .val (.long q2), .second, .val (.long q3), .second, .val (.long q4), .second, .val (.long q5), .second, .val (.long q6), .second] [(.long q6), (.ref a)])) rfl rfl (hb hby d7_52)
  refine Go.st st26 ?_
  have N26 := Fr.snoc X26 N23 g_a
  have K26 : Keep h0 h26 [a] := K23.wr W26 (Or.inl (List.mem_of_getElem? (i := 0) rfl))
  have z26 : n0 ≤ h26.size := Nat.le_trans z23 (Nat.le_of_eq W26.size.symm)
  have Fw26 := f25.same W26
  show Go p e below s _ _ _ T26 (mkF m 55 #[.val (.ref a), .val (.ref nm), .val (.ref sg), .val (.long q0), .second, .val (.long q1), .second, .val (.long q2), .second, .val (.long q3), .second, .val (.long q4), .second, .val (.long q5), .second, .val (.long q6), .second] [])
  have f27 := (f24.wr W26)
  have f28 := ((Fw20.other W23 (Or.inr (slot_ne (Or.inr (hw _ (List.mem_of_getElem? (i := 60) rfl))) (Or.inr (hw _ (List.mem_of_getElem? (i := 62) rfl))) (by decide) (t := .long) (t' := .long) (by decide) (by decide)))).other W26 (Or.inr (slot_ne (Or.inr (hw _ (List.mem_of_getElem? (i := 60) rfl))) (Or.inr (hw _ (List.mem_of_getElem? (i := 64) rfl))) (by decide) (t := .long) (t' := .long) (by decide) (by decide))))
  have f29 := (Fw23.other W26 (Or.inr (slot_ne (Or.inr (hw _ (List.mem_of_getElem? (i := 62) rfl))) (Or.inr (hw _ (List.mem_of_getElem? (i := 64) rfl))) (by decide) (t := .long) (t' := .long) (by decide) (by decide))))
  exact Go.ret0 X26 hx hlk Bd.returns (hb hby d7_55) (by rw [e26]; exact ⟨rfl, N26, K26, f27, f28, f29⟩) (by decide) (by decide)
theorem d9_0 : decode prog_22_method_2_code 0 = .ok (.aload_n 0, 1) := by decide +kernel
theorem d9_1 : decode prog_22_method_2_code 1 = .ok (.getfield 30, 3) := by decide +kernel
theorem d9_4 : decode prog_22_method_2_code 4 = .ok (.lconst 0, 1) := by decide +kernel
theorem d9_5 : decode prog_22_method_2_code 5 = .ok (.lcmp, 1) := by decide +kernel
theorem d9_6 : decode prog_22_method_2_code 6 = .ok (.ifCond .gt 12, 3) := by decide +kernel
theorem d9_18 : decode prog_22_method_2_code 18 = .ok (.iconst 1, 1) := by decide +kernel
theorem d9_19 : decode prog_22_method_2_code 19 = .ok (.goto 4, 3) := by decide +kernel
theorem d9_23 : decode prog_22_method_2_code 23 = .ok (.ireturn, 1) := by decide +kernel
theorem d9_9 : decode prog_22_method_2_code 9 = .ok (.aload_n 0, 1) := by decide +kernel
theorem d9_10 : decode prog_22_method_2_code 10 = .ok (.getfield 33, 3) := by decide +kernel
theorem d9_13 : decode prog_22_method_2_code 13 = .ok (.lconst 0, 1) := by decide +kernel
theorem d9_14 : decode prog_22_method_2_code 14 = .ok (.lcmp, 1) := by decide +kernel
theorem d9_15 : decode prog_22_method_2_code 15 = .ok (.ifCond .le 7, 3) := by decide +kernel
theorem d9_22 : decode prog_22_method_2_code 22 = .ok (.iconst 0, 1) := by decide +kernel
theorem ef_rmEp (m : MethodId) (a : Addr) : entryFrame m #[(.ref a)] 1 = mkF m 0 #[.val (.ref a)] [] := by first | (simp [entryFrame, mkF, argsToLocals, Value.category]; done) | rfl
def QrmEp (Z : State) (a : Addr) (y1 : Int64) (y2 : Int64) (h0 : Heap) (n0 : Nat) (rV : Option Value) (hE : Heap) (LE : List Loc) : Prop := rV = some (.int (b2i ((0 : Int64) < y1 ∨ (0 : Int64) < y2))) ∧ Fr n0 LE ∧ hE = h0
set_option maxRecDepth 65536 in
set_option maxHeartbeats 40000000 in
theorem rmEp (l : Launch) (Z : State) (a0 : Array Value) (hw : ∀ d ∈ tables_1, d.before a0 Z = true) (ws : List Jvm.Cond) (a : Addr) (y1 : Int64) (y2 : Int64) (h0 : Heap) (n0 : Nat) (Z0 : n0 ≤ h0.size) (F_expirySeconds_a : Fld Z h0 a "com/example/reapd/reapd/TableStats" "expirySeconds" "J" (.long y1)) (F_expiring_a : Fld Z h0 a "com/example/reapd/reapd/TableStats" "expiring" "J" (.long y2)) :
    MetFree l (⟨"com/example/reapd/reapd/TableStats", "expires", "()Z"⟩ : MethodName) (head1 (Jvm.Cond.code (⟨"com/example/reapd/reapd/TableStats", "expires", "()Z"⟩ : MethodName) prog_22_method_2_code 1 (some .boolean) :: ws) ({ frames := 0, cells := 0, slots := 0, locals := 0 } : Room)) (fun aA UA => aA = #[(.ref a)] ∧ Z.Warmed39 UA.vm ∧ UA.heap = h0) (fun _ _ _ _ _ => True) (fun _ UA oA UB => ∃ rV LE, oA = .returned rV ∧ QrmEp Z a y1 y2 h0 n0 rV UB.heap LE ∧ FrameEnd UA oA UB LE ({ frames := 0, cells := 0, slots := 0, locals := 0 } : Room).cells ({ frames := 0, cells := 0, slots := 0, locals := 0 } : Room).slots) := by
  refine MetFree.of_bodySF (plainFor_of_name pn_3) hisR ?_
  intro p e s m args below meth c s₁ Bd hml0 hP hK
  obtain ⟨rfl, hZ, hh⟩ := hP
  have hx := Bd.exec
  have hby := Bd.bytes
  have hml : c.maxLocals = 1 := hml0
  have hown : s.vm.findClass "com/example/reapd/reapd/TableStats" = some m.cls := findClass_of_methodNamed Bd.named
  have hnm := (name_of_methodNamed Bd.named Bd.method).1
  have hlk := Bd.notSynchronized
  have X0 : Stand p l e ({ frames := 0, cells := 0, slots := 0, locals := 0 } : Room) s m #[(.ref a)] below meth c s₁ [] 0 0 := Stand.of_body Bd
  have e0 : s₁.heap = h0 := by rw [← hh, Bd.state]; rfl
  have N0 := Fr.nil n0
  show Go p e below s (QrmEp Z a y1 y2 h0 n0) ({ frames := 0, cells := 0, slots := 0, locals := 0 } : Room).cells ({ frames := 0, cells := 0, slots := 0, locals := 0 } : Room).slots s₁ (entryFrame m #[(.ref a)] 1)
  refine Go.eq (ef_rmEp m a) ?_
  show Go p e below s _ _ _ s₁ (mkF m 0 #[.val (.ref a)] [])
  refine Go.st (fun _ => XS.aloadN X0.here hx rfl (hb hby d9_0) rfl rfl) ?_
  show Go p e below s _ _ _ s₁ (mkF m 1 #[.val (.ref a)] [(.ref a)])
  obtain ⟨T1, X1, e1, st1⟩ := getF X0 hx hZ hown (host := "") (Or.inl (hw _ (List.mem_of_getElem? (i := 59) rfl))) Via.refl e0 F_expirySeconds_a (g := (mkF m 1 #[.val (.ref a)] [(.ref a)])) rfl rfl (hb hby d9_1)
  refine Go.st st1 ?_
  show Go p e below s _ _ _ T1 (mkF m 4 #[.val (.ref a)] [(.long y1)])
  refine Go.st (fun _ => XS.lconst X1.here hx rfl (hb hby d9_4)) ?_
  show Go p e below s _ _ _ T1 (mkF m 5 #[.val (.ref a)] [(.long (0 : Int64)), (.long y1)])
  refine Go.st (fun _ => XS.lcmp X1.here hx rfl (hb hby d9_5) rfl) ?_
  show Go p e below s _ _ _ T1 (mkF m 6 #[.val (.ref a)] [(.int (lcmpW y1 (0 : Int64)))])
  by_cases hc2 : (0 : Int64) < y1
  · refine Go.st (fun _ => XS.ifYes X1.here hx rfl (pc0 := 6) (pc' := 18) rfl (hb hby d9_6) rfl ((if0 _ _).trans (tlt ((lw_gt y1 (0 : Int64)).mpr hc2)).2.2.1) (by decide) (by decide)) ?_
    show Go p e below s _ _ _ T1 (mkF m 18 #[.val (.ref a)] [])
    refine Go.st (fun _ => XS.iconst X1.here hx rfl (hb hby d9_18)) ?_
    show Go p e below s _ _ _ T1 (mkF m 19 #[.val (.ref a)] [(.int (1 : Int32))])
    refine Go.st (fun _ => XS.goto X1.here hx rfl (pc0 := 19) (pc' := 23) rfl (hb hby d9_19) (by decide) (by decide)) ?_
    show Go p e below s _ _ _ T1 (mkF m 23 #[.val (.ref a)] [(.int (1 : Int32))])
    exact Go.retZ X1 hx hlk Bd.returns (hb hby d9_23) rfl (by rw [e1]; exact ⟨(own_b2i_t (by first | exact Or.inl (by assumption) | exact Or.inr (by assumption) | exact (fun q => q.elim (by assumption) (by assumption)) : (0 : Int64) < y1 ∨ (0 : Int64) < y2)), N0, rfl⟩) (by decide) (by decide)
  · refine Go.st (fun _ => XS.ifNo X1.here hx rfl (hb hby d9_6) rfl ((if0 _ _).trans (flt (fun qq => hc2 ((lw_gt y1 (0 : Int64)).mp qq))).2.2.1)) ?_
    show Go p e below s _ _ _ T1 (mkF m 9 #[.val (.ref a)] [])
    refine Go.st (fun _ => XS.aloadN X1.here hx rfl (hb hby d9_9) rfl rfl) ?_
    show Go p e below s _ _ _ T1 (mkF m 10 #[.val (.ref a)] [(.ref a)])
    obtain ⟨T3, X3, e3, st3⟩ := getF X1 hx hZ hown (host := "") (Or.inl (hw _ (List.mem_of_getElem? (i := 61) rfl))) Via.refl e1 F_expiring_a (g := (mkF m 10 #[.val (.ref a)] [(.ref a)])) rfl rfl (hb hby d9_10)
    refine Go.st st3 ?_
    show Go p e below s _ _ _ T3 (mkF m 13 #[.val (.ref a)] [(.long y2)])
    refine Go.st (fun _ => XS.lconst X3.here hx rfl (hb hby d9_13)) ?_
    show Go p e below s _ _ _ T3 (mkF m 14 #[.val (.ref a)] [(.long (0 : Int64)), (.long y2)])
    refine Go.st (fun _ => XS.lcmp X3.here hx rfl (hb hby d9_14) rfl) ?_
    show Go p e below s _ _ _ T3 (mkF m 15 #[.val (.ref a)] [(.int (lcmpW y2 (0 : Int64)))])
    by_cases hc4 : (0 : Int64) < y2
    · refine Go.st (fun _ => XS.ifNo X3.here hx rfl (hb hby d9_15) rfl ((if0 _ _).trans (tlt ((lw_gt y2 (0 : Int64)).mpr hc4)).2.2.2)) ?_
      show Go p e below s _ _ _ T3 (mkF m 18 #[.val (.ref a)] [])
      refine Go.st (fun _ => XS.iconst X3.here hx rfl (hb hby d9_18)) ?_
      show Go p e below s _ _ _ T3 (mkF m 19 #[.val (.ref a)] [(.int (1 : Int32))])
      refine Go.st (fun _ => XS.goto X3.here hx rfl (pc0 := 19) (pc' := 23) rfl (hb hby d9_19) (by decide) (by decide)) ?_
      show Go p e below s _ _ _ T3 (mkF m 23 #[.val (.ref a)] [(.int (1 : Int32))])
      exact Go.retZ X3 hx hlk Bd.returns (hb hby d9_23) rfl (by rw [e3]; exact ⟨(own_b2i_t (by first | exact Or.inl (by assumption) | exact Or.inr (by assumption) | exact (fun q => q.elim (by assumption) (by assumption)) : (0 : Int64) < y1 ∨ (0 : Int64) < y2)), N0, rfl⟩) (by decide) (by decide)
    · refine Go.st (fun _ => XS.ifYes X3.here hx rfl (pc0 := 15) (pc' := 22) rfl (hb hby d9_15) rfl ((if0 _ _).trans (flt (fun qq => hc4 ((lw_gt y2 (0 : Int64)).mp qq))).2.2.2) (by decide) (by decide)) ?_
      show Go p e below s _ _ _ T3 (mkF m 22 #[.val (.ref a)] [])
      refine Go.st (fun _ => XS.iconst X3.here hx rfl (hb hby d9_22)) ?_
      show Go p e below s _ _ _ T3 (mkF m 23 #[.val (.ref a)] [(.int (0 : Int32))])
      exact Go.retZ X3 hx hlk Bd.returns (hb hby d9_23) rfl (by rw [e3]; exact ⟨(own_b2i_f (by first | exact Or.inl (by assumption) | exact Or.inr (by assumption) | exact (fun q => q.elim (by assumption) (by assumption)) : ¬ ((0 : Int64) < y1 ∨ (0 : Int64) < y2))), N0, rfl⟩) (by decide) (by decide)
theorem pd_5 : parseMethodDescriptor "([C)V" = some ⟨[(.array .char)], none⟩ := by decide +kernel
theorem pd_6 : parseMethodDescriptor "(Ljava/lang/String;Lcom/example/reapd/reapd/SweepStrategy;JJJJJJJ)V" = some ⟨[(.object "java/lang/String"), (.object "com/example/reapd/reapd/SweepStrategy"), .long, .long, .long, .long, .long, .long, .long], none⟩ := by decide +kernel
theorem pd_7 : parseMethodDescriptor "()Z" = some ⟨[], some .boolean⟩ := by decide +kernel
theorem pn_4 : plainName "com/example/reapd/reapd/TableStatsExpiresPinLaw" = true := by first | (simp [plainName, overriddenIn]; done) | decide +kernel
theorem ef_rm0 (m : MethodId) (y1 : Int64) (y2 : Int64) (qo : Int64) (qe : Int64) (pk : Int32) : entryFrame m #[(.long y1), (.long y2), (.long qo), (.long qe), (.int pk)] maxLocals = mkF m 0 #[.val (.long y1), .second, .val (.long y2), .second, .val (.long qo), .second, .val (.long qe), .second, .val (.int pk), .unset, .unset, .unset, .unset, .unset, .unset] [] := by first | (simp [entryFrame, mkF, argsToLocals, Value.category, maxLocals]; done) | rfl
def Qrm0 (Z : State) (y1 : Int64) (y2 : Int64) (qo : Int64) (qe : Int64) (pk : Int32) (u_CONSERVATIVE : Addr) (u_THOROUGH : Addr) (u_NONE : Addr) (cs : Int32) (h0 : Heap) (n0 : Nat) (rV : Option Value) (hE : Heap) (LE : List Loc) : Prop := rV = some (.int (1 : Int32)) ∧ Fr n0 LE
set_option maxRecDepth 65536 in
set_option maxHeartbeats 40000000 in
theorem rm0 (l : Launch) (Z : State) (a0 : Array Value) (hw : ∀ d ∈ tables_1, d.before a0 Z = true) (ws : List Jvm.Cond) (y1 : Int64) (y2 : Int64) (qo : Int64) (qe : Int64) (pk : Int32) (u_CONSERVATIVE : Addr) (u_THOROUGH : Addr) (u_NONE : Addr) (cs : Int32) (h0 : Heap) (n0 : Nat) (Z0 : n0 ≤ h0.size) (S_CONSERVATIVE : Sta Z h0 "com/example/reapd/reapd/SweepStrategy" "CONSERVATIVE" "Lcom/example/reapd/reapd/SweepStrategy;" (.ref u_CONSERVATIVE)) (S_THOROUGH : Sta Z h0 "com/example/reapd/reapd/SweepStrategy" "THOROUGH" "Lcom/example/reapd/reapd/SweepStrategy;" (.ref u_THOROUGH)) (S_NONE : Sta Z h0 "com/example/reapd/reapd/SweepStrategy" "NONE" "Lcom/example/reapd/reapd/SweepStrategy;" (.ref u_NONE)) (S_COMPACT_STRINGS : Sta Z h0 "java/lang/String" "COMPACT_STRINGS" "Z" (.int cs)) (hcs : ¬ (cs = (0 : Int32))) :
    MetFree l x (head1 (Jvm.Cond.code x code maxLocals ret :: ws) room_1) (fun aA UA => aA = #[(.long y1), (.long y2), (.long qo), (.long qe), (.int pk)] ∧ Z.Warmed39 UA.vm ∧ UA.heap = h0) (fun _ _ _ _ _ => True) (fun _ UA oA UB => ∃ rV LE, oA = .returned rV ∧ Qrm0 Z y1 y2 qo qe pk u_CONSERVATIVE u_THOROUGH u_NONE cs h0 n0 rV UB.heap LE ∧ FrameEnd UA oA UB LE room_1.cells room_1.slots) := by
  refine MetFree.of_bodySF (plainFor_of_name pn_4) hisR ?_
  intro p e s m args below meth c s₁ Bd hml0 hP hK
  obtain ⟨rfl, hZ, hh⟩ := hP
  have hx := Bd.exec
  have hby := Bd.bytes
  have hml : c.maxLocals = 15 := hml0
  have hown : s.vm.findClass "com/example/reapd/reapd/TableStatsExpiresPinLaw" = some m.cls := findClass_of_methodNamed Bd.named
  have hnm := (name_of_methodNamed Bd.named Bd.method).1
  have hlk := Bd.notSynchronized
  have X0 : Stand p l e room_1 s m #[(.long y1), (.long y2), (.long qo), (.long qe), (.int pk)] below meth c s₁ [] 0 0 := Stand.of_body Bd
  have e0 : s₁.heap = h0 := by rw [← hh, Bd.state]; rfl
  have N0 := Fr.nil n0
  show Go p e below s (Qrm0 Z y1 y2 qo qe pk u_CONSERVATIVE u_THOROUGH u_NONE cs h0 n0) room_1.cells room_1.slots s₁ (entryFrame m #[(.long y1), (.long y2), (.long qo), (.long qe), (.int pk)] maxLocals)
  refine Go.eq (ef_rm0 m y1 y2 qo qe pk) ?_
  show Go p e below s _ _ _ s₁ (mkF m 0 #[.val (.long y1), .second, .val (.long y2), .second, .val (.long qo), .second, .val (.long qe), .second, .val (.int pk), .unset, .unset, .unset, .unset, .unset, .unset] [])
  refine Go.st (fun _ => XS.iload X0.here hx rfl (hb hby at_0) rfl) ?_
  show Go p e below s _ _ _ s₁ (mkF m 2 #[.val (.long y1), .second, .val (.long y2), .second, .val (.long qo), .second, .val (.long qe), .second, .val (.int pk), .unset, .unset, .unset, .unset, .unset, .unset] [(.int pk)])
  refine Go.st (fun tG => X0.ldcInt hx hown (mvT hZ (hw _ (List.mem_of_getElem? (i := 0) rfl))) (g := (mkF m 2 #[.val (.long y1), .second, .val (.long y2), .second, .val (.long qo), .second, .val (.long qe), .second, .val (.int pk), .unset, .unset, .unset, .unset, .unset, .unset] [(.int pk)])) rfl (hb hby at_2) tG) ?_
  show Go p e below s _ _ _ s₁ (mkF m 4 #[.val (.long y1), .second, .val (.long y2), .second, .val (.long qo), .second, .val (.long qe), .second, .val (.int pk), .unset, .unset, .unset, .unset, .unset, .unset] [(.int (2147483647 : Int32)), (.int pk)])
  refine Go.st (fun _ => XS.iand X0.here hx rfl (hb hby at_4) rfl) ?_
  show Go p e below s _ _ _ s₁ (mkF m 5 #[.val (.long y1), .second, .val (.long y2), .second, .val (.long qo), .second, .val (.long qe), .second, .val (.int pk), .unset, .unset, .unset, .unset, .unset, .unset] [(.int (pk &&& (2147483647 : Int32)))])
  refine Go.st (fun _ => XS.iconst X0.here hx rfl (hb hby at_5)) ?_
  show Go p e below s _ _ _ s₁ (mkF m 6 #[.val (.long y1), .second, .val (.long y2), .second, .val (.long qo), .second, .val (.long qe), .second, .val (.int pk), .unset, .unset, .unset, .unset, .unset, .unset] [(.int (3 : Int32)), (.int (pk &&& (2147483647 : Int32)))])
  refine Go.st (fun _ => iremM X0 hx rfl (hb hby at_6) rfl (by decide)) ?_
  show Go p e below s _ _ _ s₁ (mkF m 7 #[.val (.long y1), .second, .val (.long y2), .second, .val (.long qo), .second, .val (.long qe), .second, .val (.int pk), .unset, .unset, .unset, .unset, .unset, .unset] [(.int ((pk &&& (2147483647 : Int32)) % (3 : Int32)))])
  refine Go.st (fun _ => XS.istore X0.here hx rfl (hb hby at_7) rfl (l' := #[.val (.long y1), .second, .val (.long y2), .second, .val (.long qo), .second, .val (.long qe), .second, .val (.int pk), .val (.int ((pk &&& (2147483647 : Int32)) % (3 : Int32))), .unset, .unset, .unset, .unset, .unset]) rfl) ?_
  show Go p e below s _ _ _ s₁ (mkF m 9 #[.val (.long y1), .second, .val (.long y2), .second, .val (.long qo), .second, .val (.long qe), .second, .val (.int pk), .val (.int ((pk &&& (2147483647 : Int32)) % (3 : Int32))), .unset, .unset, .unset, .unset, .unset] [])
  refine Go.st (fun _ => XS.iload X0.here hx rfl (hb hby at_9) rfl) ?_
  show Go p e below s _ _ _ s₁ (mkF m 11 #[.val (.long y1), .second, .val (.long y2), .second, .val (.long qo), .second, .val (.long qe), .second, .val (.int pk), .val (.int ((pk &&& (2147483647 : Int32)) % (3 : Int32))), .unset, .unset, .unset, .unset, .unset] [(.int ((pk &&& (2147483647 : Int32)) % (3 : Int32)))])
  by_cases hc1 : ((pk &&& (2147483647 : Int32)) % (3 : Int32)) = (0 : Int32)
  · refine Go.st (fun _ => XS.ifNo X0.here hx rfl (hb hby at_11) rfl ((if0 _ _).trans (teq hc1).2)) ?_
    show Go p e below s _ _ _ s₁ (mkF m 14 #[.val (.long y1), .second, .val (.long y2), .second, .val (.long qo), .second, .val (.long qe), .second, .val (.int pk), .val (.int ((pk &&& (2147483647 : Int32)) % (3 : Int32))), .unset, .unset, .unset, .unset, .unset] [])
    obtain ⟨T2, X2, e2, st2⟩ := getS2 X0 hx hZ hown (host := "") (Or.inl (hw _ (List.mem_of_getElem? (i := 1) rfl))) Via.refl e0 S_CONSERVATIVE (g := (mkF m 14 #[.val (.long y1), .second, .val (.long y2), .second, .val (.long qo), .second, .val (.long qe), .second, .val (.int pk), .val (.int ((pk &&& (2147483647 : Int32)) % (3 : Int32))), .unset, .unset, .unset, .unset, .unset] [])) rfl (hb hby at_14)
    refine Go.st st2 ?_
    show Go p e below s _ _ _ T2 (mkF m 17 #[.val (.long y1), .second, .val (.long y2), .second, .val (.long qo), .second, .val (.long qe), .second, .val (.int pk), .val (.int ((pk &&& (2147483647 : Int32)) % (3 : Int32))), .unset, .unset, .unset, .unset, .unset] [(.ref u_CONSERVATIVE)])
    refine Go.st (fun _ => XS.astore X2.here hx rfl (hb hby at_17) rfl rfl (l' := #[.val (.long y1), .second, .val (.long y2), .second, .val (.long qo), .second, .val (.long qe), .second, .val (.int pk), .val (.int ((pk &&& (2147483647 : Int32)) % (3 : Int32))), .val (.ref u_CONSERVATIVE), .unset, .unset, .unset, .unset]) rfl) ?_
    show Go p e below s _ _ _ T2 (mkF m 19 #[.val (.long y1), .second, .val (.long y2), .second, .val (.long qo), .second, .val (.long qe), .second, .val (.int pk), .val (.int ((pk &&& (2147483647 : Int32)) % (3 : Int32))), .val (.ref u_CONSERVATIVE), .unset, .unset, .unset, .unset] [])
    refine Go.st (fun _ => XS.goto X2.here hx rfl (pc0 := 19) (pc' := 41) rfl (hb hby at_19) (by decide) (by decide)) ?_
    show Go p e below s _ _ _ T2 (mkF m 41 #[.val (.long y1), .second, .val (.long y2), .second, .val (.long qo), .second, .val (.long qe), .second, .val (.int pk), .val (.int ((pk &&& (2147483647 : Int32)) % (3 : Int32))), .val (.ref u_CONSERVATIVE), .unset, .unset, .unset, .unset] [])
    refine Go.st (fun _ => XS.iconst X2.here hx rfl (hb hby at_41)) ?_
    show Go p e below s _ _ _ T2 (mkF m 42 #[.val (.long y1), .second, .val (.long y2), .second, .val (.long qo), .second, .val (.long qe), .second, .val (.int pk), .val (.int ((pk &&& (2147483647 : Int32)) % (3 : Int32))), .val (.ref u_CONSERVATIVE), .unset, .unset, .unset, .unset] [(.int (1 : Int32))])
    obtain ⟨T3, h3, kA3, X3, e3, E3, A3, st3⟩ := newP X2 hx hZ (hw _ (List.mem_of_getElem? (i := 4) rfl)) e2 (g := (mkF m 42 #[.val (.long y1), .second, .val (.long y2), .second, .val (.long qo), .second, .val (.long qe), .second, .val (.int pk), .val (.int ((pk &&& (2147483647 : Int32)) % (3 : Int32))), .val (.ref u_CONSERVATIVE), .unset, .unset, .unset, .unset] [(.int (1 : Int32))])) rfl (hb hby at_42) rfl (by decide) (cap := 1) (by decide) (by decide) (by decide) (by decide)
    obtain ⟨b3, g3⟩ : ∃ z, z = h0.size := ⟨_, rfl⟩
    rw [← g3] at A3 st3
    refine Go.st st3 ?_
    have gg3 : n0 ≤ b3 := Nat.le_trans Z0 (Nat.le_of_eq g3.symm)
    have z3 : n0 ≤ h3.size := Nat.le_trans Z0 E3.1
    have V_b3 : Arv Z h3 b3 kA3 .char (1 : Int32) [(.int (0 : Int32))] (.int (0 : Int32)) := (Arv.new A3 (by decide)).pad (pad_rep [] (.int (0 : Int32)) 1)
    show Go p e below s _ _ _ T3 (mkF m 44 #[.val (.long y1), .second, .val (.long y2), .second, .val (.long qo), .second, .val (.long qe), .second, .val (.int pk), .val (.int ((pk &&& (2147483647 : Int32)) % (3 : Int32))), .val (.ref u_CONSERVATIVE), .unset, .unset, .unset, .unset] [(.ref b3)])
    refine Go.st (fun _ => XS.astore X3.here hx rfl (hb hby at_44) rfl rfl (l' := #[.val (.long y1), .second, .val (.long y2), .second, .val (.long qo), .second, .val (.long qe), .second, .val (.int pk), .val (.int ((pk &&& (2147483647 : Int32)) % (3 : Int32))), .val (.ref u_CONSERVATIVE), .val (.ref b3), .unset, .unset, .unset]) rfl) ?_
    show Go p e below s _ _ _ T3 (mkF m 46 #[.val (.long y1), .second, .val (.long y2), .second, .val (.long qo), .second, .val (.long qe), .second, .val (.int pk), .val (.int ((pk &&& (2147483647 : Int32)) % (3 : Int32))), .val (.ref u_CONSERVATIVE), .val (.ref b3), .unset, .unset, .unset] [])
    refine Go.st (fun _ => XS.aload X3.here hx rfl (hb hby at_46) rfl rfl) ?_
    show Go p e below s _ _ _ T3 (mkF m 48 #[.val (.long y1), .second, .val (.long y2), .second, .val (.long qo), .second, .val (.long qe), .second, .val (.int pk), .val (.int ((pk &&& (2147483647 : Int32)) % (3 : Int32))), .val (.ref u_CONSERVATIVE), .val (.ref b3), .unset, .unset, .unset] [(.ref b3)])
    refine Go.st (fun _ => XS.iconst X3.here hx rfl (hb hby at_48)) ?_
    show Go p e below s _ _ _ T3 (mkF m 49 #[.val (.long y1), .second, .val (.long y2), .second, .val (.long qo), .second, .val (.long qe), .second, .val (.int pk), .val (.int ((pk &&& (2147483647 : Int32)) % (3 : Int32))), .val (.ref u_CONSERVATIVE), .val (.ref b3), .unset, .unset, .unset] [(.int (0 : Int32)), (.ref b3)])
    refine Go.st (fun _ => XS.iload X3.here hx rfl (hb hby at_49) rfl) ?_
    show Go p e below s _ _ _ T3 (mkF m 51 #[.val (.long y1), .second, .val (.long y2), .second, .val (.long qo), .second, .val (.long qe), .second, .val (.int pk), .val (.int ((pk &&& (2147483647 : Int32)) % (3 : Int32))), .val (.ref u_CONSERVATIVE), .val (.ref b3), .unset, .unset, .unset] [(.int pk), (.int (0 : Int32)), (.ref b3)])
    refine Go.st (fun _ => XS.bipush X3.here hx rfl (hb hby at_51)) ?_
    show Go p e below s _ _ _ T3 (mkF m 53 #[.val (.long y1), .second, .val (.long y2), .second, .val (.long qo), .second, .val (.long qe), .second, .val (.int pk), .val (.int ((pk &&& (2147483647 : Int32)) % (3 : Int32))), .val (.ref u_CONSERVATIVE), .val (.ref b3), .unset, .unset, .unset] [(.int (8 : Int32)), (.int pk), (.int (0 : Int32)), (.ref b3)])
    refine Go.st (fun _ => XS.iushr X3.here hx rfl (hb hby at_53) rfl) ?_
    show Go p e below s _ _ _ T3 (mkF m 54 #[.val (.long y1), .second, .val (.long y2), .second, .val (.long qo), .second, .val (.long qe), .second, .val (.int pk), .val (.int ((pk &&& (2147483647 : Int32)) % (3 : Int32))), .val (.ref u_CONSERVATIVE), .val (.ref b3), .unset, .unset, .unset] [(.int ((pk.toUInt32 >>> ((8 : Int32) &&& 31).toUInt32).toInt32)), (.int (0 : Int32)), (.ref b3)])
    refine Go.st (fun _ => XS.sipush X3.here hx rfl (hb hby at_54)) ?_
    show Go p e below s _ _ _ T3 (mkF m 57 #[.val (.long y1), .second, .val (.long y2), .second, .val (.long qo), .second, .val (.long qe), .second, .val (.int pk), .val (.int ((pk &&& (2147483647 : Int32)) % (3 : Int32))), .val (.ref u_CONSERVATIVE), .val (.ref b3), .unset, .unset, .unset] [(.int (255 : Int32)), (.int ((pk.toUInt32 >>> ((8 : Int32) &&& 31).toUInt32).toInt32)), (.int (0 : Int32)), (.ref b3)])
    refine Go.st (fun _ => XS.iand X3.here hx rfl (hb hby at_57) rfl) ?_
    show Go p e below s _ _ _ T3 (mkF m 58 #[.val (.long y1), .second, .val (.long y2), .second, .val (.long qo), .second, .val (.long qe), .second, .val (.int pk), .val (.int ((pk &&& (2147483647 : Int32)) % (3 : Int32))), .val (.ref u_CONSERVATIVE), .val (.ref b3), .unset, .unset, .unset] [(.int (((pk.toUInt32 >>> ((8 : Int32) &&& 31).toUInt32).toInt32) &&& (255 : Int32))), (.int (0 : Int32)), (.ref b3)])
    refine Go.st (fun _ => XS.i2c X3.here hx rfl (hb hby at_58) rfl) ?_
    show Go p e below s _ _ _ T3 (mkF m 59 #[.val (.long y1), .second, .val (.long y2), .second, .val (.long qo), .second, .val (.long qe), .second, .val (.int pk), .val (.int ((pk &&& (2147483647 : Int32)) % (3 : Int32))), .val (.ref u_CONSERVATIVE), .val (.ref b3), .unset, .unset, .unset] [(.int ((((pk.toUInt32 >>> ((8 : Int32) &&& 31).toUInt32).toInt32) &&& (255 : Int32)).toUInt32.toUInt16.toUInt32.toInt32)), (.int (0 : Int32)), (.ref b3)])
    obtain ⟨ch4, hch4⟩ : ∃ z, z = ((((pk.toUInt32 >>> ((8 : Int32) &&& 31).toUInt32).toInt32) &&& (255 : Int32)).toUInt32.toUInt16.toUInt32.toInt32) := ⟨_, rfl⟩
    rw [← hch4]
    show Go p e below s _ _ _ T3 (mkF m 59 #[.val (.long y1), .second, .val (.long y2), .second, .val (.long qo), .second, .val (.long qe), .second, .val (.int pk), .val (.int ((pk &&& (2147483647 : Int32)) % (3 : Int32))), .val (.ref u_CONSERVATIVE), .val (.ref b3), .unset, .unset, .unset] [(.int ch4), (.int (0 : Int32)), (.ref b3)])
    have hcn : nar .char ch4 = ch4 := by rw [hch4]; exact own_nc _
    have hk5 : ¬ ((255 : Int32) < ch4) := by rw [hch4]; exact own_c255 _
    obtain ⟨cl6, Ar6, q6, S6, M6, H6, G6⟩ := id V_b3
    have hin6 : ¬ ((0 : Int32) < 0 ∨ cl6.slots.size ≤ ((0 : Int32)).toNatClampNeg) := inb_of S6 ⟨by decide, by decide⟩
    obtain ⟨T6, h6, X6, e6, W6, st6⟩ := stC X3 hx hZ e3 Ar6 (j := (0 : Int32)) hin6 (g := (mkF m 59 #[.val (.long y1), .second, .val (.long y2), .second, .val (.long qo), .second, .val (.long qe), .second, .val (.int pk), .val (.int ((pk &&& (2147483647 : Int32)) % (3 : Int32))), .val (.ref u_CONSERVATIVE), .val (.ref b3), .unset, .unset, .unset] [(.int ch4), (.int (0 : Int32)), (.ref b3)])) rfl rfl (hb hby at_59)
    refine Go.st st6 ?_
    rw [hcn] at W6
    have V6 : Arv Z h6 b3 kA3 .char (1 : Int32) [(.int ch4)] (.int (0 : Int32)) := Arv.set Ar6 q6 S6 M6 H6 G6 (by rw [← hcn]; exact fits_nar_char _) W6 0 rfl (Nat.le_of_ble_eq_true rfl)
    have N6 := Fr.snoc X6 N0 gg3
    have z6 : n0 ≤ h6.size := Nat.le_trans z3 (Nat.le_of_eq W6.size.symm)
    show Go p e below s _ _ _ T6 (mkF m 60 #[.val (.long y1), .second, .val (.long y2), .second, .val (.long qo), .second, .val (.long qe), .second, .val (.int pk), .val (.int ((pk &&& (2147483647 : Int32)) % (3 : Int32))), .val (.ref u_CONSERVATIVE), .val (.ref b3), .unset, .unset, .unset] [])
    obtain ⟨T7, h7, X7, e7, E7, A7, D7, -, st7⟩ := newO X6 hx hZ hown (hw _ (List.mem_of_getElem? (i := 5) rfl)) (hw _ (List.mem_of_getElem? (i := 6) rfl)) (hw _ (List.mem_of_getElem? (i := 7) rfl)) e6 (g := (mkF m 60 #[.val (.long y1), .second, .val (.long y2), .second, .val (.long qo), .second, .val (.long qe), .second, .val (.int pk), .val (.int ((pk &&& (2147483647 : Int32)) % (3 : Int32))), .val (.ref u_CONSERVATIVE), .val (.ref b3), .unset, .unset, .unset] [])) rfl (hb hby at_60) (by decide) (by decide)
    obtain ⟨b7, g7⟩ : ∃ z, z = h6.size := ⟨_, rfl⟩
    rw [← g7] at A7 D7 st7
    refine Go.st st7 ?_
    have ne_b3_b7 : b3 ≠ b7 := Nat.ne_of_lt (Nat.lt_of_lt_of_eq V6.lt g7.symm)
    have gg7 : n0 ≤ b7 := Nat.le_trans z6 (Nat.le_of_eq g7.symm)
    have z7 : n0 ≤ h7.size := Nat.le_trans z6 E7.1
    have F_coder_b7 : Fld Z h7 b7 "java/lang/String" "coder" "B" (.int (0 : Int32)) := D7 (Or.inr (hw _ (List.mem_of_getElem? (i := 31) rfl))) (ty := .byte) (by decide)
    have F_value_b7 : Fld Z h7 b7 "java/lang/String" "value" "[B" .null := D7 (Or.inr (hw _ (List.mem_of_getElem? (i := 33) rfl))) (ty := (.array .byte)) (by decide)
    show Go p e below s _ _ _ T7 (mkF m 63 #[.val (.long y1), .second, .val (.long y2), .second, .val (.long qo), .second, .val (.long qe), .second, .val (.int pk), .val (.int ((pk &&& (2147483647 : Int32)) % (3 : Int32))), .val (.ref u_CONSERVATIVE), .val (.ref b3), .unset, .unset, .unset] [(.ref b7)])
    refine Go.st (fun _ => XS.dup X7.here hx rfl (hb hby at_63) rfl rfl) ?_
    show Go p e below s _ _ _ T7 (mkF m 64 #[.val (.long y1), .second, .val (.long y2), .second, .val (.long qo), .second, .val (.long qe), .second, .val (.int pk), .val (.int ((pk &&& (2147483647 : Int32)) % (3 : Int32))), .val (.ref u_CONSERVATIVE), .val (.ref b3), .unset, .unset, .unset] [(.ref b7), (.ref b7)])
    refine Go.st (fun _ => XS.aload X7.here hx rfl (hb hby at_64) rfl rfl) ?_
    show Go p e below s _ _ _ T7 (mkF m 66 #[.val (.long y1), .second, .val (.long y2), .second, .val (.long qo), .second, .val (.long qe), .second, .val (.int pk), .val (.int ((pk &&& (2147483647 : Int32)) % (3 : Int32))), .val (.ref u_CONSERVATIVE), .val (.ref b3), .unset, .unset, .unset] [(.ref b3), (.ref b7), (.ref b7)])
    have f9 := (V6.ext E7)
    have f10 := (((S_COMPACT_STRINGS.ext E3).wr W6).ext E7)
    obtain ⟨_, _, ⟨T8, L8, kc8, nc8⟩, -, X8, ⟨Lc8, hQ8, l8, y8, z8⟩, st8⟩ := X7.specialBack hx (y := (⟨"java/lang/String", "<init>", "([C)V"⟩ : MethodName)) rfl hown (mvT hZ (hw _ (List.mem_of_getElem? (i := 8) rfl))) (mvT hZ (hw _ (List.mem_of_getElem? (i := 9) rfl))) (mvT hZ (hw _ (List.mem_of_getElem? (i := 10) rfl))) (by decide) (backOf (W := 1) (rmI1 l Z a0 hw [] b7 b3 kA3 ch4 cs h7 n0 z7 A7 F_value_b7 F_coder_b7 f9 f10 hcs hk5 gg7) hZ (hw _ (List.mem_of_getElem? (i := 10) rfl)) (hw _ (List.mem_of_getElem? (i := 7) rfl)) (by decide) (by decide)) (g := (mkF m 66 #[.val (.long y1), .second, .val (.long y2), .second, .val (.long qo), .second, .val (.long qe), .second, .val (.int pk), .val (.int ((pk &&& (2147483647 : Int32)) % (3 : Int32))), .val (.ref u_CONSERVATIVE), .val (.ref b3), .unset, .unset, .unset] [(.ref b3), (.ref b7), (.ref b7)])) rfl (by rw [hml]; rfl) (Steps.refl _) (a := b7) (argsL := [(.ref b3)]) (rest := [(.ref b7)]) (lenOf pd_5 rfl) rfl (by show 2 * 0 + _ ≤ _; exact Nat.le_of_eq rfl) (hb hby at_66) (fun _ _ => ⟨rfl, e7, (by decide : 2 + 1 ≤ _), (by decide : 5 + 1 ≤ _)⟩)
    dsimp only [Pt.U, Pt.locs, Pt.cells, Pt.slots] at X8 l8 y8 z8 st8 hQ8
    subst l8 y8 z8
    obtain ⟨h8, e8⟩ : ∃ hh, T8.heap = hh := ⟨_, rfl⟩
    rw [e8] at hQ8
    obtain ⟨rfl, N8q, K8, p8_0⟩ := hQ8
    have N8 := Fr.app N6 N8q
    refine Go.st (fun _ kk => st8.trans kk) ?_
    have z8q : n0 ≤ h8.size := Nat.le_trans z7 K8.1
    have ns8 : ∀ x ∈ ([b7] : List Addr), ∀ cell : Cell, h7[x]? = some cell → cell.vm.isStatics = false := (allS A7.nostat all0)
    show Go p e below s _ _ _ T8 (mkF m 69 #[.val (.long y1), .second, .val (.long y2), .second, .val (.long qo), .second, .val (.long qe), .second, .val (.int pk), .val (.int ((pk &&& (2147483647 : Int32)) % (3 : Int32))), .val (.ref u_CONSERVATIVE), .val (.ref b3), .unset, .unset, .unset] [(.ref b7)])
    refine Go.st (fun _ => XS.astore X8.here hx rfl (hb hby at_69) rfl rfl (l' := #[.val (.long y1), .second, .val (.long y2), .second, .val (.long qo), .second, .val (.long qe), .second, .val (.int pk), .val (.int ((pk &&& (2147483647 : Int32)) % (3 : Int32))), .val (.ref u_CONSERVATIVE), .val (.ref b3), .val (.ref b7), .unset, .unset]) rfl) ?_
    show Go p e below s _ _ _ T8 (mkF m 71 #[.val (.long y1), .second, .val (.long y2), .second, .val (.long qo), .second, .val (.long qe), .second, .val (.int pk), .val (.int ((pk &&& (2147483647 : Int32)) % (3 : Int32))), .val (.ref u_CONSERVATIVE), .val (.ref b3), .val (.ref b7), .unset, .unset] [])
    obtain ⟨T11, h11, X11, e11, E11, A11, D11, -, st11⟩ := newO X8 hx hZ hown (hw _ (List.mem_of_getElem? (i := 34) rfl)) (hw _ (List.mem_of_getElem? (i := 35) rfl)) (hw _ (List.mem_of_getElem? (i := 36) rfl)) e8 (g := (mkF m 71 #[.val (.long y1), .second, .val (.long y2), .second, .val (.long qo), .second, .val (.long qe), .second, .val (.int pk), .val (.int ((pk &&& (2147483647 : Int32)) % (3 : Int32))), .val (.ref u_CONSERVATIVE), .val (.ref b3), .val (.ref b7), .unset, .unset] [])) rfl (hb hby at_71) (by decide) (by decide)
    obtain ⟨b11, g11⟩ : ∃ z, z = h8.size := ⟨_, rfl⟩
    rw [← g11] at A11 D11 st11
    refine Go.st st11 ?_
    have f12 := (f9.keep K8 (ninS ne_b3_b7 nin0))
    have ne_b3_b11 : b3 ≠ b11 := Nat.ne_of_lt (Nat.lt_of_lt_of_eq f12.lt g11.symm)
    have ne_b7_b11 : b7 ≠ b11 := Nat.ne_of_lt (Nat.lt_of_lt_of_eq p8_0.lt g11.symm)
    have gg11 : n0 ≤ b11 := Nat.le_trans z8q (Nat.le_of_eq g11.symm)
    have z11 : n0 ≤ h11.size := Nat.le_trans z8q E11.1
    have F_name_b11 : Fld Z h11 b11 "com/example/reapd/reapd/TableStats" "name" "Ljava/lang/String;" .null := D11 (Or.inr (hw _ (List.mem_of_getElem? (i := 48) rfl))) (ty := (.object "java/lang/String")) (by decide)
    have F_strategy_b11 : Fld Z h11 b11 "com/example/reapd/reapd/TableStats" "strategy" "Lcom/example/reapd/reapd/SweepStrategy;" .null := D11 (Or.inr (hw _ (List.mem_of_getElem? (i := 50) rfl))) (ty := (.object "com/example/reapd/reapd/SweepStrategy")) (by decide)
    have F_keys_b11 : Fld Z h11 b11 "com/example/reapd/reapd/TableStats" "keys" "J" (.long (0 : Int64)) := D11 (Or.inr (hw _ (List.mem_of_getElem? (i := 52) rfl))) (ty := .long) (by decide)
    have F_versions_b11 : Fld Z h11 b11 "com/example/reapd/reapd/TableStats" "versions" "J" (.long (0 : Int64)) := D11 (Or.inr (hw _ (List.mem_of_getElem? (i := 54) rfl))) (ty := .long) (by decide)
    have F_tombstones_b11 : Fld Z h11 b11 "com/example/reapd/reapd/TableStats" "tombstones" "J" (.long (0 : Int64)) := D11 (Or.inr (hw _ (List.mem_of_getElem? (i := 56) rfl))) (ty := .long) (by decide)
    have F_sentinels_b11 : Fld Z h11 b11 "com/example/reapd/reapd/TableStats" "sentinels" "J" (.long (0 : Int64)) := D11 (Or.inr (hw _ (List.mem_of_getElem? (i := 58) rfl))) (ty := .long) (by decide)
    have F_expirySeconds_b11 : Fld Z h11 b11 "com/example/reapd/reapd/TableStats" "expirySeconds" "J" (.long (0 : Int64)) := D11 (Or.inr (hw _ (List.mem_of_getElem? (i := 60) rfl))) (ty := .long) (by decide)
    have F_expiring_b11 : Fld Z h11 b11 "com/example/reapd/reapd/TableStats" "expiring" "J" (.long (0 : Int64)) := D11 (Or.inr (hw _ (List.mem_of_getElem? (i := 62) rfl))) (ty := .long) (by decide)
    have F_expired_b11 : Fld Z h11 b11 "com/example/reapd/reapd/TableStats" "expired" "J" (.long (0 : Int64)) := D11 (Or.inr (hw _ (List.mem_of_getElem? (i := 64) rfl))) (ty := .long) (by decide)
    show Go p e below s _ _ _ T11 (mkF m 74 #[.val (.long y1), .second, .val (.long y2), .second, .val (.long qo), .second, .val (.long qe), .second, .val (.int pk), .val (.int ((pk &&& (2147483647 : Int32)) % (3 : Int32))), .val (.ref u_CONSERVATIVE), .val (.ref b3), .val (.ref b7), .unset, .unset] [(.ref b11)])
    refine Go.st (fun _ => XS.dup X11.here hx rfl (hb hby at_74) rfl rfl) ?_
    show Go p e below s _ _ _ T11 (mkF m 75 #[.val (.long y1), .second, .val (.long y2), .second, .val (.long qo), .second, .val (.long qe), .second, .val (.int pk), .val (.int ((pk &&& (2147483647 : Int32)) % (3 : Int32))), .val (.ref u_CONSERVATIVE), .val (.ref b3), .val (.ref b7), .unset, .unset] [(.ref b11), (.ref b11)])
    refine Go.st (fun _ => XS.aload X11.here hx rfl (hb hby at_75) rfl rfl) ?_
    show Go p e below s _ _ _ T11 (mkF m 77 #[.val (.long y1), .second, .val (.long y2), .second, .val (.long qo), .second, .val (.long qe), .second, .val (.int pk), .val (.int ((pk &&& (2147483647 : Int32)) % (3 : Int32))), .val (.ref u_CONSERVATIVE), .val (.ref b3), .val (.ref b7), .unset, .unset] [(.ref b7), (.ref b11), (.ref b11)])
    refine Go.st (fun _ => XS.aload X11.here hx rfl (hb hby at_77) rfl rfl) ?_
    show Go p e below s _ _ _ T11 (mkF m 79 #[.val (.long y1), .second, .val (.long y2), .second, .val (.long qo), .second, .val (.long qe), .second, .val (.int pk), .val (.int ((pk &&& (2147483647 : Int32)) % (3 : Int32))), .val (.ref u_CONSERVATIVE), .val (.ref b3), .val (.ref b7), .unset, .unset] [(.ref u_CONSERVATIVE), (.ref b7), (.ref b11), (.ref b11)])
    refine Go.st (fun _ => XS.lload X11.here hx rfl (hb hby at_79) rfl) ?_
    show Go p e below s _ _ _ T11 (mkF m 81 #[.val (.long y1), .second, .val (.long y2), .second, .val (.long qo), .second, .val (.long qe), .second, .val (.int pk), .val (.int ((pk &&& (2147483647 : Int32)) % (3 : Int32))), .val (.ref u_CONSERVATIVE), .val (.ref b3), .val (.ref b7), .unset, .unset] [(.long qo), (.ref u_CONSERVATIVE), (.ref b7), (.ref b11), (.ref b11)])
    refine Go.st (fun _ => XS.lload X11.here hx rfl (hb hby at_81) rfl) ?_
    show Go p e below s _ _ _ T11 (mkF m 83 #[.val (.long y1), .second, .val (.long y2), .second, .val (.long qo), .second, .val (.long qe), .second, .val (.int pk), .val (.int ((pk &&& (2147483647 : Int32)) % (3 : Int32))), .val (.ref u_CONSERVATIVE), .val (.ref b3), .val (.ref b7), .unset, .unset] [(.long qo), (.long qo), (.ref u_CONSERVATIVE), (.ref b7), (.ref b11), (.ref b11)])
    refine Go.st (fun tG => X11.ldc2Long hx hown (mvT hZ (hw _ (List.mem_of_getElem? (i := 37) rfl))) (g := (mkF m 83 #[.val (.long y1), .second, .val (.long y2), .second, .val (.long qo), .second, .val (.long qe), .second, .val (.int pk), .val (.int ((pk &&& (2147483647 : Int32)) % (3 : Int32))), .val (.ref u_CONSERVATIVE), .val (.ref b3), .val (.ref b7), .unset, .unset] [(.long qo), (.long qo), (.ref u_CONSERVATIVE), (.ref b7), (.ref b11), (.ref b11)])) rfl (hb hby at_83) tG) ?_
    show Go p e below s _ _ _ T11 (mkF m 86 #[.val (.long y1), .second, .val (.long y2), .second, .val (.long qo), .second, .val (.long qe), .second, .val (.int pk), .val (.int ((pk &&& (2147483647 : Int32)) % (3 : Int32))), .val (.ref u_CONSERVATIVE), .val (.ref b3), .val (.ref b7), .unset, .unset] [(.long (-1 : Int64)), (.long qo), (.long qo), (.ref u_CONSERVATIVE), (.ref b7), (.ref b11), (.ref b11)])
    refine Go.st (fun _ => XS.lxor X11.here hx rfl (hb hby at_86) rfl) ?_
    show Go p e below s _ _ _ T11 (mkF m 87 #[.val (.long y1), .second, .val (.long y2), .second, .val (.long qo), .second, .val (.long qe), .second, .val (.int pk), .val (.int ((pk &&& (2147483647 : Int32)) % (3 : Int32))), .val (.ref u_CONSERVATIVE), .val (.ref b3), .val (.ref b7), .unset, .unset] [(.long (qo ^^^ (-1 : Int64))), (.long qo), (.ref u_CONSERVATIVE), (.ref b7), (.ref b11), (.ref b11)])
    refine Go.st (fun _ => XS.lload X11.here hx rfl (hb hby at_87) rfl) ?_
    show Go p e below s _ _ _ T11 (mkF m 89 #[.val (.long y1), .second, .val (.long y2), .second, .val (.long qo), .second, .val (.long qe), .second, .val (.int pk), .val (.int ((pk &&& (2147483647 : Int32)) % (3 : Int32))), .val (.ref u_CONSERVATIVE), .val (.ref b3), .val (.ref b7), .unset, .unset] [(.long qo), (.long (qo ^^^ (-1 : Int64))), (.long qo), (.ref u_CONSERVATIVE), (.ref b7), (.ref b11), (.ref b11)])
    refine Go.st (fun _ => XS.iconst X11.here hx rfl (hb hby at_89)) ?_
    show Go p e below s _ _ _ T11 (mkF m 90 #[.val (.long y1), .second, .val (.long y2), .second, .val (.long qo), .second, .val (.long qe), .second, .val (.int pk), .val (.int ((pk &&& (2147483647 : Int32)) % (3 : Int32))), .val (.ref u_CONSERVATIVE), .val (.ref b3), .val (.ref b7), .unset, .unset] [(.int (1 : Int32)), (.long qo), (.long (qo ^^^ (-1 : Int64))), (.long qo), (.ref u_CONSERVATIVE), (.ref b7), (.ref b11), (.ref b11)])
    refine Go.st (fun _ => XS.lushr X11.here hx rfl (hb hby at_90) rfl) ?_
    show Go p e below s _ _ _ T11 (mkF m 91 #[.val (.long y1), .second, .val (.long y2), .second, .val (.long qo), .second, .val (.long qe), .second, .val (.int pk), .val (.int ((pk &&& (2147483647 : Int32)) % (3 : Int32))), .val (.ref u_CONSERVATIVE), .val (.ref b3), .val (.ref b7), .unset, .unset] [(.long ((qo.toUInt64 >>> ((1 : Int32) &&& 0x3f).toInt64.toUInt64).toInt64)), (.long (qo ^^^ (-1 : Int64))), (.long qo), (.ref u_CONSERVATIVE), (.ref b7), (.ref b11), (.ref b11)])
    refine Go.st (fun _ => XS.lload X11.here hx rfl (hb hby at_91) rfl) ?_
    show Go p e below s _ _ _ T11 (mkF m 93 #[.val (.long y1), .second, .val (.long y2), .second, .val (.long qo), .second, .val (.long qe), .second, .val (.int pk), .val (.int ((pk &&& (2147483647 : Int32)) % (3 : Int32))), .val (.ref u_CONSERVATIVE), .val (.ref b3), .val (.ref b7), .unset, .unset] [(.long qo), (.long ((qo.toUInt64 >>> ((1 : Int32) &&& 0x3f).toInt64.toUInt64).toInt64)), (.long (qo ^^^ (-1 : Int64))), (.long qo), (.ref u_CONSERVATIVE), (.ref b7), (.ref b11), (.ref b11)])
    refine Go.st (fun _ => XS.lload X11.here hx rfl (hb hby at_93) rfl) ?_
    show Go p e below s _ _ _ T11 (mkF m 95 #[.val (.long y1), .second, .val (.long y2), .second, .val (.long qo), .second, .val (.long qe), .second, .val (.int pk), .val (.int ((pk &&& (2147483647 : Int32)) % (3 : Int32))), .val (.ref u_CONSERVATIVE), .val (.ref b3), .val (.ref b7), .unset, .unset] [(.long qe), (.long qo), (.long ((qo.toUInt64 >>> ((1 : Int32) &&& 0x3f).toInt64.toUInt64).toInt64)), (.long (qo ^^^ (-1 : Int64))), (.long qo), (.ref u_CONSERVATIVE), (.ref b7), (.ref b11), (.ref b11)])
    refine Go.st (fun _ => XS.lxor X11.here hx rfl (hb hby at_95) rfl) ?_
    show Go p e below s _ _ _ T11 (mkF m 96 #[.val (.long y1), .second, .val (.long y2), .second, .val (.long qo), .second, .val (.long qe), .second, .val (.int pk), .val (.int ((pk &&& (2147483647 : Int32)) % (3 : Int32))), .val (.ref u_CONSERVATIVE), .val (.ref b3), .val (.ref b7), .unset, .unset] [(.long (qo ^^^ qe)), (.long ((qo.toUInt64 >>> ((1 : Int32) &&& 0x3f).toInt64.toUInt64).toInt64)), (.long (qo ^^^ (-1 : Int64))), (.long qo), (.ref u_CONSERVATIVE), (.ref b7), (.ref b11), (.ref b11)])
    refine Go.st (fun _ => XS.lloadN X11.here hx rfl (hb hby at_96) rfl) ?_
    show Go p e below s _ _ _ T11 (mkF m 97 #[.val (.long y1), .second, .val (.long y2), .second, .val (.long qo), .second, .val (.long qe), .second, .val (.int pk), .val (.int ((pk &&& (2147483647 : Int32)) % (3 : Int32))), .val (.ref u_CONSERVATIVE), .val (.ref b3), .val (.ref b7), .unset, .unset] [(.long y1), (.long (qo ^^^ qe)), (.long ((qo.toUInt64 >>> ((1 : Int32) &&& 0x3f).toInt64.toUInt64).toInt64)), (.long (qo ^^^ (-1 : Int64))), (.long qo), (.ref u_CONSERVATIVE), (.ref b7), (.ref b11), (.ref b11)])
    refine Go.st (fun _ => XS.lloadN X11.here hx rfl (hb hby at_97) rfl) ?_
    show Go p e below s _ _ _ T11 (mkF m 98 #[.val (.long y1), .second, .val (.long y2), .second, .val (.long qo), .second, .val (.long qe), .second, .val (.int pk), .val (.int ((pk &&& (2147483647 : Int32)) % (3 : Int32))), .val (.ref u_CONSERVATIVE), .val (.ref b3), .val (.ref b7), .unset, .unset] [(.long y2), (.long y1), (.long (qo ^^^ qe)), (.long ((qo.toUInt64 >>> ((1 : Int32) &&& 0x3f).toInt64.toUInt64).toInt64)), (.long (qo ^^^ (-1 : Int64))), (.long qo), (.ref u_CONSERVATIVE), (.ref b7), (.ref b11), (.ref b11)])
    refine Go.st (fun _ => XS.lload X11.here hx rfl (hb hby at_98) rfl) ?_
    show Go p e below s _ _ _ T11 (mkF m 100 #[.val (.long y1), .second, .val (.long y2), .second, .val (.long qo), .second, .val (.long qe), .second, .val (.int pk), .val (.int ((pk &&& (2147483647 : Int32)) % (3 : Int32))), .val (.ref u_CONSERVATIVE), .val (.ref b3), .val (.ref b7), .unset, .unset] [(.long qe), (.long y2), (.long y1), (.long (qo ^^^ qe)), (.long ((qo.toUInt64 >>> ((1 : Int32) &&& 0x3f).toInt64.toUInt64).toInt64)), (.long (qo ^^^ (-1 : Int64))), (.long qo), (.ref u_CONSERVATIVE), (.ref b7), (.ref b11), (.ref b11)])
    obtain ⟨_, _, ⟨T13, L13, kc13, nc13⟩, -, X13, ⟨Lc13, hQ13, l13, y13, z13⟩, st13⟩ := X11.specialBack hx (y := (⟨"com/example/reapd/reapd/TableStats", "<init>", "(Ljava/lang/String;Lcom/example/reapd/reapd/SweepStrategy;JJJJJJJ)V"⟩ : MethodName)) rfl hown (mvT hZ (hw _ (List.mem_of_getElem? (i := 38) rfl))) (mvT hZ (hw _ (List.mem_of_getElem? (i := 39) rfl))) (mvT hZ (hw _ (List.mem_of_getElem? (i := 40) rfl))) (by decide) (backOf (W := 1) (rmTi l Z a0 hw [] b11 b7 u_CONSERVATIVE qo (qo ^^^ (-1 : Int64)) ((qo.toUInt64 >>> ((1 : Int32) &&& 0x3f).toInt64.toUInt64).toInt64) (qo ^^^ qe) y1 y2 qe h11 n0 z11 A11 F_name_b11 F_strategy_b11 F_keys_b11 F_versions_b11 F_tombstones_b11 F_sentinels_b11 F_expirySeconds_b11 F_expiring_b11 F_expired_b11 gg11) hZ (hw _ (List.mem_of_getElem? (i := 40) rfl)) (hw _ (List.mem_of_getElem? (i := 36) rfl)) (by decide) (by decide)) (g := (mkF m 100 #[.val (.long y1), .second, .val (.long y2), .second, .val (.long qo), .second, .val (.long qe), .second, .val (.int pk), .val (.int ((pk &&& (2147483647 : Int32)) % (3 : Int32))), .val (.ref u_CONSERVATIVE), .val (.ref b3), .val (.ref b7), .unset, .unset] [(.long qe), (.long y2), (.long y1), (.long (qo ^^^ qe)), (.long ((qo.toUInt64 >>> ((1 : Int32) &&& 0x3f).toInt64.toUInt64).toInt64)), (.long (qo ^^^ (-1 : Int64))), (.long qo), (.ref u_CONSERVATIVE), (.ref b7), (.ref b11), (.ref b11)])) rfl (by rw [hml]; rfl) (Steps.refl _) (a := b11) (argsL := [(.ref b7), (.ref u_CONSERVATIVE), (.long qo), (.long (qo ^^^ (-1 : Int64))), (.long ((qo.toUInt64 >>> ((1 : Int32) &&& 0x3f).toInt64.toUInt64).toInt64)), (.long (qo ^^^ qe)), (.long y1), (.long y2), (.long qe)]) (rest := [(.ref b11)]) (lenOf pd_6 rfl) rfl (by show 2 * 0 + _ ≤ _; exact Nat.le_of_eq rfl) (hb hby at_100) (fun _ _ => ⟨rfl, e11, (by decide : 4 + 0 ≤ _), (by decide : 15 + 0 ≤ _)⟩)
    dsimp only [Pt.U, Pt.locs, Pt.cells, Pt.slots] at X13 l13 y13 z13 st13 hQ13
    subst l13 y13 z13
    obtain ⟨h13, e13⟩ : ∃ hh, T13.heap = hh := ⟨_, rfl⟩
    rw [e13] at hQ13
    obtain ⟨rfl, N13q, K13, p13_0, p13_1, p13_2⟩ := hQ13
    have N13 := Fr.app N8 N13q
    refine Go.st (fun _ kk => st13.trans kk) ?_
    have z13q : n0 ≤ h13.size := Nat.le_trans z11 K13.1
    have ns13 : ∀ x ∈ ([b11] : List Addr), ∀ cell : Cell, h11[x]? = some cell → cell.vm.isStatics = false := (allS A11.nostat all0)
    show Go p e below s _ _ _ T13 (mkF m 103 #[.val (.long y1), .second, .val (.long y2), .second, .val (.long qo), .second, .val (.long qe), .second, .val (.int pk), .val (.int ((pk &&& (2147483647 : Int32)) % (3 : Int32))), .val (.ref u_CONSERVATIVE), .val (.ref b3), .val (.ref b7), .unset, .unset] [(.ref b11)])
    refine Go.st (fun _ => XS.astore X13.here hx rfl (hb hby at_103) rfl rfl (l' := #[.val (.long y1), .second, .val (.long y2), .second, .val (.long qo), .second, .val (.long qe), .second, .val (.int pk), .val (.int ((pk &&& (2147483647 : Int32)) % (3 : Int32))), .val (.ref u_CONSERVATIVE), .val (.ref b3), .val (.ref b7), .val (.ref b11), .unset]) rfl) ?_
    show Go p e below s _ _ _ T13 (mkF m 105 #[.val (.long y1), .second, .val (.long y2), .second, .val (.long qo), .second, .val (.long qe), .second, .val (.int pk), .val (.int ((pk &&& (2147483647 : Int32)) % (3 : Int32))), .val (.ref u_CONSERVATIVE), .val (.ref b3), .val (.ref b7), .val (.ref b11), .unset] [])
    refine Go.st (fun _ => XS.lloadN X13.here hx rfl (hb hby at_105) rfl) ?_
    show Go p e below s _ _ _ T13 (mkF m 106 #[.val (.long y1), .second, .val (.long y2), .second, .val (.long qo), .second, .val (.long qe), .second, .val (.int pk), .val (.int ((pk &&& (2147483647 : Int32)) % (3 : Int32))), .val (.ref u_CONSERVATIVE), .val (.ref b3), .val (.ref b7), .val (.ref b11), .unset] [(.long y1)])
    refine Go.st (fun _ => XS.lconst X13.here hx rfl (hb hby at_106)) ?_
    show Go p e below s _ _ _ T13 (mkF m 107 #[.val (.long y1), .second, .val (.long y2), .second, .val (.long qo), .second, .val (.long qe), .second, .val (.int pk), .val (.int ((pk &&& (2147483647 : Int32)) % (3 : Int32))), .val (.ref u_CONSERVATIVE), .val (.ref b3), .val (.ref b7), .val (.ref b11), .unset] [(.long (1 : Int64)), (.long y1)])
    refine Go.st (fun _ => XS.lcmp X13.here hx rfl (hb hby at_107) rfl) ?_
    show Go p e below s _ _ _ T13 (mkF m 108 #[.val (.long y1), .second, .val (.long y2), .second, .val (.long qo), .second, .val (.long qe), .second, .val (.int pk), .val (.int ((pk &&& (2147483647 : Int32)) % (3 : Int32))), .val (.ref u_CONSERVATIVE), .val (.ref b3), .val (.ref b7), .val (.ref b11), .unset] [(.int (lcmpW y1 (1 : Int64)))])
    by_cases hc14 : y1 < (1 : Int64)
    · refine Go.st (fun _ => XS.ifYes X13.here hx rfl (pc0 := 108) (pc' := 117) rfl (hb hby at_108) rfl ((if0 _ _).trans (tlt ((lw_lt y1 (1 : Int64)).mpr hc14)).1) (by decide) (by decide)) ?_
      show Go p e below s _ _ _ T13 (mkF m 117 #[.val (.long y1), .second, .val (.long y2), .second, .val (.long qo), .second, .val (.long qe), .second, .val (.int pk), .val (.int ((pk &&& (2147483647 : Int32)) % (3 : Int32))), .val (.ref u_CONSERVATIVE), .val (.ref b3), .val (.ref b7), .val (.ref b11), .unset] [])
      refine Go.st (fun _ => XS.lloadN X13.here hx rfl (hb hby at_117) rfl) ?_
      show Go p e below s _ _ _ T13 (mkF m 118 #[.val (.long y1), .second, .val (.long y2), .second, .val (.long qo), .second, .val (.long qe), .second, .val (.int pk), .val (.int ((pk &&& (2147483647 : Int32)) % (3 : Int32))), .val (.ref u_CONSERVATIVE), .val (.ref b3), .val (.ref b7), .val (.ref b11), .unset] [(.long y2)])
      refine Go.st (fun _ => XS.lconst X13.here hx rfl (hb hby at_118)) ?_
      show Go p e below s _ _ _ T13 (mkF m 119 #[.val (.long y1), .second, .val (.long y2), .second, .val (.long qo), .second, .val (.long qe), .second, .val (.int pk), .val (.int ((pk &&& (2147483647 : Int32)) % (3 : Int32))), .val (.ref u_CONSERVATIVE), .val (.ref b3), .val (.ref b7), .val (.ref b11), .unset] [(.long (1 : Int64)), (.long y2)])
      refine Go.st (fun _ => XS.lcmp X13.here hx rfl (hb hby at_119) rfl) ?_
      show Go p e below s _ _ _ T13 (mkF m 120 #[.val (.long y1), .second, .val (.long y2), .second, .val (.long qo), .second, .val (.long qe), .second, .val (.int pk), .val (.int ((pk &&& (2147483647 : Int32)) % (3 : Int32))), .val (.ref u_CONSERVATIVE), .val (.ref b3), .val (.ref b7), .val (.ref b11), .unset] [(.int (lcmpW y2 (1 : Int64)))])
      by_cases hc15 : y2 < (1 : Int64)
      · refine Go.st (fun _ => XS.ifYes X13.here hx rfl (pc0 := 120) (pc' := 129) rfl (hb hby at_120) rfl ((if0 _ _).trans (tlt ((lw_lt y2 (1 : Int64)).mpr hc15)).1) (by decide) (by decide)) ?_
        show Go p e below s _ _ _ T13 (mkF m 129 #[.val (.long y1), .second, .val (.long y2), .second, .val (.long qo), .second, .val (.long qe), .second, .val (.int pk), .val (.int ((pk &&& (2147483647 : Int32)) % (3 : Int32))), .val (.ref u_CONSERVATIVE), .val (.ref b3), .val (.ref b7), .val (.ref b11), .unset] [])
        refine Go.st (fun _ => XS.iconst X13.here hx rfl (hb hby at_129)) ?_
        show Go p e below s _ _ _ T13 (mkF m 130 #[.val (.long y1), .second, .val (.long y2), .second, .val (.long qo), .second, .val (.long qe), .second, .val (.int pk), .val (.int ((pk &&& (2147483647 : Int32)) % (3 : Int32))), .val (.ref u_CONSERVATIVE), .val (.ref b3), .val (.ref b7), .val (.ref b11), .unset] [(.int (0 : Int32))])
        refine Go.st (fun _ => XS.istore X13.here hx rfl (hb hby at_130) rfl (l' := #[.val (.long y1), .second, .val (.long y2), .second, .val (.long qo), .second, .val (.long qe), .second, .val (.int pk), .val (.int ((pk &&& (2147483647 : Int32)) % (3 : Int32))), .val (.ref u_CONSERVATIVE), .val (.ref b3), .val (.ref b7), .val (.ref b11), .val (.int (0 : Int32))]) rfl) ?_
        show Go p e below s _ _ _ T13 (mkF m 132 #[.val (.long y1), .second, .val (.long y2), .second, .val (.long qo), .second, .val (.long qe), .second, .val (.int pk), .val (.int ((pk &&& (2147483647 : Int32)) % (3 : Int32))), .val (.ref u_CONSERVATIVE), .val (.ref b3), .val (.ref b7), .val (.ref b11), .val (.int (0 : Int32))] [])
        refine Go.st (fun _ => XS.aload X13.here hx rfl (hb hby at_132) rfl rfl) ?_
        show Go p e below s _ _ _ T13 (mkF m 134 #[.val (.long y1), .second, .val (.long y2), .second, .val (.long qo), .second, .val (.long qe), .second, .val (.int pk), .val (.int ((pk &&& (2147483647 : Int32)) % (3 : Int32))), .val (.ref u_CONSERVATIVE), .val (.ref b3), .val (.ref b7), .val (.ref b11), .val (.int (0 : Int32))] [(.ref b11)])
        obtain ⟨cq16, kq16, q16a, q16b, q16c⟩ := isOf hZ e13 p13_0
        obtain ⟨_, _, ⟨T16, L16, kc16, nc16⟩, -, X16, ⟨Lc16, hQ16, l16, y16, z16⟩, st16⟩ := X13.virtualBack hx (y := (⟨"com/example/reapd/reapd/TableStats", "expires", "()Z"⟩ : MethodName)) (z := (⟨"com/example/reapd/reapd/TableStats", "expires", "()Z"⟩ : MethodName)) hown (mvT hZ (hw _ (List.mem_of_getElem? (i := 65) rfl))) (mvT hZ (hw _ (List.mem_of_getElem? (i := 66) rfl))) (notFace_of_selects (args := #[]) (mvT hZ (hw _ (List.mem_of_getElem? (i := 68) rfl)))) (mvT hZ (hw _ (List.mem_of_getElem? (i := 68) rfl))) (mvT hZ (hw _ (List.mem_of_getElem? (i := 67) rfl))) (by decide) (backOf (W := 0) (rmEp l Z a0 hw [] b11 y1 y2 h13 n0 z13q p13_1 p13_2) hZ (hw _ (List.mem_of_getElem? (i := 69) rfl)) (hw _ (List.mem_of_getElem? (i := 36) rfl)) (by decide) (by decide)) q16a q16c (g := (mkF m 134 #[.val (.long y1), .second, .val (.long y2), .second, .val (.long qo), .second, .val (.long qe), .second, .val (.int pk), .val (.int ((pk &&& (2147483647 : Int32)) % (3 : Int32))), .val (.ref u_CONSERVATIVE), .val (.ref b3), .val (.ref b7), .val (.ref b11), .val (.int (0 : Int32))] [(.ref b11)])) rfl (by rw [hml]; rfl) (Steps.refl _) (argsL := []) (rest := []) (lenOf pd_7 rfl) rfl (by show 2 * 0 + _ ≤ _; exact Nat.le_of_eq rfl) (hb hby at_134) (fun _ _ => ⟨rfl, e13, (by decide : 4 + 0 ≤ _), (by decide : 15 + 0 ≤ _)⟩)
        dsimp only [Pt.U, Pt.locs, Pt.cells, Pt.slots] at X16 l16 y16 z16 st16 hQ16
        subst l16 y16 z16
        obtain ⟨h16, e16⟩ : ∃ hh, T16.heap = hh := ⟨_, rfl⟩
        rw [e16] at hQ16
        obtain ⟨rfl, N16q, sm16⟩ := hQ16
        have N16 := Fr.app N13 N16q
        refine Go.st (fun _ kk => st16.trans kk) ?_
        rw [sm16] at e16
        show Go p e below s _ _ _ T16 (mkF m 137 #[.val (.long y1), .second, .val (.long y2), .second, .val (.long qo), .second, .val (.long qe), .second, .val (.int pk), .val (.int ((pk &&& (2147483647 : Int32)) % (3 : Int32))), .val (.ref u_CONSERVATIVE), .val (.ref b3), .val (.ref b7), .val (.ref b11), .val (.int (0 : Int32))] [(.int (b2i ((0 : Int64) < y1 ∨ (0 : Int64) < y2)))])
        rw [show (b2i ((0 : Int64) < y1 ∨ (0 : Int64) < y2)) = (0 : Int32) from b2i_neg (fun q => q.elim (own_lt hc14) (own_lt hc15))]
        show Go p e below s _ _ _ T16 (mkF m 137 #[.val (.long y1), .second, .val (.long y2), .second, .val (.long qo), .second, .val (.long qe), .second, .val (.int pk), .val (.int ((pk &&& (2147483647 : Int32)) % (3 : Int32))), .val (.ref u_CONSERVATIVE), .val (.ref b3), .val (.ref b7), .val (.ref b11), .val (.int (0 : Int32))] [(.int (0 : Int32))])
        refine Go.st (fun _ => XS.iload X16.here hx rfl (hb hby at_137) rfl) ?_
        show Go p e below s _ _ _ T16 (mkF m 139 #[.val (.long y1), .second, .val (.long y2), .second, .val (.long qo), .second, .val (.long qe), .second, .val (.int pk), .val (.int ((pk &&& (2147483647 : Int32)) % (3 : Int32))), .val (.ref u_CONSERVATIVE), .val (.ref b3), .val (.ref b7), .val (.ref b11), .val (.int (0 : Int32))] [(.int (0 : Int32)), (.int (0 : Int32))])
        refine Go.st (fun _ => XS.icmpNo X16.here hx rfl (hb hby at_139) rfl (teq (by decide : (0 : Int32) = (0 : Int32))).2) ?_
        show Go p e below s _ _ _ T16 (mkF m 142 #[.val (.long y1), .second, .val (.long y2), .second, .val (.long qo), .second, .val (.long qe), .second, .val (.int pk), .val (.int ((pk &&& (2147483647 : Int32)) % (3 : Int32))), .val (.ref u_CONSERVATIVE), .val (.ref b3), .val (.ref b7), .val (.ref b11), .val (.int (0 : Int32))] [])
        refine Go.st (fun _ => XS.iconst X16.here hx rfl (hb hby at_142)) ?_
        show Go p e below s _ _ _ T16 (mkF m 143 #[.val (.long y1), .second, .val (.long y2), .second, .val (.long qo), .second, .val (.long qe), .second, .val (.int pk), .val (.int ((pk &&& (2147483647 : Int32)) % (3 : Int32))), .val (.ref u_CONSERVATIVE), .val (.ref b3), .val (.ref b7), .val (.ref b11), .val (.int (0 : Int32))] [(.int (1 : Int32))])
        refine Go.st (fun _ => XS.goto X16.here hx rfl (pc0 := 143) (pc' := 147) rfl (hb hby at_143) (by decide) (by decide)) ?_
        show Go p e below s _ _ _ T16 (mkF m 147 #[.val (.long y1), .second, .val (.long y2), .second, .val (.long qo), .second, .val (.long qe), .second, .val (.int pk), .val (.int ((pk &&& (2147483647 : Int32)) % (3 : Int32))), .val (.ref u_CONSERVATIVE), .val (.ref b3), .val (.ref b7), .val (.ref b11), .val (.int (0 : Int32))] [(.int (1 : Int32))])
        exact Go.retZ X16 hx hlk Bd.returns (hb hby at_147) rfl (by rw [e16]; exact ⟨rfl, N16⟩) (by decide) (by decide)
      · refine Go.st (fun _ => XS.ifNo X13.here hx rfl (hb hby at_120) rfl ((if0 _ _).trans (flt (fun qq => hc15 ((lw_lt y2 (1 : Int64)).mp qq))).1)) ?_
        show Go p e below s _ _ _ T13 (mkF m 123 #[.val (.long y1), .second, .val (.long y2), .second, .val (.long qo), .second, .val (.long qe), .second, .val (.int pk), .val (.int ((pk &&& (2147483647 : Int32)) % (3 : Int32))), .val (.ref u_CONSERVATIVE), .val (.ref b3), .val (.ref b7), .val (.ref b11), .unset] [])
        refine Go.st (fun _ => XS.iconst X13.here hx rfl (hb hby at_123)) ?_
        show Go p e below s _ _ _ T13 (mkF m 124 #[.val (.long y1), .second, .val (.long y2), .second, .val (.long qo), .second, .val (.long qe), .second, .val (.int pk), .val (.int ((pk &&& (2147483647 : Int32)) % (3 : Int32))), .val (.ref u_CONSERVATIVE), .val (.ref b3), .val (.ref b7), .val (.ref b11), .unset] [(.int (1 : Int32))])
        refine Go.st (fun _ => XS.istore X13.here hx rfl (hb hby at_124) rfl (l' := #[.val (.long y1), .second, .val (.long y2), .second, .val (.long qo), .second, .val (.long qe), .second, .val (.int pk), .val (.int ((pk &&& (2147483647 : Int32)) % (3 : Int32))), .val (.ref u_CONSERVATIVE), .val (.ref b3), .val (.ref b7), .val (.ref b11), .val (.int (1 : Int32))]) rfl) ?_
        show Go p e below s _ _ _ T13 (mkF m 126 #[.val (.long y1), .second, .val (.long y2), .second, .val (.long qo), .second, .val (.long qe), .second, .val (.int pk), .val (.int ((pk &&& (2147483647 : Int32)) % (3 : Int32))), .val (.ref u_CONSERVATIVE), .val (.ref b3), .val (.ref b7), .val (.ref b11), .val (.int (1 : Int32))] [])
        refine Go.st (fun _ => XS.goto X13.here hx rfl (pc0 := 126) (pc' := 132) rfl (hb hby at_126) (by decide) (by decide)) ?_
        show Go p e below s _ _ _ T13 (mkF m 132 #[.val (.long y1), .second, .val (.long y2), .second, .val (.long qo), .second, .val (.long qe), .second, .val (.int pk), .val (.int ((pk &&& (2147483647 : Int32)) % (3 : Int32))), .val (.ref u_CONSERVATIVE), .val (.ref b3), .val (.ref b7), .val (.ref b11), .val (.int (1 : Int32))] [])
        refine Go.st (fun _ => XS.aload X13.here hx rfl (hb hby at_132) rfl rfl) ?_
        show Go p e below s _ _ _ T13 (mkF m 134 #[.val (.long y1), .second, .val (.long y2), .second, .val (.long qo), .second, .val (.long qe), .second, .val (.int pk), .val (.int ((pk &&& (2147483647 : Int32)) % (3 : Int32))), .val (.ref u_CONSERVATIVE), .val (.ref b3), .val (.ref b7), .val (.ref b11), .val (.int (1 : Int32))] [(.ref b11)])
        obtain ⟨cq17, kq17, q17a, q17b, q17c⟩ := isOf hZ e13 p13_0
        obtain ⟨_, _, ⟨T17, L17, kc17, nc17⟩, -, X17, ⟨Lc17, hQ17, l17, y17, z17⟩, st17⟩ := X13.virtualBack hx (y := (⟨"com/example/reapd/reapd/TableStats", "expires", "()Z"⟩ : MethodName)) (z := (⟨"com/example/reapd/reapd/TableStats", "expires", "()Z"⟩ : MethodName)) hown (mvT hZ (hw _ (List.mem_of_getElem? (i := 65) rfl))) (mvT hZ (hw _ (List.mem_of_getElem? (i := 66) rfl))) (notFace_of_selects (args := #[]) (mvT hZ (hw _ (List.mem_of_getElem? (i := 68) rfl)))) (mvT hZ (hw _ (List.mem_of_getElem? (i := 68) rfl))) (mvT hZ (hw _ (List.mem_of_getElem? (i := 67) rfl))) (by decide) (backOf (W := 0) (rmEp l Z a0 hw [] b11 y1 y2 h13 n0 z13q p13_1 p13_2) hZ (hw _ (List.mem_of_getElem? (i := 69) rfl)) (hw _ (List.mem_of_getElem? (i := 36) rfl)) (by decide) (by decide)) q17a q17c (g := (mkF m 134 #[.val (.long y1), .second, .val (.long y2), .second, .val (.long qo), .second, .val (.long qe), .second, .val (.int pk), .val (.int ((pk &&& (2147483647 : Int32)) % (3 : Int32))), .val (.ref u_CONSERVATIVE), .val (.ref b3), .val (.ref b7), .val (.ref b11), .val (.int (1 : Int32))] [(.ref b11)])) rfl (by rw [hml]; rfl) (Steps.refl _) (argsL := []) (rest := []) (lenOf pd_7 rfl) rfl (by show 2 * 0 + _ ≤ _; exact Nat.le_of_eq rfl) (hb hby at_134) (fun _ _ => ⟨rfl, e13, (by decide : 4 + 0 ≤ _), (by decide : 15 + 0 ≤ _)⟩)
        dsimp only [Pt.U, Pt.locs, Pt.cells, Pt.slots] at X17 l17 y17 z17 st17 hQ17
        subst l17 y17 z17
        obtain ⟨h17, e17⟩ : ∃ hh, T17.heap = hh := ⟨_, rfl⟩
        rw [e17] at hQ17
        obtain ⟨rfl, N17q, sm17⟩ := hQ17
        have N17 := Fr.app N13 N17q
        refine Go.st (fun _ kk => st17.trans kk) ?_
        rw [sm17] at e17
        show Go p e below s _ _ _ T17 (mkF m 137 #[.val (.long y1), .second, .val (.long y2), .second, .val (.long qo), .second, .val (.long qe), .second, .val (.int pk), .val (.int ((pk &&& (2147483647 : Int32)) % (3 : Int32))), .val (.ref u_CONSERVATIVE), .val (.ref b3), .val (.ref b7), .val (.ref b11), .val (.int (1 : Int32))] [(.int (b2i ((0 : Int64) < y1 ∨ (0 : Int64) < y2)))])
        rw [show (b2i ((0 : Int64) < y1 ∨ (0 : Int64) < y2)) = (1 : Int32) from b2i_pos (Or.inr (own_ge hc15))]
        show Go p e below s _ _ _ T17 (mkF m 137 #[.val (.long y1), .second, .val (.long y2), .second, .val (.long qo), .second, .val (.long qe), .second, .val (.int pk), .val (.int ((pk &&& (2147483647 : Int32)) % (3 : Int32))), .val (.ref u_CONSERVATIVE), .val (.ref b3), .val (.ref b7), .val (.ref b11), .val (.int (1 : Int32))] [(.int (1 : Int32))])
        refine Go.st (fun _ => XS.iload X17.here hx rfl (hb hby at_137) rfl) ?_
        show Go p e below s _ _ _ T17 (mkF m 139 #[.val (.long y1), .second, .val (.long y2), .second, .val (.long qo), .second, .val (.long qe), .second, .val (.int pk), .val (.int ((pk &&& (2147483647 : Int32)) % (3 : Int32))), .val (.ref u_CONSERVATIVE), .val (.ref b3), .val (.ref b7), .val (.ref b11), .val (.int (1 : Int32))] [(.int (1 : Int32)), (.int (1 : Int32))])
        refine Go.st (fun _ => XS.icmpNo X17.here hx rfl (hb hby at_139) rfl (teq (by decide : (1 : Int32) = (1 : Int32))).2) ?_
        show Go p e below s _ _ _ T17 (mkF m 142 #[.val (.long y1), .second, .val (.long y2), .second, .val (.long qo), .second, .val (.long qe), .second, .val (.int pk), .val (.int ((pk &&& (2147483647 : Int32)) % (3 : Int32))), .val (.ref u_CONSERVATIVE), .val (.ref b3), .val (.ref b7), .val (.ref b11), .val (.int (1 : Int32))] [])
        refine Go.st (fun _ => XS.iconst X17.here hx rfl (hb hby at_142)) ?_
        show Go p e below s _ _ _ T17 (mkF m 143 #[.val (.long y1), .second, .val (.long y2), .second, .val (.long qo), .second, .val (.long qe), .second, .val (.int pk), .val (.int ((pk &&& (2147483647 : Int32)) % (3 : Int32))), .val (.ref u_CONSERVATIVE), .val (.ref b3), .val (.ref b7), .val (.ref b11), .val (.int (1 : Int32))] [(.int (1 : Int32))])
        refine Go.st (fun _ => XS.goto X17.here hx rfl (pc0 := 143) (pc' := 147) rfl (hb hby at_143) (by decide) (by decide)) ?_
        show Go p e below s _ _ _ T17 (mkF m 147 #[.val (.long y1), .second, .val (.long y2), .second, .val (.long qo), .second, .val (.long qe), .second, .val (.int pk), .val (.int ((pk &&& (2147483647 : Int32)) % (3 : Int32))), .val (.ref u_CONSERVATIVE), .val (.ref b3), .val (.ref b7), .val (.ref b11), .val (.int (1 : Int32))] [(.int (1 : Int32))])
        exact Go.retZ X17 hx hlk Bd.returns (hb hby at_147) rfl (by rw [e17]; exact ⟨rfl, N17⟩) (by decide) (by decide)
    · refine Go.st (fun _ => XS.ifNo X13.here hx rfl (hb hby at_108) rfl ((if0 _ _).trans (flt (fun qq => hc14 ((lw_lt y1 (1 : Int64)).mp qq))).1)) ?_
      show Go p e below s _ _ _ T13 (mkF m 111 #[.val (.long y1), .second, .val (.long y2), .second, .val (.long qo), .second, .val (.long qe), .second, .val (.int pk), .val (.int ((pk &&& (2147483647 : Int32)) % (3 : Int32))), .val (.ref u_CONSERVATIVE), .val (.ref b3), .val (.ref b7), .val (.ref b11), .unset] [])
      refine Go.st (fun _ => XS.iconst X13.here hx rfl (hb hby at_111)) ?_
      show Go p e below s _ _ _ T13 (mkF m 112 #[.val (.long y1), .second, .val (.long y2), .second, .val (.long qo), .second, .val (.long qe), .second, .val (.int pk), .val (.int ((pk &&& (2147483647 : Int32)) % (3 : Int32))), .val (.ref u_CONSERVATIVE), .val (.ref b3), .val (.ref b7), .val (.ref b11), .unset] [(.int (1 : Int32))])
      refine Go.st (fun _ => XS.istore X13.here hx rfl (hb hby at_112) rfl (l' := #[.val (.long y1), .second, .val (.long y2), .second, .val (.long qo), .second, .val (.long qe), .second, .val (.int pk), .val (.int ((pk &&& (2147483647 : Int32)) % (3 : Int32))), .val (.ref u_CONSERVATIVE), .val (.ref b3), .val (.ref b7), .val (.ref b11), .val (.int (1 : Int32))]) rfl) ?_
      show Go p e below s _ _ _ T13 (mkF m 114 #[.val (.long y1), .second, .val (.long y2), .second, .val (.long qo), .second, .val (.long qe), .second, .val (.int pk), .val (.int ((pk &&& (2147483647 : Int32)) % (3 : Int32))), .val (.ref u_CONSERVATIVE), .val (.ref b3), .val (.ref b7), .val (.ref b11), .val (.int (1 : Int32))] [])
      refine Go.st (fun _ => XS.goto X13.here hx rfl (pc0 := 114) (pc' := 132) rfl (hb hby at_114) (by decide) (by decide)) ?_
      show Go p e below s _ _ _ T13 (mkF m 132 #[.val (.long y1), .second, .val (.long y2), .second, .val (.long qo), .second, .val (.long qe), .second, .val (.int pk), .val (.int ((pk &&& (2147483647 : Int32)) % (3 : Int32))), .val (.ref u_CONSERVATIVE), .val (.ref b3), .val (.ref b7), .val (.ref b11), .val (.int (1 : Int32))] [])
      refine Go.st (fun _ => XS.aload X13.here hx rfl (hb hby at_132) rfl rfl) ?_
      show Go p e below s _ _ _ T13 (mkF m 134 #[.val (.long y1), .second, .val (.long y2), .second, .val (.long qo), .second, .val (.long qe), .second, .val (.int pk), .val (.int ((pk &&& (2147483647 : Int32)) % (3 : Int32))), .val (.ref u_CONSERVATIVE), .val (.ref b3), .val (.ref b7), .val (.ref b11), .val (.int (1 : Int32))] [(.ref b11)])
      obtain ⟨cq18, kq18, q18a, q18b, q18c⟩ := isOf hZ e13 p13_0
      obtain ⟨_, _, ⟨T18, L18, kc18, nc18⟩, -, X18, ⟨Lc18, hQ18, l18, y18, z18⟩, st18⟩ := X13.virtualBack hx (y := (⟨"com/example/reapd/reapd/TableStats", "expires", "()Z"⟩ : MethodName)) (z := (⟨"com/example/reapd/reapd/TableStats", "expires", "()Z"⟩ : MethodName)) hown (mvT hZ (hw _ (List.mem_of_getElem? (i := 65) rfl))) (mvT hZ (hw _ (List.mem_of_getElem? (i := 66) rfl))) (notFace_of_selects (args := #[]) (mvT hZ (hw _ (List.mem_of_getElem? (i := 68) rfl)))) (mvT hZ (hw _ (List.mem_of_getElem? (i := 68) rfl))) (mvT hZ (hw _ (List.mem_of_getElem? (i := 67) rfl))) (by decide) (backOf (W := 0) (rmEp l Z a0 hw [] b11 y1 y2 h13 n0 z13q p13_1 p13_2) hZ (hw _ (List.mem_of_getElem? (i := 69) rfl)) (hw _ (List.mem_of_getElem? (i := 36) rfl)) (by decide) (by decide)) q18a q18c (g := (mkF m 134 #[.val (.long y1), .second, .val (.long y2), .second, .val (.long qo), .second, .val (.long qe), .second, .val (.int pk), .val (.int ((pk &&& (2147483647 : Int32)) % (3 : Int32))), .val (.ref u_CONSERVATIVE), .val (.ref b3), .val (.ref b7), .val (.ref b11), .val (.int (1 : Int32))] [(.ref b11)])) rfl (by rw [hml]; rfl) (Steps.refl _) (argsL := []) (rest := []) (lenOf pd_7 rfl) rfl (by show 2 * 0 + _ ≤ _; exact Nat.le_of_eq rfl) (hb hby at_134) (fun _ _ => ⟨rfl, e13, (by decide : 4 + 0 ≤ _), (by decide : 15 + 0 ≤ _)⟩)
      dsimp only [Pt.U, Pt.locs, Pt.cells, Pt.slots] at X18 l18 y18 z18 st18 hQ18
      subst l18 y18 z18
      obtain ⟨h18, e18⟩ : ∃ hh, T18.heap = hh := ⟨_, rfl⟩
      rw [e18] at hQ18
      obtain ⟨rfl, N18q, sm18⟩ := hQ18
      have N18 := Fr.app N13 N18q
      refine Go.st (fun _ kk => st18.trans kk) ?_
      rw [sm18] at e18
      show Go p e below s _ _ _ T18 (mkF m 137 #[.val (.long y1), .second, .val (.long y2), .second, .val (.long qo), .second, .val (.long qe), .second, .val (.int pk), .val (.int ((pk &&& (2147483647 : Int32)) % (3 : Int32))), .val (.ref u_CONSERVATIVE), .val (.ref b3), .val (.ref b7), .val (.ref b11), .val (.int (1 : Int32))] [(.int (b2i ((0 : Int64) < y1 ∨ (0 : Int64) < y2)))])
      rw [show (b2i ((0 : Int64) < y1 ∨ (0 : Int64) < y2)) = (1 : Int32) from b2i_pos (Or.inl (own_ge hc14))]
      show Go p e below s _ _ _ T18 (mkF m 137 #[.val (.long y1), .second, .val (.long y2), .second, .val (.long qo), .second, .val (.long qe), .second, .val (.int pk), .val (.int ((pk &&& (2147483647 : Int32)) % (3 : Int32))), .val (.ref u_CONSERVATIVE), .val (.ref b3), .val (.ref b7), .val (.ref b11), .val (.int (1 : Int32))] [(.int (1 : Int32))])
      refine Go.st (fun _ => XS.iload X18.here hx rfl (hb hby at_137) rfl) ?_
      show Go p e below s _ _ _ T18 (mkF m 139 #[.val (.long y1), .second, .val (.long y2), .second, .val (.long qo), .second, .val (.long qe), .second, .val (.int pk), .val (.int ((pk &&& (2147483647 : Int32)) % (3 : Int32))), .val (.ref u_CONSERVATIVE), .val (.ref b3), .val (.ref b7), .val (.ref b11), .val (.int (1 : Int32))] [(.int (1 : Int32)), (.int (1 : Int32))])
      refine Go.st (fun _ => XS.icmpNo X18.here hx rfl (hb hby at_139) rfl (teq (by decide : (1 : Int32) = (1 : Int32))).2) ?_
      show Go p e below s _ _ _ T18 (mkF m 142 #[.val (.long y1), .second, .val (.long y2), .second, .val (.long qo), .second, .val (.long qe), .second, .val (.int pk), .val (.int ((pk &&& (2147483647 : Int32)) % (3 : Int32))), .val (.ref u_CONSERVATIVE), .val (.ref b3), .val (.ref b7), .val (.ref b11), .val (.int (1 : Int32))] [])
      refine Go.st (fun _ => XS.iconst X18.here hx rfl (hb hby at_142)) ?_
      show Go p e below s _ _ _ T18 (mkF m 143 #[.val (.long y1), .second, .val (.long y2), .second, .val (.long qo), .second, .val (.long qe), .second, .val (.int pk), .val (.int ((pk &&& (2147483647 : Int32)) % (3 : Int32))), .val (.ref u_CONSERVATIVE), .val (.ref b3), .val (.ref b7), .val (.ref b11), .val (.int (1 : Int32))] [(.int (1 : Int32))])
      refine Go.st (fun _ => XS.goto X18.here hx rfl (pc0 := 143) (pc' := 147) rfl (hb hby at_143) (by decide) (by decide)) ?_
      show Go p e below s _ _ _ T18 (mkF m 147 #[.val (.long y1), .second, .val (.long y2), .second, .val (.long qo), .second, .val (.long qe), .second, .val (.int pk), .val (.int ((pk &&& (2147483647 : Int32)) % (3 : Int32))), .val (.ref u_CONSERVATIVE), .val (.ref b3), .val (.ref b7), .val (.ref b11), .val (.int (1 : Int32))] [(.int (1 : Int32))])
      exact Go.retZ X18 hx hlk Bd.returns (hb hby at_147) rfl (by rw [e18]; exact ⟨rfl, N18⟩) (by decide) (by decide)
  · refine Go.st (fun _ => XS.ifYes X0.here hx rfl (pc0 := 11) (pc' := 22) rfl (hb hby at_11) rfl ((if0 _ _).trans (feq hc1).2) (by decide) (by decide)) ?_
    show Go p e below s _ _ _ s₁ (mkF m 22 #[.val (.long y1), .second, .val (.long y2), .second, .val (.long qo), .second, .val (.long qe), .second, .val (.int pk), .val (.int ((pk &&& (2147483647 : Int32)) % (3 : Int32))), .unset, .unset, .unset, .unset, .unset] [])
    refine Go.st (fun _ => XS.iload X0.here hx rfl (hb hby at_22) rfl) ?_
    show Go p e below s _ _ _ s₁ (mkF m 24 #[.val (.long y1), .second, .val (.long y2), .second, .val (.long qo), .second, .val (.long qe), .second, .val (.int pk), .val (.int ((pk &&& (2147483647 : Int32)) % (3 : Int32))), .unset, .unset, .unset, .unset, .unset] [(.int ((pk &&& (2147483647 : Int32)) % (3 : Int32)))])
    refine Go.st (fun _ => XS.iconst X0.here hx rfl (hb hby at_24)) ?_
    show Go p e below s _ _ _ s₁ (mkF m 25 #[.val (.long y1), .second, .val (.long y2), .second, .val (.long qo), .second, .val (.long qe), .second, .val (.int pk), .val (.int ((pk &&& (2147483647 : Int32)) % (3 : Int32))), .unset, .unset, .unset, .unset, .unset] [(.int (1 : Int32)), (.int ((pk &&& (2147483647 : Int32)) % (3 : Int32)))])
    by_cases hc19 : ((pk &&& (2147483647 : Int32)) % (3 : Int32)) = (1 : Int32)
    · refine Go.st (fun _ => XS.icmpNo X0.here hx rfl (hb hby at_25) rfl (teq hc19).2) ?_
      show Go p e below s _ _ _ s₁ (mkF m 28 #[.val (.long y1), .second, .val (.long y2), .second, .val (.long qo), .second, .val (.long qe), .second, .val (.int pk), .val (.int ((pk &&& (2147483647 : Int32)) % (3 : Int32))), .unset, .unset, .unset, .unset, .unset] [])
      obtain ⟨T20, X20, e20, st20⟩ := getS2 X0 hx hZ hown (host := "") (Or.inl (hw _ (List.mem_of_getElem? (i := 70) rfl))) Via.refl e0 S_THOROUGH (g := (mkF m 28 #[.val (.long y1), .second, .val (.long y2), .second, .val (.long qo), .second, .val (.long qe), .second, .val (.int pk), .val (.int ((pk &&& (2147483647 : Int32)) % (3 : Int32))), .unset, .unset, .unset, .unset, .unset] [])) rfl (hb hby at_28)
      refine Go.st st20 ?_
      show Go p e below s _ _ _ T20 (mkF m 31 #[.val (.long y1), .second, .val (.long y2), .second, .val (.long qo), .second, .val (.long qe), .second, .val (.int pk), .val (.int ((pk &&& (2147483647 : Int32)) % (3 : Int32))), .unset, .unset, .unset, .unset, .unset] [(.ref u_THOROUGH)])
      refine Go.st (fun _ => XS.astore X20.here hx rfl (hb hby at_31) rfl rfl (l' := #[.val (.long y1), .second, .val (.long y2), .second, .val (.long qo), .second, .val (.long qe), .second, .val (.int pk), .val (.int ((pk &&& (2147483647 : Int32)) % (3 : Int32))), .val (.ref u_THOROUGH), .unset, .unset, .unset, .unset]) rfl) ?_
      show Go p e below s _ _ _ T20 (mkF m 33 #[.val (.long y1), .second, .val (.long y2), .second, .val (.long qo), .second, .val (.long qe), .second, .val (.int pk), .val (.int ((pk &&& (2147483647 : Int32)) % (3 : Int32))), .val (.ref u_THOROUGH), .unset, .unset, .unset, .unset] [])
      refine Go.st (fun _ => XS.goto X20.here hx rfl (pc0 := 33) (pc' := 41) rfl (hb hby at_33) (by decide) (by decide)) ?_
      show Go p e below s _ _ _ T20 (mkF m 41 #[.val (.long y1), .second, .val (.long y2), .second, .val (.long qo), .second, .val (.long qe), .second, .val (.int pk), .val (.int ((pk &&& (2147483647 : Int32)) % (3 : Int32))), .val (.ref u_THOROUGH), .unset, .unset, .unset, .unset] [])
      refine Go.st (fun _ => XS.iconst X20.here hx rfl (hb hby at_41)) ?_
      show Go p e below s _ _ _ T20 (mkF m 42 #[.val (.long y1), .second, .val (.long y2), .second, .val (.long qo), .second, .val (.long qe), .second, .val (.int pk), .val (.int ((pk &&& (2147483647 : Int32)) % (3 : Int32))), .val (.ref u_THOROUGH), .unset, .unset, .unset, .unset] [(.int (1 : Int32))])
      obtain ⟨T21, h21, kA21, X21, e21, E21, A21, st21⟩ := newP X20 hx hZ (hw _ (List.mem_of_getElem? (i := 4) rfl)) e20 (g := (mkF m 42 #[.val (.long y1), .second, .val (.long y2), .second, .val (.long qo), .second, .val (.long qe), .second, .val (.int pk), .val (.int ((pk &&& (2147483647 : Int32)) % (3 : Int32))), .val (.ref u_THOROUGH), .unset, .unset, .unset, .unset] [(.int (1 : Int32))])) rfl (hb hby at_42) rfl (by decide) (cap := 1) (by decide) (by decide) (by decide) (by decide)
      obtain ⟨b21, g21⟩ : ∃ z, z = h0.size := ⟨_, rfl⟩
      rw [← g21] at A21 st21
      refine Go.st st21 ?_
      have gg21 : n0 ≤ b21 := Nat.le_trans Z0 (Nat.le_of_eq g21.symm)
      have z21 : n0 ≤ h21.size := Nat.le_trans Z0 E21.1
      have V_b21 : Arv Z h21 b21 kA21 .char (1 : Int32) [(.int (0 : Int32))] (.int (0 : Int32)) := (Arv.new A21 (by decide)).pad (pad_rep [] (.int (0 : Int32)) 1)
      show Go p e below s _ _ _ T21 (mkF m 44 #[.val (.long y1), .second, .val (.long y2), .second, .val (.long qo), .second, .val (.long qe), .second, .val (.int pk), .val (.int ((pk &&& (2147483647 : Int32)) % (3 : Int32))), .val (.ref u_THOROUGH), .unset, .unset, .unset, .unset] [(.ref b21)])
      refine Go.st (fun _ => XS.astore X21.here hx rfl (hb hby at_44) rfl rfl (l' := #[.val (.long y1), .second, .val (.long y2), .second, .val (.long qo), .second, .val (.long qe), .second, .val (.int pk), .val (.int ((pk &&& (2147483647 : Int32)) % (3 : Int32))), .val (.ref u_THOROUGH), .val (.ref b21), .unset, .unset, .unset]) rfl) ?_
      show Go p e below s _ _ _ T21 (mkF m 46 #[.val (.long y1), .second, .val (.long y2), .second, .val (.long qo), .second, .val (.long qe), .second, .val (.int pk), .val (.int ((pk &&& (2147483647 : Int32)) % (3 : Int32))), .val (.ref u_THOROUGH), .val (.ref b21), .unset, .unset, .unset] [])
      refine Go.st (fun _ => XS.aload X21.here hx rfl (hb hby at_46) rfl rfl) ?_
      show Go p e below s _ _ _ T21 (mkF m 48 #[.val (.long y1), .second, .val (.long y2), .second, .val (.long qo), .second, .val (.long qe), .second, .val (.int pk), .val (.int ((pk &&& (2147483647 : Int32)) % (3 : Int32))), .val (.ref u_THOROUGH), .val (.ref b21), .unset, .unset, .unset] [(.ref b21)])
      refine Go.st (fun _ => XS.iconst X21.here hx rfl (hb hby at_48)) ?_
      show Go p e below s _ _ _ T21 (mkF m 49 #[.val (.long y1), .second, .val (.long y2), .second, .val (.long qo), .second, .val (.long qe), .second, .val (.int pk), .val (.int ((pk &&& (2147483647 : Int32)) % (3 : Int32))), .val (.ref u_THOROUGH), .val (.ref b21), .unset, .unset, .unset] [(.int (0 : Int32)), (.ref b21)])
      refine Go.st (fun _ => XS.iload X21.here hx rfl (hb hby at_49) rfl) ?_
      show Go p e below s _ _ _ T21 (mkF m 51 #[.val (.long y1), .second, .val (.long y2), .second, .val (.long qo), .second, .val (.long qe), .second, .val (.int pk), .val (.int ((pk &&& (2147483647 : Int32)) % (3 : Int32))), .val (.ref u_THOROUGH), .val (.ref b21), .unset, .unset, .unset] [(.int pk), (.int (0 : Int32)), (.ref b21)])
      refine Go.st (fun _ => XS.bipush X21.here hx rfl (hb hby at_51)) ?_
      show Go p e below s _ _ _ T21 (mkF m 53 #[.val (.long y1), .second, .val (.long y2), .second, .val (.long qo), .second, .val (.long qe), .second, .val (.int pk), .val (.int ((pk &&& (2147483647 : Int32)) % (3 : Int32))), .val (.ref u_THOROUGH), .val (.ref b21), .unset, .unset, .unset] [(.int (8 : Int32)), (.int pk), (.int (0 : Int32)), (.ref b21)])
      refine Go.st (fun _ => XS.iushr X21.here hx rfl (hb hby at_53) rfl) ?_
      show Go p e below s _ _ _ T21 (mkF m 54 #[.val (.long y1), .second, .val (.long y2), .second, .val (.long qo), .second, .val (.long qe), .second, .val (.int pk), .val (.int ((pk &&& (2147483647 : Int32)) % (3 : Int32))), .val (.ref u_THOROUGH), .val (.ref b21), .unset, .unset, .unset] [(.int ((pk.toUInt32 >>> ((8 : Int32) &&& 31).toUInt32).toInt32)), (.int (0 : Int32)), (.ref b21)])
      refine Go.st (fun _ => XS.sipush X21.here hx rfl (hb hby at_54)) ?_
      show Go p e below s _ _ _ T21 (mkF m 57 #[.val (.long y1), .second, .val (.long y2), .second, .val (.long qo), .second, .val (.long qe), .second, .val (.int pk), .val (.int ((pk &&& (2147483647 : Int32)) % (3 : Int32))), .val (.ref u_THOROUGH), .val (.ref b21), .unset, .unset, .unset] [(.int (255 : Int32)), (.int ((pk.toUInt32 >>> ((8 : Int32) &&& 31).toUInt32).toInt32)), (.int (0 : Int32)), (.ref b21)])
      refine Go.st (fun _ => XS.iand X21.here hx rfl (hb hby at_57) rfl) ?_
      show Go p e below s _ _ _ T21 (mkF m 58 #[.val (.long y1), .second, .val (.long y2), .second, .val (.long qo), .second, .val (.long qe), .second, .val (.int pk), .val (.int ((pk &&& (2147483647 : Int32)) % (3 : Int32))), .val (.ref u_THOROUGH), .val (.ref b21), .unset, .unset, .unset] [(.int (((pk.toUInt32 >>> ((8 : Int32) &&& 31).toUInt32).toInt32) &&& (255 : Int32))), (.int (0 : Int32)), (.ref b21)])
      refine Go.st (fun _ => XS.i2c X21.here hx rfl (hb hby at_58) rfl) ?_
      show Go p e below s _ _ _ T21 (mkF m 59 #[.val (.long y1), .second, .val (.long y2), .second, .val (.long qo), .second, .val (.long qe), .second, .val (.int pk), .val (.int ((pk &&& (2147483647 : Int32)) % (3 : Int32))), .val (.ref u_THOROUGH), .val (.ref b21), .unset, .unset, .unset] [(.int ((((pk.toUInt32 >>> ((8 : Int32) &&& 31).toUInt32).toInt32) &&& (255 : Int32)).toUInt32.toUInt16.toUInt32.toInt32)), (.int (0 : Int32)), (.ref b21)])
      obtain ⟨ch22, hch22⟩ : ∃ z, z = ((((pk.toUInt32 >>> ((8 : Int32) &&& 31).toUInt32).toInt32) &&& (255 : Int32)).toUInt32.toUInt16.toUInt32.toInt32) := ⟨_, rfl⟩
      rw [← hch22]
      show Go p e below s _ _ _ T21 (mkF m 59 #[.val (.long y1), .second, .val (.long y2), .second, .val (.long qo), .second, .val (.long qe), .second, .val (.int pk), .val (.int ((pk &&& (2147483647 : Int32)) % (3 : Int32))), .val (.ref u_THOROUGH), .val (.ref b21), .unset, .unset, .unset] [(.int ch22), (.int (0 : Int32)), (.ref b21)])
      have hcn : nar .char ch22 = ch22 := by rw [hch22]; exact own_nc _
      have hk23 : ¬ ((255 : Int32) < ch22) := by rw [hch22]; exact own_c255 _
      obtain ⟨cl24, Ar24, q24, S24, M24, H24, G24⟩ := id V_b21
      have hin24 : ¬ ((0 : Int32) < 0 ∨ cl24.slots.size ≤ ((0 : Int32)).toNatClampNeg) := inb_of S24 ⟨by decide, by decide⟩
      obtain ⟨T24, h24, X24, e24, W24, st24⟩ := stC X21 hx hZ e21 Ar24 (j := (0 : Int32)) hin24 (g := (mkF m 59 #[.val (.long y1), .second, .val (.long y2), .second, .val (.long qo), .second, .val (.long qe), .second, .val (.int pk), .val (.int ((pk &&& (2147483647 : Int32)) % (3 : Int32))), .val (.ref u_THOROUGH), .val (.ref b21), .unset, .unset, .unset] [(.int ch22), (.int (0 : Int32)), (.ref b21)])) rfl rfl (hb hby at_59)
      refine Go.st st24 ?_
      rw [hcn] at W24
      have V24 : Arv Z h24 b21 kA21 .char (1 : Int32) [(.int ch22)] (.int (0 : Int32)) := Arv.set Ar24 q24 S24 M24 H24 G24 (by rw [← hcn]; exact fits_nar_char _) W24 0 rfl (Nat.le_of_ble_eq_true rfl)
      have N24 := Fr.snoc X24 N0 gg21
      have z24 : n0 ≤ h24.size := Nat.le_trans z21 (Nat.le_of_eq W24.size.symm)
      show Go p e below s _ _ _ T24 (mkF m 60 #[.val (.long y1), .second, .val (.long y2), .second, .val (.long qo), .second, .val (.long qe), .second, .val (.int pk), .val (.int ((pk &&& (2147483647 : Int32)) % (3 : Int32))), .val (.ref u_THOROUGH), .val (.ref b21), .unset, .unset, .unset] [])
      obtain ⟨T25, h25, X25, e25, E25, A25, D25, -, st25⟩ := newO X24 hx hZ hown (hw _ (List.mem_of_getElem? (i := 5) rfl)) (hw _ (List.mem_of_getElem? (i := 6) rfl)) (hw _ (List.mem_of_getElem? (i := 7) rfl)) e24 (g := (mkF m 60 #[.val (.long y1), .second, .val (.long y2), .second, .val (.long qo), .second, .val (.long qe), .second, .val (.int pk), .val (.int ((pk &&& (2147483647 : Int32)) % (3 : Int32))), .val (.ref u_THOROUGH), .val (.ref b21), .unset, .unset, .unset] [])) rfl (hb hby at_60) (by decide) (by decide)
      obtain ⟨b25, g25⟩ : ∃ z, z = h24.size := ⟨_, rfl⟩
      rw [← g25] at A25 D25 st25
      refine Go.st st25 ?_
      have ne_b21_b25 : b21 ≠ b25 := Nat.ne_of_lt (Nat.lt_of_lt_of_eq V24.lt g25.symm)
      have gg25 : n0 ≤ b25 := Nat.le_trans z24 (Nat.le_of_eq g25.symm)
      have z25 : n0 ≤ h25.size := Nat.le_trans z24 E25.1
      have F_coder_b25 : Fld Z h25 b25 "java/lang/String" "coder" "B" (.int (0 : Int32)) := D25 (Or.inr (hw _ (List.mem_of_getElem? (i := 31) rfl))) (ty := .byte) (by decide)
      have F_value_b25 : Fld Z h25 b25 "java/lang/String" "value" "[B" .null := D25 (Or.inr (hw _ (List.mem_of_getElem? (i := 33) rfl))) (ty := (.array .byte)) (by decide)
      show Go p e below s _ _ _ T25 (mkF m 63 #[.val (.long y1), .second, .val (.long y2), .second, .val (.long qo), .second, .val (.long qe), .second, .val (.int pk), .val (.int ((pk &&& (2147483647 : Int32)) % (3 : Int32))), .val (.ref u_THOROUGH), .val (.ref b21), .unset, .unset, .unset] [(.ref b25)])
      refine Go.st (fun _ => XS.dup X25.here hx rfl (hb hby at_63) rfl rfl) ?_
      show Go p e below s _ _ _ T25 (mkF m 64 #[.val (.long y1), .second, .val (.long y2), .second, .val (.long qo), .second, .val (.long qe), .second, .val (.int pk), .val (.int ((pk &&& (2147483647 : Int32)) % (3 : Int32))), .val (.ref u_THOROUGH), .val (.ref b21), .unset, .unset, .unset] [(.ref b25), (.ref b25)])
      refine Go.st (fun _ => XS.aload X25.here hx rfl (hb hby at_64) rfl rfl) ?_
      show Go p e below s _ _ _ T25 (mkF m 66 #[.val (.long y1), .second, .val (.long y2), .second, .val (.long qo), .second, .val (.long qe), .second, .val (.int pk), .val (.int ((pk &&& (2147483647 : Int32)) % (3 : Int32))), .val (.ref u_THOROUGH), .val (.ref b21), .unset, .unset, .unset] [(.ref b21), (.ref b25), (.ref b25)])
      have f27 := (V24.ext E25)
      have f28 := (((S_COMPACT_STRINGS.ext E21).wr W24).ext E25)
      obtain ⟨_, _, ⟨T26, L26, kc26, nc26⟩, -, X26, ⟨Lc26, hQ26, l26, y26, z26⟩, st26⟩ := X25.specialBack hx (y := (⟨"java/lang/String", "<init>", "([C)V"⟩ : MethodName)) rfl hown (mvT hZ (hw _ (List.mem_of_getElem? (i := 8) rfl))) (mvT hZ (hw _ (List.mem_of_getElem? (i := 9) rfl))) (mvT hZ (hw _ (List.mem_of_getElem? (i := 10) rfl))) (by decide) (backOf (W := 1) (rmI1 l Z a0 hw [] b25 b21 kA21 ch22 cs h25 n0 z25 A25 F_value_b25 F_coder_b25 f27 f28 hcs hk23 gg25) hZ (hw _ (List.mem_of_getElem? (i := 10) rfl)) (hw _ (List.mem_of_getElem? (i := 7) rfl)) (by decide) (by decide)) (g := (mkF m 66 #[.val (.long y1), .second, .val (.long y2), .second, .val (.long qo), .second, .val (.long qe), .second, .val (.int pk), .val (.int ((pk &&& (2147483647 : Int32)) % (3 : Int32))), .val (.ref u_THOROUGH), .val (.ref b21), .unset, .unset, .unset] [(.ref b21), (.ref b25), (.ref b25)])) rfl (by rw [hml]; rfl) (Steps.refl _) (a := b25) (argsL := [(.ref b21)]) (rest := [(.ref b25)]) (lenOf pd_5 rfl) rfl (by show 2 * 0 + _ ≤ _; exact Nat.le_of_eq rfl) (hb hby at_66) (fun _ _ => ⟨rfl, e25, (by decide : 2 + 1 ≤ _), (by decide : 5 + 1 ≤ _)⟩)
      dsimp only [Pt.U, Pt.locs, Pt.cells, Pt.slots] at X26 l26 y26 z26 st26 hQ26
      subst l26 y26 z26
      obtain ⟨h26, e26⟩ : ∃ hh, T26.heap = hh := ⟨_, rfl⟩
      rw [e26] at hQ26
      obtain ⟨rfl, N26q, K26, p26_0⟩ := hQ26
      have N26 := Fr.app N24 N26q
      refine Go.st (fun _ kk => st26.trans kk) ?_
      have z26q : n0 ≤ h26.size := Nat.le_trans z25 K26.1
      have ns26 : ∀ x ∈ ([b25] : List Addr), ∀ cell : Cell, h25[x]? = some cell → cell.vm.isStatics = false := (allS A25.nostat all0)
      show Go p e below s _ _ _ T26 (mkF m 69 #[.val (.long y1), .second, .val (.long y2), .second, .val (.long qo), .second, .val (.long qe), .second, .val (.int pk), .val (.int ((pk &&& (2147483647 : Int32)) % (3 : Int32))), .val (.ref u_THOROUGH), .val (.ref b21), .unset, .unset, .unset] [(.ref b25)])
      refine Go.st (fun _ => XS.astore X26.here hx rfl (hb hby at_69) rfl rfl (l' := #[.val (.long y1), .second, .val (.long y2), .second, .val (.long qo), .second, .val (.long qe), .second, .val (.int pk), .val (.int ((pk &&& (2147483647 : Int32)) % (3 : Int32))), .val (.ref u_THOROUGH), .val (.ref b21), .val (.ref b25), .unset, .unset]) rfl) ?_
      show Go p e below s _ _ _ T26 (mkF m 71 #[.val (.long y1), .second, .val (.long y2), .second, .val (.long qo), .second, .val (.long qe), .second, .val (.int pk), .val (.int ((pk &&& (2147483647 : Int32)) % (3 : Int32))), .val (.ref u_THOROUGH), .val (.ref b21), .val (.ref b25), .unset, .unset] [])
      obtain ⟨T29, h29, X29, e29, E29, A29, D29, -, st29⟩ := newO X26 hx hZ hown (hw _ (List.mem_of_getElem? (i := 34) rfl)) (hw _ (List.mem_of_getElem? (i := 35) rfl)) (hw _ (List.mem_of_getElem? (i := 36) rfl)) e26 (g := (mkF m 71 #[.val (.long y1), .second, .val (.long y2), .second, .val (.long qo), .second, .val (.long qe), .second, .val (.int pk), .val (.int ((pk &&& (2147483647 : Int32)) % (3 : Int32))), .val (.ref u_THOROUGH), .val (.ref b21), .val (.ref b25), .unset, .unset] [])) rfl (hb hby at_71) (by decide) (by decide)
      obtain ⟨b29, g29⟩ : ∃ z, z = h26.size := ⟨_, rfl⟩
      rw [← g29] at A29 D29 st29
      refine Go.st st29 ?_
      have f30 := (f27.keep K26 (ninS ne_b21_b25 nin0))
      have ne_b21_b29 : b21 ≠ b29 := Nat.ne_of_lt (Nat.lt_of_lt_of_eq f30.lt g29.symm)
      have ne_b25_b29 : b25 ≠ b29 := Nat.ne_of_lt (Nat.lt_of_lt_of_eq p26_0.lt g29.symm)
      have gg29 : n0 ≤ b29 := Nat.le_trans z26q (Nat.le_of_eq g29.symm)
      have z29 : n0 ≤ h29.size := Nat.le_trans z26q E29.1
      have F_name_b29 : Fld Z h29 b29 "com/example/reapd/reapd/TableStats" "name" "Ljava/lang/String;" .null := D29 (Or.inr (hw _ (List.mem_of_getElem? (i := 48) rfl))) (ty := (.object "java/lang/String")) (by decide)
      have F_strategy_b29 : Fld Z h29 b29 "com/example/reapd/reapd/TableStats" "strategy" "Lcom/example/reapd/reapd/SweepStrategy;" .null := D29 (Or.inr (hw _ (List.mem_of_getElem? (i := 50) rfl))) (ty := (.object "com/example/reapd/reapd/SweepStrategy")) (by decide)
      have F_keys_b29 : Fld Z h29 b29 "com/example/reapd/reapd/TableStats" "keys" "J" (.long (0 : Int64)) := D29 (Or.inr (hw _ (List.mem_of_getElem? (i := 52) rfl))) (ty := .long) (by decide)
      have F_versions_b29 : Fld Z h29 b29 "com/example/reapd/reapd/TableStats" "versions" "J" (.long (0 : Int64)) := D29 (Or.inr (hw _ (List.mem_of_getElem? (i := 54) rfl))) (ty := .long) (by decide)
      have F_tombstones_b29 : Fld Z h29 b29 "com/example/reapd/reapd/TableStats" "tombstones" "J" (.long (0 : Int64)) := D29 (Or.inr (hw _ (List.mem_of_getElem? (i := 56) rfl))) (ty := .long) (by decide)
      have F_sentinels_b29 : Fld Z h29 b29 "com/example/reapd/reapd/TableStats" "sentinels" "J" (.long (0 : Int64)) := D29 (Or.inr (hw _ (List.mem_of_getElem? (i := 58) rfl))) (ty := .long) (by decide)
      have F_expirySeconds_b29 : Fld Z h29 b29 "com/example/reapd/reapd/TableStats" "expirySeconds" "J" (.long (0 : Int64)) := D29 (Or.inr (hw _ (List.mem_of_getElem? (i := 60) rfl))) (ty := .long) (by decide)
      have F_expiring_b29 : Fld Z h29 b29 "com/example/reapd/reapd/TableStats" "expiring" "J" (.long (0 : Int64)) := D29 (Or.inr (hw _ (List.mem_of_getElem? (i := 62) rfl))) (ty := .long) (by decide)
      have F_expired_b29 : Fld Z h29 b29 "com/example/reapd/reapd/TableStats" "expired" "J" (.long (0 : Int64)) := D29 (Or.inr (hw _ (List.mem_of_getElem? (i := 64) rfl))) (ty := .long) (by decide)
      show Go p e below s _ _ _ T29 (mkF m 74 #[.val (.long y1), .second, .val (.long y2), .second, .val (.long qo), .second, .val (.long qe), .second, .val (.int pk), .val (.int ((pk &&& (2147483647 : Int32)) % (3 : Int32))), .val (.ref u_THOROUGH), .val (.ref b21), .val (.ref b25), .unset, .unset] [(.ref b29)])
      refine Go.st (fun _ => XS.dup X29.here hx rfl (hb hby at_74) rfl rfl) ?_
      show Go p e below s _ _ _ T29 (mkF m 75 #[.val (.long y1), .second, .val (.long y2), .second, .val (.long qo), .second, .val (.long qe), .second, .val (.int pk), .val (.int ((pk &&& (2147483647 : Int32)) % (3 : Int32))), .val (.ref u_THOROUGH), .val (.ref b21), .val (.ref b25), .unset, .unset] [(.ref b29), (.ref b29)])
      refine Go.st (fun _ => XS.aload X29.here hx rfl (hb hby at_75) rfl rfl) ?_
      show Go p e below s _ _ _ T29 (mkF m 77 #[.val (.long y1), .second, .val (.long y2), .second, .val (.long qo), .second, .val (.long qe), .second, .val (.int pk), .val (.int ((pk &&& (2147483647 : Int32)) % (3 : Int32))), .val (.ref u_THOROUGH), .val (.ref b21), .val (.ref b25), .unset, .unset] [(.ref b25), (.ref b29), (.ref b29)])
      refine Go.st (fun _ => XS.aload X29.here hx rfl (hb hby at_77) rfl rfl) ?_
      show Go p e below s _ _ _ T29 (mkF m 79 #[.val (.long y1), .second, .val (.long y2), .second, .val (.long qo), .second, .val (.long qe), .second, .val (.int pk), .val (.int ((pk &&& (2147483647 : Int32)) % (3 : Int32))), .val (.ref u_THOROUGH), .val (.ref b21), .val (.ref b25), .unset, .unset] [(.ref u_THOROUGH), (.ref b25), (.ref b29), (.ref b29)])
      refine Go.st (fun _ => XS.lload X29.here hx rfl (hb hby at_79) rfl) ?_
      show Go p e below s _ _ _ T29 (mkF m 81 #[.val (.long y1), .second, .val (.long y2), .second, .val (.long qo), .second, .val (.long qe), .second, .val (.int pk), .val (.int ((pk &&& (2147483647 : Int32)) % (3 : Int32))), .val (.ref u_THOROUGH), .val (.ref b21), .val (.ref b25), .unset, .unset] [(.long qo), (.ref u_THOROUGH), (.ref b25), (.ref b29), (.ref b29)])
      refine Go.st (fun _ => XS.lload X29.here hx rfl (hb hby at_81) rfl) ?_
      show Go p e below s _ _ _ T29 (mkF m 83 #[.val (.long y1), .second, .val (.long y2), .second, .val (.long qo), .second, .val (.long qe), .second, .val (.int pk), .val (.int ((pk &&& (2147483647 : Int32)) % (3 : Int32))), .val (.ref u_THOROUGH), .val (.ref b21), .val (.ref b25), .unset, .unset] [(.long qo), (.long qo), (.ref u_THOROUGH), (.ref b25), (.ref b29), (.ref b29)])
      refine Go.st (fun tG => X29.ldc2Long hx hown (mvT hZ (hw _ (List.mem_of_getElem? (i := 37) rfl))) (g := (mkF m 83 #[.val (.long y1), .second, .val (.long y2), .second, .val (.long qo), .second, .val (.long qe), .second, .val (.int pk), .val (.int ((pk &&& (2147483647 : Int32)) % (3 : Int32))), .val (.ref u_THOROUGH), .val (.ref b21), .val (.ref b25), .unset, .unset] [(.long qo), (.long qo), (.ref u_THOROUGH), (.ref b25), (.ref b29), (.ref b29)])) rfl (hb hby at_83) tG) ?_
      show Go p e below s _ _ _ T29 (mkF m 86 #[.val (.long y1), .second, .val (.long y2), .second, .val (.long qo), .second, .val (.long qe), .second, .val (.int pk), .val (.int ((pk &&& (2147483647 : Int32)) % (3 : Int32))), .val (.ref u_THOROUGH), .val (.ref b21), .val (.ref b25), .unset, .unset] [(.long (-1 : Int64)), (.long qo), (.long qo), (.ref u_THOROUGH), (.ref b25), (.ref b29), (.ref b29)])
      refine Go.st (fun _ => XS.lxor X29.here hx rfl (hb hby at_86) rfl) ?_
      show Go p e below s _ _ _ T29 (mkF m 87 #[.val (.long y1), .second, .val (.long y2), .second, .val (.long qo), .second, .val (.long qe), .second, .val (.int pk), .val (.int ((pk &&& (2147483647 : Int32)) % (3 : Int32))), .val (.ref u_THOROUGH), .val (.ref b21), .val (.ref b25), .unset, .unset] [(.long (qo ^^^ (-1 : Int64))), (.long qo), (.ref u_THOROUGH), (.ref b25), (.ref b29), (.ref b29)])
      refine Go.st (fun _ => XS.lload X29.here hx rfl (hb hby at_87) rfl) ?_
      show Go p e below s _ _ _ T29 (mkF m 89 #[.val (.long y1), .second, .val (.long y2), .second, .val (.long qo), .second, .val (.long qe), .second, .val (.int pk), .val (.int ((pk &&& (2147483647 : Int32)) % (3 : Int32))), .val (.ref u_THOROUGH), .val (.ref b21), .val (.ref b25), .unset, .unset] [(.long qo), (.long (qo ^^^ (-1 : Int64))), (.long qo), (.ref u_THOROUGH), (.ref b25), (.ref b29), (.ref b29)])
      refine Go.st (fun _ => XS.iconst X29.here hx rfl (hb hby at_89)) ?_
      show Go p e below s _ _ _ T29 (mkF m 90 #[.val (.long y1), .second, .val (.long y2), .second, .val (.long qo), .second, .val (.long qe), .second, .val (.int pk), .val (.int ((pk &&& (2147483647 : Int32)) % (3 : Int32))), .val (.ref u_THOROUGH), .val (.ref b21), .val (.ref b25), .unset, .unset] [(.int (1 : Int32)), (.long qo), (.long (qo ^^^ (-1 : Int64))), (.long qo), (.ref u_THOROUGH), (.ref b25), (.ref b29), (.ref b29)])
      refine Go.st (fun _ => XS.lushr X29.here hx rfl (hb hby at_90) rfl) ?_
      show Go p e below s _ _ _ T29 (mkF m 91 #[.val (.long y1), .second, .val (.long y2), .second, .val (.long qo), .second, .val (.long qe), .second, .val (.int pk), .val (.int ((pk &&& (2147483647 : Int32)) % (3 : Int32))), .val (.ref u_THOROUGH), .val (.ref b21), .val (.ref b25), .unset, .unset] [(.long ((qo.toUInt64 >>> ((1 : Int32) &&& 0x3f).toInt64.toUInt64).toInt64)), (.long (qo ^^^ (-1 : Int64))), (.long qo), (.ref u_THOROUGH), (.ref b25), (.ref b29), (.ref b29)])
      refine Go.st (fun _ => XS.lload X29.here hx rfl (hb hby at_91) rfl) ?_
      show Go p e below s _ _ _ T29 (mkF m 93 #[.val (.long y1), .second, .val (.long y2), .second, .val (.long qo), .second, .val (.long qe), .second, .val (.int pk), .val (.int ((pk &&& (2147483647 : Int32)) % (3 : Int32))), .val (.ref u_THOROUGH), .val (.ref b21), .val (.ref b25), .unset, .unset] [(.long qo), (.long ((qo.toUInt64 >>> ((1 : Int32) &&& 0x3f).toInt64.toUInt64).toInt64)), (.long (qo ^^^ (-1 : Int64))), (.long qo), (.ref u_THOROUGH), (.ref b25), (.ref b29), (.ref b29)])
      refine Go.st (fun _ => XS.lload X29.here hx rfl (hb hby at_93) rfl) ?_
      show Go p e below s _ _ _ T29 (mkF m 95 #[.val (.long y1), .second, .val (.long y2), .second, .val (.long qo), .second, .val (.long qe), .second, .val (.int pk), .val (.int ((pk &&& (2147483647 : Int32)) % (3 : Int32))), .val (.ref u_THOROUGH), .val (.ref b21), .val (.ref b25), .unset, .unset] [(.long qe), (.long qo), (.long ((qo.toUInt64 >>> ((1 : Int32) &&& 0x3f).toInt64.toUInt64).toInt64)), (.long (qo ^^^ (-1 : Int64))), (.long qo), (.ref u_THOROUGH), (.ref b25), (.ref b29), (.ref b29)])
      refine Go.st (fun _ => XS.lxor X29.here hx rfl (hb hby at_95) rfl) ?_
      show Go p e below s _ _ _ T29 (mkF m 96 #[.val (.long y1), .second, .val (.long y2), .second, .val (.long qo), .second, .val (.long qe), .second, .val (.int pk), .val (.int ((pk &&& (2147483647 : Int32)) % (3 : Int32))), .val (.ref u_THOROUGH), .val (.ref b21), .val (.ref b25), .unset, .unset] [(.long (qo ^^^ qe)), (.long ((qo.toUInt64 >>> ((1 : Int32) &&& 0x3f).toInt64.toUInt64).toInt64)), (.long (qo ^^^ (-1 : Int64))), (.long qo), (.ref u_THOROUGH), (.ref b25), (.ref b29), (.ref b29)])
      refine Go.st (fun _ => XS.lloadN X29.here hx rfl (hb hby at_96) rfl) ?_
      show Go p e below s _ _ _ T29 (mkF m 97 #[.val (.long y1), .second, .val (.long y2), .second, .val (.long qo), .second, .val (.long qe), .second, .val (.int pk), .val (.int ((pk &&& (2147483647 : Int32)) % (3 : Int32))), .val (.ref u_THOROUGH), .val (.ref b21), .val (.ref b25), .unset, .unset] [(.long y1), (.long (qo ^^^ qe)), (.long ((qo.toUInt64 >>> ((1 : Int32) &&& 0x3f).toInt64.toUInt64).toInt64)), (.long (qo ^^^ (-1 : Int64))), (.long qo), (.ref u_THOROUGH), (.ref b25), (.ref b29), (.ref b29)])
      refine Go.st (fun _ => XS.lloadN X29.here hx rfl (hb hby at_97) rfl) ?_
      show Go p e below s _ _ _ T29 (mkF m 98 #[.val (.long y1), .second, .val (.long y2), .second, .val (.long qo), .second, .val (.long qe), .second, .val (.int pk), .val (.int ((pk &&& (2147483647 : Int32)) % (3 : Int32))), .val (.ref u_THOROUGH), .val (.ref b21), .val (.ref b25), .unset, .unset] [(.long y2), (.long y1), (.long (qo ^^^ qe)), (.long ((qo.toUInt64 >>> ((1 : Int32) &&& 0x3f).toInt64.toUInt64).toInt64)), (.long (qo ^^^ (-1 : Int64))), (.long qo), (.ref u_THOROUGH), (.ref b25), (.ref b29), (.ref b29)])
      refine Go.st (fun _ => XS.lload X29.here hx rfl (hb hby at_98) rfl) ?_
      show Go p e below s _ _ _ T29 (mkF m 100 #[.val (.long y1), .second, .val (.long y2), .second, .val (.long qo), .second, .val (.long qe), .second, .val (.int pk), .val (.int ((pk &&& (2147483647 : Int32)) % (3 : Int32))), .val (.ref u_THOROUGH), .val (.ref b21), .val (.ref b25), .unset, .unset] [(.long qe), (.long y2), (.long y1), (.long (qo ^^^ qe)), (.long ((qo.toUInt64 >>> ((1 : Int32) &&& 0x3f).toInt64.toUInt64).toInt64)), (.long (qo ^^^ (-1 : Int64))), (.long qo), (.ref u_THOROUGH), (.ref b25), (.ref b29), (.ref b29)])
      obtain ⟨_, _, ⟨T31, L31, kc31, nc31⟩, -, X31, ⟨Lc31, hQ31, l31, y31, z31⟩, st31⟩ := X29.specialBack hx (y := (⟨"com/example/reapd/reapd/TableStats", "<init>", "(Ljava/lang/String;Lcom/example/reapd/reapd/SweepStrategy;JJJJJJJ)V"⟩ : MethodName)) rfl hown (mvT hZ (hw _ (List.mem_of_getElem? (i := 38) rfl))) (mvT hZ (hw _ (List.mem_of_getElem? (i := 39) rfl))) (mvT hZ (hw _ (List.mem_of_getElem? (i := 40) rfl))) (by decide) (backOf (W := 1) (rmTi l Z a0 hw [] b29 b25 u_THOROUGH qo (qo ^^^ (-1 : Int64)) ((qo.toUInt64 >>> ((1 : Int32) &&& 0x3f).toInt64.toUInt64).toInt64) (qo ^^^ qe) y1 y2 qe h29 n0 z29 A29 F_name_b29 F_strategy_b29 F_keys_b29 F_versions_b29 F_tombstones_b29 F_sentinels_b29 F_expirySeconds_b29 F_expiring_b29 F_expired_b29 gg29) hZ (hw _ (List.mem_of_getElem? (i := 40) rfl)) (hw _ (List.mem_of_getElem? (i := 36) rfl)) (by decide) (by decide)) (g := (mkF m 100 #[.val (.long y1), .second, .val (.long y2), .second, .val (.long qo), .second, .val (.long qe), .second, .val (.int pk), .val (.int ((pk &&& (2147483647 : Int32)) % (3 : Int32))), .val (.ref u_THOROUGH), .val (.ref b21), .val (.ref b25), .unset, .unset] [(.long qe), (.long y2), (.long y1), (.long (qo ^^^ qe)), (.long ((qo.toUInt64 >>> ((1 : Int32) &&& 0x3f).toInt64.toUInt64).toInt64)), (.long (qo ^^^ (-1 : Int64))), (.long qo), (.ref u_THOROUGH), (.ref b25), (.ref b29), (.ref b29)])) rfl (by rw [hml]; rfl) (Steps.refl _) (a := b29) (argsL := [(.ref b25), (.ref u_THOROUGH), (.long qo), (.long (qo ^^^ (-1 : Int64))), (.long ((qo.toUInt64 >>> ((1 : Int32) &&& 0x3f).toInt64.toUInt64).toInt64)), (.long (qo ^^^ qe)), (.long y1), (.long y2), (.long qe)]) (rest := [(.ref b29)]) (lenOf pd_6 rfl) rfl (by show 2 * 0 + _ ≤ _; exact Nat.le_of_eq rfl) (hb hby at_100) (fun _ _ => ⟨rfl, e29, (by decide : 4 + 0 ≤ _), (by decide : 15 + 0 ≤ _)⟩)
      dsimp only [Pt.U, Pt.locs, Pt.cells, Pt.slots] at X31 l31 y31 z31 st31 hQ31
      subst l31 y31 z31
      obtain ⟨h31, e31⟩ : ∃ hh, T31.heap = hh := ⟨_, rfl⟩
      rw [e31] at hQ31
      obtain ⟨rfl, N31q, K31, p31_0, p31_1, p31_2⟩ := hQ31
      have N31 := Fr.app N26 N31q
      refine Go.st (fun _ kk => st31.trans kk) ?_
      have z31q : n0 ≤ h31.size := Nat.le_trans z29 K31.1
      have ns31 : ∀ x ∈ ([b29] : List Addr), ∀ cell : Cell, h29[x]? = some cell → cell.vm.isStatics = false := (allS A29.nostat all0)
      show Go p e below s _ _ _ T31 (mkF m 103 #[.val (.long y1), .second, .val (.long y2), .second, .val (.long qo), .second, .val (.long qe), .second, .val (.int pk), .val (.int ((pk &&& (2147483647 : Int32)) % (3 : Int32))), .val (.ref u_THOROUGH), .val (.ref b21), .val (.ref b25), .unset, .unset] [(.ref b29)])
      refine Go.st (fun _ => XS.astore X31.here hx rfl (hb hby at_103) rfl rfl (l' := #[.val (.long y1), .second, .val (.long y2), .second, .val (.long qo), .second, .val (.long qe), .second, .val (.int pk), .val (.int ((pk &&& (2147483647 : Int32)) % (3 : Int32))), .val (.ref u_THOROUGH), .val (.ref b21), .val (.ref b25), .val (.ref b29), .unset]) rfl) ?_
      show Go p e below s _ _ _ T31 (mkF m 105 #[.val (.long y1), .second, .val (.long y2), .second, .val (.long qo), .second, .val (.long qe), .second, .val (.int pk), .val (.int ((pk &&& (2147483647 : Int32)) % (3 : Int32))), .val (.ref u_THOROUGH), .val (.ref b21), .val (.ref b25), .val (.ref b29), .unset] [])
      refine Go.st (fun _ => XS.lloadN X31.here hx rfl (hb hby at_105) rfl) ?_
      show Go p e below s _ _ _ T31 (mkF m 106 #[.val (.long y1), .second, .val (.long y2), .second, .val (.long qo), .second, .val (.long qe), .second, .val (.int pk), .val (.int ((pk &&& (2147483647 : Int32)) % (3 : Int32))), .val (.ref u_THOROUGH), .val (.ref b21), .val (.ref b25), .val (.ref b29), .unset] [(.long y1)])
      refine Go.st (fun _ => XS.lconst X31.here hx rfl (hb hby at_106)) ?_
      show Go p e below s _ _ _ T31 (mkF m 107 #[.val (.long y1), .second, .val (.long y2), .second, .val (.long qo), .second, .val (.long qe), .second, .val (.int pk), .val (.int ((pk &&& (2147483647 : Int32)) % (3 : Int32))), .val (.ref u_THOROUGH), .val (.ref b21), .val (.ref b25), .val (.ref b29), .unset] [(.long (1 : Int64)), (.long y1)])
      refine Go.st (fun _ => XS.lcmp X31.here hx rfl (hb hby at_107) rfl) ?_
      show Go p e below s _ _ _ T31 (mkF m 108 #[.val (.long y1), .second, .val (.long y2), .second, .val (.long qo), .second, .val (.long qe), .second, .val (.int pk), .val (.int ((pk &&& (2147483647 : Int32)) % (3 : Int32))), .val (.ref u_THOROUGH), .val (.ref b21), .val (.ref b25), .val (.ref b29), .unset] [(.int (lcmpW y1 (1 : Int64)))])
      by_cases hc32 : y1 < (1 : Int64)
      · refine Go.st (fun _ => XS.ifYes X31.here hx rfl (pc0 := 108) (pc' := 117) rfl (hb hby at_108) rfl ((if0 _ _).trans (tlt ((lw_lt y1 (1 : Int64)).mpr hc32)).1) (by decide) (by decide)) ?_
        show Go p e below s _ _ _ T31 (mkF m 117 #[.val (.long y1), .second, .val (.long y2), .second, .val (.long qo), .second, .val (.long qe), .second, .val (.int pk), .val (.int ((pk &&& (2147483647 : Int32)) % (3 : Int32))), .val (.ref u_THOROUGH), .val (.ref b21), .val (.ref b25), .val (.ref b29), .unset] [])
        refine Go.st (fun _ => XS.lloadN X31.here hx rfl (hb hby at_117) rfl) ?_
        show Go p e below s _ _ _ T31 (mkF m 118 #[.val (.long y1), .second, .val (.long y2), .second, .val (.long qo), .second, .val (.long qe), .second, .val (.int pk), .val (.int ((pk &&& (2147483647 : Int32)) % (3 : Int32))), .val (.ref u_THOROUGH), .val (.ref b21), .val (.ref b25), .val (.ref b29), .unset] [(.long y2)])
        refine Go.st (fun _ => XS.lconst X31.here hx rfl (hb hby at_118)) ?_
        show Go p e below s _ _ _ T31 (mkF m 119 #[.val (.long y1), .second, .val (.long y2), .second, .val (.long qo), .second, .val (.long qe), .second, .val (.int pk), .val (.int ((pk &&& (2147483647 : Int32)) % (3 : Int32))), .val (.ref u_THOROUGH), .val (.ref b21), .val (.ref b25), .val (.ref b29), .unset] [(.long (1 : Int64)), (.long y2)])
        refine Go.st (fun _ => XS.lcmp X31.here hx rfl (hb hby at_119) rfl) ?_
        show Go p e below s _ _ _ T31 (mkF m 120 #[.val (.long y1), .second, .val (.long y2), .second, .val (.long qo), .second, .val (.long qe), .second, .val (.int pk), .val (.int ((pk &&& (2147483647 : Int32)) % (3 : Int32))), .val (.ref u_THOROUGH), .val (.ref b21), .val (.ref b25), .val (.ref b29), .unset] [(.int (lcmpW y2 (1 : Int64)))])
        by_cases hc33 : y2 < (1 : Int64)
        · refine Go.st (fun _ => XS.ifYes X31.here hx rfl (pc0 := 120) (pc' := 129) rfl (hb hby at_120) rfl ((if0 _ _).trans (tlt ((lw_lt y2 (1 : Int64)).mpr hc33)).1) (by decide) (by decide)) ?_
          show Go p e below s _ _ _ T31 (mkF m 129 #[.val (.long y1), .second, .val (.long y2), .second, .val (.long qo), .second, .val (.long qe), .second, .val (.int pk), .val (.int ((pk &&& (2147483647 : Int32)) % (3 : Int32))), .val (.ref u_THOROUGH), .val (.ref b21), .val (.ref b25), .val (.ref b29), .unset] [])
          refine Go.st (fun _ => XS.iconst X31.here hx rfl (hb hby at_129)) ?_
          show Go p e below s _ _ _ T31 (mkF m 130 #[.val (.long y1), .second, .val (.long y2), .second, .val (.long qo), .second, .val (.long qe), .second, .val (.int pk), .val (.int ((pk &&& (2147483647 : Int32)) % (3 : Int32))), .val (.ref u_THOROUGH), .val (.ref b21), .val (.ref b25), .val (.ref b29), .unset] [(.int (0 : Int32))])
          refine Go.st (fun _ => XS.istore X31.here hx rfl (hb hby at_130) rfl (l' := #[.val (.long y1), .second, .val (.long y2), .second, .val (.long qo), .second, .val (.long qe), .second, .val (.int pk), .val (.int ((pk &&& (2147483647 : Int32)) % (3 : Int32))), .val (.ref u_THOROUGH), .val (.ref b21), .val (.ref b25), .val (.ref b29), .val (.int (0 : Int32))]) rfl) ?_
          show Go p e below s _ _ _ T31 (mkF m 132 #[.val (.long y1), .second, .val (.long y2), .second, .val (.long qo), .second, .val (.long qe), .second, .val (.int pk), .val (.int ((pk &&& (2147483647 : Int32)) % (3 : Int32))), .val (.ref u_THOROUGH), .val (.ref b21), .val (.ref b25), .val (.ref b29), .val (.int (0 : Int32))] [])
          refine Go.st (fun _ => XS.aload X31.here hx rfl (hb hby at_132) rfl rfl) ?_
          show Go p e below s _ _ _ T31 (mkF m 134 #[.val (.long y1), .second, .val (.long y2), .second, .val (.long qo), .second, .val (.long qe), .second, .val (.int pk), .val (.int ((pk &&& (2147483647 : Int32)) % (3 : Int32))), .val (.ref u_THOROUGH), .val (.ref b21), .val (.ref b25), .val (.ref b29), .val (.int (0 : Int32))] [(.ref b29)])
          obtain ⟨cq34, kq34, q34a, q34b, q34c⟩ := isOf hZ e31 p31_0
          obtain ⟨_, _, ⟨T34, L34, kc34, nc34⟩, -, X34, ⟨Lc34, hQ34, l34, y34, z34⟩, st34⟩ := X31.virtualBack hx (y := (⟨"com/example/reapd/reapd/TableStats", "expires", "()Z"⟩ : MethodName)) (z := (⟨"com/example/reapd/reapd/TableStats", "expires", "()Z"⟩ : MethodName)) hown (mvT hZ (hw _ (List.mem_of_getElem? (i := 65) rfl))) (mvT hZ (hw _ (List.mem_of_getElem? (i := 66) rfl))) (notFace_of_selects (args := #[]) (mvT hZ (hw _ (List.mem_of_getElem? (i := 68) rfl)))) (mvT hZ (hw _ (List.mem_of_getElem? (i := 68) rfl))) (mvT hZ (hw _ (List.mem_of_getElem? (i := 67) rfl))) (by decide) (backOf (W := 0) (rmEp l Z a0 hw [] b29 y1 y2 h31 n0 z31q p31_1 p31_2) hZ (hw _ (List.mem_of_getElem? (i := 69) rfl)) (hw _ (List.mem_of_getElem? (i := 36) rfl)) (by decide) (by decide)) q34a q34c (g := (mkF m 134 #[.val (.long y1), .second, .val (.long y2), .second, .val (.long qo), .second, .val (.long qe), .second, .val (.int pk), .val (.int ((pk &&& (2147483647 : Int32)) % (3 : Int32))), .val (.ref u_THOROUGH), .val (.ref b21), .val (.ref b25), .val (.ref b29), .val (.int (0 : Int32))] [(.ref b29)])) rfl (by rw [hml]; rfl) (Steps.refl _) (argsL := []) (rest := []) (lenOf pd_7 rfl) rfl (by show 2 * 0 + _ ≤ _; exact Nat.le_of_eq rfl) (hb hby at_134) (fun _ _ => ⟨rfl, e31, (by decide : 4 + 0 ≤ _), (by decide : 15 + 0 ≤ _)⟩)
          dsimp only [Pt.U, Pt.locs, Pt.cells, Pt.slots] at X34 l34 y34 z34 st34 hQ34
          subst l34 y34 z34
          obtain ⟨h34, e34⟩ : ∃ hh, T34.heap = hh := ⟨_, rfl⟩
          rw [e34] at hQ34
          obtain ⟨rfl, N34q, sm34⟩ := hQ34
          have N34 := Fr.app N31 N34q
          refine Go.st (fun _ kk => st34.trans kk) ?_
          rw [sm34] at e34
          show Go p e below s _ _ _ T34 (mkF m 137 #[.val (.long y1), .second, .val (.long y2), .second, .val (.long qo), .second, .val (.long qe), .second, .val (.int pk), .val (.int ((pk &&& (2147483647 : Int32)) % (3 : Int32))), .val (.ref u_THOROUGH), .val (.ref b21), .val (.ref b25), .val (.ref b29), .val (.int (0 : Int32))] [(.int (b2i ((0 : Int64) < y1 ∨ (0 : Int64) < y2)))])
          rw [show (b2i ((0 : Int64) < y1 ∨ (0 : Int64) < y2)) = (0 : Int32) from b2i_neg (fun q => q.elim (own_lt hc32) (own_lt hc33))]
          show Go p e below s _ _ _ T34 (mkF m 137 #[.val (.long y1), .second, .val (.long y2), .second, .val (.long qo), .second, .val (.long qe), .second, .val (.int pk), .val (.int ((pk &&& (2147483647 : Int32)) % (3 : Int32))), .val (.ref u_THOROUGH), .val (.ref b21), .val (.ref b25), .val (.ref b29), .val (.int (0 : Int32))] [(.int (0 : Int32))])
          refine Go.st (fun _ => XS.iload X34.here hx rfl (hb hby at_137) rfl) ?_
          show Go p e below s _ _ _ T34 (mkF m 139 #[.val (.long y1), .second, .val (.long y2), .second, .val (.long qo), .second, .val (.long qe), .second, .val (.int pk), .val (.int ((pk &&& (2147483647 : Int32)) % (3 : Int32))), .val (.ref u_THOROUGH), .val (.ref b21), .val (.ref b25), .val (.ref b29), .val (.int (0 : Int32))] [(.int (0 : Int32)), (.int (0 : Int32))])
          refine Go.st (fun _ => XS.icmpNo X34.here hx rfl (hb hby at_139) rfl (teq (by decide : (0 : Int32) = (0 : Int32))).2) ?_
          show Go p e below s _ _ _ T34 (mkF m 142 #[.val (.long y1), .second, .val (.long y2), .second, .val (.long qo), .second, .val (.long qe), .second, .val (.int pk), .val (.int ((pk &&& (2147483647 : Int32)) % (3 : Int32))), .val (.ref u_THOROUGH), .val (.ref b21), .val (.ref b25), .val (.ref b29), .val (.int (0 : Int32))] [])
          refine Go.st (fun _ => XS.iconst X34.here hx rfl (hb hby at_142)) ?_
          show Go p e below s _ _ _ T34 (mkF m 143 #[.val (.long y1), .second, .val (.long y2), .second, .val (.long qo), .second, .val (.long qe), .second, .val (.int pk), .val (.int ((pk &&& (2147483647 : Int32)) % (3 : Int32))), .val (.ref u_THOROUGH), .val (.ref b21), .val (.ref b25), .val (.ref b29), .val (.int (0 : Int32))] [(.int (1 : Int32))])
          refine Go.st (fun _ => XS.goto X34.here hx rfl (pc0 := 143) (pc' := 147) rfl (hb hby at_143) (by decide) (by decide)) ?_
          show Go p e below s _ _ _ T34 (mkF m 147 #[.val (.long y1), .second, .val (.long y2), .second, .val (.long qo), .second, .val (.long qe), .second, .val (.int pk), .val (.int ((pk &&& (2147483647 : Int32)) % (3 : Int32))), .val (.ref u_THOROUGH), .val (.ref b21), .val (.ref b25), .val (.ref b29), .val (.int (0 : Int32))] [(.int (1 : Int32))])
          exact Go.retZ X34 hx hlk Bd.returns (hb hby at_147) rfl (by rw [e34]; exact ⟨rfl, N34⟩) (by decide) (by decide)
        · refine Go.st (fun _ => XS.ifNo X31.here hx rfl (hb hby at_120) rfl ((if0 _ _).trans (flt (fun qq => hc33 ((lw_lt y2 (1 : Int64)).mp qq))).1)) ?_
          show Go p e below s _ _ _ T31 (mkF m 123 #[.val (.long y1), .second, .val (.long y2), .second, .val (.long qo), .second, .val (.long qe), .second, .val (.int pk), .val (.int ((pk &&& (2147483647 : Int32)) % (3 : Int32))), .val (.ref u_THOROUGH), .val (.ref b21), .val (.ref b25), .val (.ref b29), .unset] [])
          refine Go.st (fun _ => XS.iconst X31.here hx rfl (hb hby at_123)) ?_
          show Go p e below s _ _ _ T31 (mkF m 124 #[.val (.long y1), .second, .val (.long y2), .second, .val (.long qo), .second, .val (.long qe), .second, .val (.int pk), .val (.int ((pk &&& (2147483647 : Int32)) % (3 : Int32))), .val (.ref u_THOROUGH), .val (.ref b21), .val (.ref b25), .val (.ref b29), .unset] [(.int (1 : Int32))])
          refine Go.st (fun _ => XS.istore X31.here hx rfl (hb hby at_124) rfl (l' := #[.val (.long y1), .second, .val (.long y2), .second, .val (.long qo), .second, .val (.long qe), .second, .val (.int pk), .val (.int ((pk &&& (2147483647 : Int32)) % (3 : Int32))), .val (.ref u_THOROUGH), .val (.ref b21), .val (.ref b25), .val (.ref b29), .val (.int (1 : Int32))]) rfl) ?_
          show Go p e below s _ _ _ T31 (mkF m 126 #[.val (.long y1), .second, .val (.long y2), .second, .val (.long qo), .second, .val (.long qe), .second, .val (.int pk), .val (.int ((pk &&& (2147483647 : Int32)) % (3 : Int32))), .val (.ref u_THOROUGH), .val (.ref b21), .val (.ref b25), .val (.ref b29), .val (.int (1 : Int32))] [])
          refine Go.st (fun _ => XS.goto X31.here hx rfl (pc0 := 126) (pc' := 132) rfl (hb hby at_126) (by decide) (by decide)) ?_
          show Go p e below s _ _ _ T31 (mkF m 132 #[.val (.long y1), .second, .val (.long y2), .second, .val (.long qo), .second, .val (.long qe), .second, .val (.int pk), .val (.int ((pk &&& (2147483647 : Int32)) % (3 : Int32))), .val (.ref u_THOROUGH), .val (.ref b21), .val (.ref b25), .val (.ref b29), .val (.int (1 : Int32))] [])
          refine Go.st (fun _ => XS.aload X31.here hx rfl (hb hby at_132) rfl rfl) ?_
          show Go p e below s _ _ _ T31 (mkF m 134 #[.val (.long y1), .second, .val (.long y2), .second, .val (.long qo), .second, .val (.long qe), .second, .val (.int pk), .val (.int ((pk &&& (2147483647 : Int32)) % (3 : Int32))), .val (.ref u_THOROUGH), .val (.ref b21), .val (.ref b25), .val (.ref b29), .val (.int (1 : Int32))] [(.ref b29)])
          obtain ⟨cq35, kq35, q35a, q35b, q35c⟩ := isOf hZ e31 p31_0
          obtain ⟨_, _, ⟨T35, L35, kc35, nc35⟩, -, X35, ⟨Lc35, hQ35, l35, y35, z35⟩, st35⟩ := X31.virtualBack hx (y := (⟨"com/example/reapd/reapd/TableStats", "expires", "()Z"⟩ : MethodName)) (z := (⟨"com/example/reapd/reapd/TableStats", "expires", "()Z"⟩ : MethodName)) hown (mvT hZ (hw _ (List.mem_of_getElem? (i := 65) rfl))) (mvT hZ (hw _ (List.mem_of_getElem? (i := 66) rfl))) (notFace_of_selects (args := #[]) (mvT hZ (hw _ (List.mem_of_getElem? (i := 68) rfl)))) (mvT hZ (hw _ (List.mem_of_getElem? (i := 68) rfl))) (mvT hZ (hw _ (List.mem_of_getElem? (i := 67) rfl))) (by decide) (backOf (W := 0) (rmEp l Z a0 hw [] b29 y1 y2 h31 n0 z31q p31_1 p31_2) hZ (hw _ (List.mem_of_getElem? (i := 69) rfl)) (hw _ (List.mem_of_getElem? (i := 36) rfl)) (by decide) (by decide)) q35a q35c (g := (mkF m 134 #[.val (.long y1), .second, .val (.long y2), .second, .val (.long qo), .second, .val (.long qe), .second, .val (.int pk), .val (.int ((pk &&& (2147483647 : Int32)) % (3 : Int32))), .val (.ref u_THOROUGH), .val (.ref b21), .val (.ref b25), .val (.ref b29), .val (.int (1 : Int32))] [(.ref b29)])) rfl (by rw [hml]; rfl) (Steps.refl _) (argsL := []) (rest := []) (lenOf pd_7 rfl) rfl (by show 2 * 0 + _ ≤ _; exact Nat.le_of_eq rfl) (hb hby at_134) (fun _ _ => ⟨rfl, e31, (by decide : 4 + 0 ≤ _), (by decide : 15 + 0 ≤ _)⟩)
          dsimp only [Pt.U, Pt.locs, Pt.cells, Pt.slots] at X35 l35 y35 z35 st35 hQ35
          subst l35 y35 z35
          obtain ⟨h35, e35⟩ : ∃ hh, T35.heap = hh := ⟨_, rfl⟩
          rw [e35] at hQ35
          obtain ⟨rfl, N35q, sm35⟩ := hQ35
          have N35 := Fr.app N31 N35q
          refine Go.st (fun _ kk => st35.trans kk) ?_
          rw [sm35] at e35
          show Go p e below s _ _ _ T35 (mkF m 137 #[.val (.long y1), .second, .val (.long y2), .second, .val (.long qo), .second, .val (.long qe), .second, .val (.int pk), .val (.int ((pk &&& (2147483647 : Int32)) % (3 : Int32))), .val (.ref u_THOROUGH), .val (.ref b21), .val (.ref b25), .val (.ref b29), .val (.int (1 : Int32))] [(.int (b2i ((0 : Int64) < y1 ∨ (0 : Int64) < y2)))])
          rw [show (b2i ((0 : Int64) < y1 ∨ (0 : Int64) < y2)) = (1 : Int32) from b2i_pos (Or.inr (own_ge hc33))]
          show Go p e below s _ _ _ T35 (mkF m 137 #[.val (.long y1), .second, .val (.long y2), .second, .val (.long qo), .second, .val (.long qe), .second, .val (.int pk), .val (.int ((pk &&& (2147483647 : Int32)) % (3 : Int32))), .val (.ref u_THOROUGH), .val (.ref b21), .val (.ref b25), .val (.ref b29), .val (.int (1 : Int32))] [(.int (1 : Int32))])
          refine Go.st (fun _ => XS.iload X35.here hx rfl (hb hby at_137) rfl) ?_
          show Go p e below s _ _ _ T35 (mkF m 139 #[.val (.long y1), .second, .val (.long y2), .second, .val (.long qo), .second, .val (.long qe), .second, .val (.int pk), .val (.int ((pk &&& (2147483647 : Int32)) % (3 : Int32))), .val (.ref u_THOROUGH), .val (.ref b21), .val (.ref b25), .val (.ref b29), .val (.int (1 : Int32))] [(.int (1 : Int32)), (.int (1 : Int32))])
          refine Go.st (fun _ => XS.icmpNo X35.here hx rfl (hb hby at_139) rfl (teq (by decide : (1 : Int32) = (1 : Int32))).2) ?_
          show Go p e below s _ _ _ T35 (mkF m 142 #[.val (.long y1), .second, .val (.long y2), .second, .val (.long qo), .second, .val (.long qe), .second, .val (.int pk), .val (.int ((pk &&& (2147483647 : Int32)) % (3 : Int32))), .val (.ref u_THOROUGH), .val (.ref b21), .val (.ref b25), .val (.ref b29), .val (.int (1 : Int32))] [])
          refine Go.st (fun _ => XS.iconst X35.here hx rfl (hb hby at_142)) ?_
          show Go p e below s _ _ _ T35 (mkF m 143 #[.val (.long y1), .second, .val (.long y2), .second, .val (.long qo), .second, .val (.long qe), .second, .val (.int pk), .val (.int ((pk &&& (2147483647 : Int32)) % (3 : Int32))), .val (.ref u_THOROUGH), .val (.ref b21), .val (.ref b25), .val (.ref b29), .val (.int (1 : Int32))] [(.int (1 : Int32))])
          refine Go.st (fun _ => XS.goto X35.here hx rfl (pc0 := 143) (pc' := 147) rfl (hb hby at_143) (by decide) (by decide)) ?_
          show Go p e below s _ _ _ T35 (mkF m 147 #[.val (.long y1), .second, .val (.long y2), .second, .val (.long qo), .second, .val (.long qe), .second, .val (.int pk), .val (.int ((pk &&& (2147483647 : Int32)) % (3 : Int32))), .val (.ref u_THOROUGH), .val (.ref b21), .val (.ref b25), .val (.ref b29), .val (.int (1 : Int32))] [(.int (1 : Int32))])
          exact Go.retZ X35 hx hlk Bd.returns (hb hby at_147) rfl (by rw [e35]; exact ⟨rfl, N35⟩) (by decide) (by decide)
      · refine Go.st (fun _ => XS.ifNo X31.here hx rfl (hb hby at_108) rfl ((if0 _ _).trans (flt (fun qq => hc32 ((lw_lt y1 (1 : Int64)).mp qq))).1)) ?_
        show Go p e below s _ _ _ T31 (mkF m 111 #[.val (.long y1), .second, .val (.long y2), .second, .val (.long qo), .second, .val (.long qe), .second, .val (.int pk), .val (.int ((pk &&& (2147483647 : Int32)) % (3 : Int32))), .val (.ref u_THOROUGH), .val (.ref b21), .val (.ref b25), .val (.ref b29), .unset] [])
        refine Go.st (fun _ => XS.iconst X31.here hx rfl (hb hby at_111)) ?_
        show Go p e below s _ _ _ T31 (mkF m 112 #[.val (.long y1), .second, .val (.long y2), .second, .val (.long qo), .second, .val (.long qe), .second, .val (.int pk), .val (.int ((pk &&& (2147483647 : Int32)) % (3 : Int32))), .val (.ref u_THOROUGH), .val (.ref b21), .val (.ref b25), .val (.ref b29), .unset] [(.int (1 : Int32))])
        refine Go.st (fun _ => XS.istore X31.here hx rfl (hb hby at_112) rfl (l' := #[.val (.long y1), .second, .val (.long y2), .second, .val (.long qo), .second, .val (.long qe), .second, .val (.int pk), .val (.int ((pk &&& (2147483647 : Int32)) % (3 : Int32))), .val (.ref u_THOROUGH), .val (.ref b21), .val (.ref b25), .val (.ref b29), .val (.int (1 : Int32))]) rfl) ?_
        show Go p e below s _ _ _ T31 (mkF m 114 #[.val (.long y1), .second, .val (.long y2), .second, .val (.long qo), .second, .val (.long qe), .second, .val (.int pk), .val (.int ((pk &&& (2147483647 : Int32)) % (3 : Int32))), .val (.ref u_THOROUGH), .val (.ref b21), .val (.ref b25), .val (.ref b29), .val (.int (1 : Int32))] [])
        refine Go.st (fun _ => XS.goto X31.here hx rfl (pc0 := 114) (pc' := 132) rfl (hb hby at_114) (by decide) (by decide)) ?_
        show Go p e below s _ _ _ T31 (mkF m 132 #[.val (.long y1), .second, .val (.long y2), .second, .val (.long qo), .second, .val (.long qe), .second, .val (.int pk), .val (.int ((pk &&& (2147483647 : Int32)) % (3 : Int32))), .val (.ref u_THOROUGH), .val (.ref b21), .val (.ref b25), .val (.ref b29), .val (.int (1 : Int32))] [])
        refine Go.st (fun _ => XS.aload X31.here hx rfl (hb hby at_132) rfl rfl) ?_
        show Go p e below s _ _ _ T31 (mkF m 134 #[.val (.long y1), .second, .val (.long y2), .second, .val (.long qo), .second, .val (.long qe), .second, .val (.int pk), .val (.int ((pk &&& (2147483647 : Int32)) % (3 : Int32))), .val (.ref u_THOROUGH), .val (.ref b21), .val (.ref b25), .val (.ref b29), .val (.int (1 : Int32))] [(.ref b29)])
        obtain ⟨cq36, kq36, q36a, q36b, q36c⟩ := isOf hZ e31 p31_0
        obtain ⟨_, _, ⟨T36, L36, kc36, nc36⟩, -, X36, ⟨Lc36, hQ36, l36, y36, z36⟩, st36⟩ := X31.virtualBack hx (y := (⟨"com/example/reapd/reapd/TableStats", "expires", "()Z"⟩ : MethodName)) (z := (⟨"com/example/reapd/reapd/TableStats", "expires", "()Z"⟩ : MethodName)) hown (mvT hZ (hw _ (List.mem_of_getElem? (i := 65) rfl))) (mvT hZ (hw _ (List.mem_of_getElem? (i := 66) rfl))) (notFace_of_selects (args := #[]) (mvT hZ (hw _ (List.mem_of_getElem? (i := 68) rfl)))) (mvT hZ (hw _ (List.mem_of_getElem? (i := 68) rfl))) (mvT hZ (hw _ (List.mem_of_getElem? (i := 67) rfl))) (by decide) (backOf (W := 0) (rmEp l Z a0 hw [] b29 y1 y2 h31 n0 z31q p31_1 p31_2) hZ (hw _ (List.mem_of_getElem? (i := 69) rfl)) (hw _ (List.mem_of_getElem? (i := 36) rfl)) (by decide) (by decide)) q36a q36c (g := (mkF m 134 #[.val (.long y1), .second, .val (.long y2), .second, .val (.long qo), .second, .val (.long qe), .second, .val (.int pk), .val (.int ((pk &&& (2147483647 : Int32)) % (3 : Int32))), .val (.ref u_THOROUGH), .val (.ref b21), .val (.ref b25), .val (.ref b29), .val (.int (1 : Int32))] [(.ref b29)])) rfl (by rw [hml]; rfl) (Steps.refl _) (argsL := []) (rest := []) (lenOf pd_7 rfl) rfl (by show 2 * 0 + _ ≤ _; exact Nat.le_of_eq rfl) (hb hby at_134) (fun _ _ => ⟨rfl, e31, (by decide : 4 + 0 ≤ _), (by decide : 15 + 0 ≤ _)⟩)
        dsimp only [Pt.U, Pt.locs, Pt.cells, Pt.slots] at X36 l36 y36 z36 st36 hQ36
        subst l36 y36 z36
        obtain ⟨h36, e36⟩ : ∃ hh, T36.heap = hh := ⟨_, rfl⟩
        rw [e36] at hQ36
        obtain ⟨rfl, N36q, sm36⟩ := hQ36
        have N36 := Fr.app N31 N36q
        refine Go.st (fun _ kk => st36.trans kk) ?_
        rw [sm36] at e36
        show Go p e below s _ _ _ T36 (mkF m 137 #[.val (.long y1), .second, .val (.long y2), .second, .val (.long qo), .second, .val (.long qe), .second, .val (.int pk), .val (.int ((pk &&& (2147483647 : Int32)) % (3 : Int32))), .val (.ref u_THOROUGH), .val (.ref b21), .val (.ref b25), .val (.ref b29), .val (.int (1 : Int32))] [(.int (b2i ((0 : Int64) < y1 ∨ (0 : Int64) < y2)))])
        rw [show (b2i ((0 : Int64) < y1 ∨ (0 : Int64) < y2)) = (1 : Int32) from b2i_pos (Or.inl (own_ge hc32))]
        show Go p e below s _ _ _ T36 (mkF m 137 #[.val (.long y1), .second, .val (.long y2), .second, .val (.long qo), .second, .val (.long qe), .second, .val (.int pk), .val (.int ((pk &&& (2147483647 : Int32)) % (3 : Int32))), .val (.ref u_THOROUGH), .val (.ref b21), .val (.ref b25), .val (.ref b29), .val (.int (1 : Int32))] [(.int (1 : Int32))])
        refine Go.st (fun _ => XS.iload X36.here hx rfl (hb hby at_137) rfl) ?_
        show Go p e below s _ _ _ T36 (mkF m 139 #[.val (.long y1), .second, .val (.long y2), .second, .val (.long qo), .second, .val (.long qe), .second, .val (.int pk), .val (.int ((pk &&& (2147483647 : Int32)) % (3 : Int32))), .val (.ref u_THOROUGH), .val (.ref b21), .val (.ref b25), .val (.ref b29), .val (.int (1 : Int32))] [(.int (1 : Int32)), (.int (1 : Int32))])
        refine Go.st (fun _ => XS.icmpNo X36.here hx rfl (hb hby at_139) rfl (teq (by decide : (1 : Int32) = (1 : Int32))).2) ?_
        show Go p e below s _ _ _ T36 (mkF m 142 #[.val (.long y1), .second, .val (.long y2), .second, .val (.long qo), .second, .val (.long qe), .second, .val (.int pk), .val (.int ((pk &&& (2147483647 : Int32)) % (3 : Int32))), .val (.ref u_THOROUGH), .val (.ref b21), .val (.ref b25), .val (.ref b29), .val (.int (1 : Int32))] [])
        refine Go.st (fun _ => XS.iconst X36.here hx rfl (hb hby at_142)) ?_
        show Go p e below s _ _ _ T36 (mkF m 143 #[.val (.long y1), .second, .val (.long y2), .second, .val (.long qo), .second, .val (.long qe), .second, .val (.int pk), .val (.int ((pk &&& (2147483647 : Int32)) % (3 : Int32))), .val (.ref u_THOROUGH), .val (.ref b21), .val (.ref b25), .val (.ref b29), .val (.int (1 : Int32))] [(.int (1 : Int32))])
        refine Go.st (fun _ => XS.goto X36.here hx rfl (pc0 := 143) (pc' := 147) rfl (hb hby at_143) (by decide) (by decide)) ?_
        show Go p e below s _ _ _ T36 (mkF m 147 #[.val (.long y1), .second, .val (.long y2), .second, .val (.long qo), .second, .val (.long qe), .second, .val (.int pk), .val (.int ((pk &&& (2147483647 : Int32)) % (3 : Int32))), .val (.ref u_THOROUGH), .val (.ref b21), .val (.ref b25), .val (.ref b29), .val (.int (1 : Int32))] [(.int (1 : Int32))])
        exact Go.retZ X36 hx hlk Bd.returns (hb hby at_147) rfl (by rw [e36]; exact ⟨rfl, N36⟩) (by decide) (by decide)
    · refine Go.st (fun _ => XS.icmpYes X0.here hx rfl (pc0 := 25) (pc' := 36) rfl (hb hby at_25) rfl (feq hc19).2 (by decide) (by decide)) ?_
      show Go p e below s _ _ _ s₁ (mkF m 36 #[.val (.long y1), .second, .val (.long y2), .second, .val (.long qo), .second, .val (.long qe), .second, .val (.int pk), .val (.int ((pk &&& (2147483647 : Int32)) % (3 : Int32))), .unset, .unset, .unset, .unset, .unset] [])
      obtain ⟨T37, X37, e37, st37⟩ := getS2 X0 hx hZ hown (host := "") (Or.inl (hw _ (List.mem_of_getElem? (i := 72) rfl))) Via.refl e0 S_NONE (g := (mkF m 36 #[.val (.long y1), .second, .val (.long y2), .second, .val (.long qo), .second, .val (.long qe), .second, .val (.int pk), .val (.int ((pk &&& (2147483647 : Int32)) % (3 : Int32))), .unset, .unset, .unset, .unset, .unset] [])) rfl (hb hby at_36)
      refine Go.st st37 ?_
      show Go p e below s _ _ _ T37 (mkF m 39 #[.val (.long y1), .second, .val (.long y2), .second, .val (.long qo), .second, .val (.long qe), .second, .val (.int pk), .val (.int ((pk &&& (2147483647 : Int32)) % (3 : Int32))), .unset, .unset, .unset, .unset, .unset] [(.ref u_NONE)])
      refine Go.st (fun _ => XS.astore X37.here hx rfl (hb hby at_39) rfl rfl (l' := #[.val (.long y1), .second, .val (.long y2), .second, .val (.long qo), .second, .val (.long qe), .second, .val (.int pk), .val (.int ((pk &&& (2147483647 : Int32)) % (3 : Int32))), .val (.ref u_NONE), .unset, .unset, .unset, .unset]) rfl) ?_
      show Go p e below s _ _ _ T37 (mkF m 41 #[.val (.long y1), .second, .val (.long y2), .second, .val (.long qo), .second, .val (.long qe), .second, .val (.int pk), .val (.int ((pk &&& (2147483647 : Int32)) % (3 : Int32))), .val (.ref u_NONE), .unset, .unset, .unset, .unset] [])
      refine Go.st (fun _ => XS.iconst X37.here hx rfl (hb hby at_41)) ?_
      show Go p e below s _ _ _ T37 (mkF m 42 #[.val (.long y1), .second, .val (.long y2), .second, .val (.long qo), .second, .val (.long qe), .second, .val (.int pk), .val (.int ((pk &&& (2147483647 : Int32)) % (3 : Int32))), .val (.ref u_NONE), .unset, .unset, .unset, .unset] [(.int (1 : Int32))])
      obtain ⟨T38, h38, kA38, X38, e38, E38, A38, st38⟩ := newP X37 hx hZ (hw _ (List.mem_of_getElem? (i := 4) rfl)) e37 (g := (mkF m 42 #[.val (.long y1), .second, .val (.long y2), .second, .val (.long qo), .second, .val (.long qe), .second, .val (.int pk), .val (.int ((pk &&& (2147483647 : Int32)) % (3 : Int32))), .val (.ref u_NONE), .unset, .unset, .unset, .unset] [(.int (1 : Int32))])) rfl (hb hby at_42) rfl (by decide) (cap := 1) (by decide) (by decide) (by decide) (by decide)
      obtain ⟨b38, g38⟩ : ∃ z, z = h0.size := ⟨_, rfl⟩
      rw [← g38] at A38 st38
      refine Go.st st38 ?_
      have gg38 : n0 ≤ b38 := Nat.le_trans Z0 (Nat.le_of_eq g38.symm)
      have z38 : n0 ≤ h38.size := Nat.le_trans Z0 E38.1
      have V_b38 : Arv Z h38 b38 kA38 .char (1 : Int32) [(.int (0 : Int32))] (.int (0 : Int32)) := (Arv.new A38 (by decide)).pad (pad_rep [] (.int (0 : Int32)) 1)
      show Go p e below s _ _ _ T38 (mkF m 44 #[.val (.long y1), .second, .val (.long y2), .second, .val (.long qo), .second, .val (.long qe), .second, .val (.int pk), .val (.int ((pk &&& (2147483647 : Int32)) % (3 : Int32))), .val (.ref u_NONE), .unset, .unset, .unset, .unset] [(.ref b38)])
      refine Go.st (fun _ => XS.astore X38.here hx rfl (hb hby at_44) rfl rfl (l' := #[.val (.long y1), .second, .val (.long y2), .second, .val (.long qo), .second, .val (.long qe), .second, .val (.int pk), .val (.int ((pk &&& (2147483647 : Int32)) % (3 : Int32))), .val (.ref u_NONE), .val (.ref b38), .unset, .unset, .unset]) rfl) ?_
      show Go p e below s _ _ _ T38 (mkF m 46 #[.val (.long y1), .second, .val (.long y2), .second, .val (.long qo), .second, .val (.long qe), .second, .val (.int pk), .val (.int ((pk &&& (2147483647 : Int32)) % (3 : Int32))), .val (.ref u_NONE), .val (.ref b38), .unset, .unset, .unset] [])
      refine Go.st (fun _ => XS.aload X38.here hx rfl (hb hby at_46) rfl rfl) ?_
      show Go p e below s _ _ _ T38 (mkF m 48 #[.val (.long y1), .second, .val (.long y2), .second, .val (.long qo), .second, .val (.long qe), .second, .val (.int pk), .val (.int ((pk &&& (2147483647 : Int32)) % (3 : Int32))), .val (.ref u_NONE), .val (.ref b38), .unset, .unset, .unset] [(.ref b38)])
      refine Go.st (fun _ => XS.iconst X38.here hx rfl (hb hby at_48)) ?_
      show Go p e below s _ _ _ T38 (mkF m 49 #[.val (.long y1), .second, .val (.long y2), .second, .val (.long qo), .second, .val (.long qe), .second, .val (.int pk), .val (.int ((pk &&& (2147483647 : Int32)) % (3 : Int32))), .val (.ref u_NONE), .val (.ref b38), .unset, .unset, .unset] [(.int (0 : Int32)), (.ref b38)])
      refine Go.st (fun _ => XS.iload X38.here hx rfl (hb hby at_49) rfl) ?_
      show Go p e below s _ _ _ T38 (mkF m 51 #[.val (.long y1), .second, .val (.long y2), .second, .val (.long qo), .second, .val (.long qe), .second, .val (.int pk), .val (.int ((pk &&& (2147483647 : Int32)) % (3 : Int32))), .val (.ref u_NONE), .val (.ref b38), .unset, .unset, .unset] [(.int pk), (.int (0 : Int32)), (.ref b38)])
      refine Go.st (fun _ => XS.bipush X38.here hx rfl (hb hby at_51)) ?_
      show Go p e below s _ _ _ T38 (mkF m 53 #[.val (.long y1), .second, .val (.long y2), .second, .val (.long qo), .second, .val (.long qe), .second, .val (.int pk), .val (.int ((pk &&& (2147483647 : Int32)) % (3 : Int32))), .val (.ref u_NONE), .val (.ref b38), .unset, .unset, .unset] [(.int (8 : Int32)), (.int pk), (.int (0 : Int32)), (.ref b38)])
      refine Go.st (fun _ => XS.iushr X38.here hx rfl (hb hby at_53) rfl) ?_
      show Go p e below s _ _ _ T38 (mkF m 54 #[.val (.long y1), .second, .val (.long y2), .second, .val (.long qo), .second, .val (.long qe), .second, .val (.int pk), .val (.int ((pk &&& (2147483647 : Int32)) % (3 : Int32))), .val (.ref u_NONE), .val (.ref b38), .unset, .unset, .unset] [(.int ((pk.toUInt32 >>> ((8 : Int32) &&& 31).toUInt32).toInt32)), (.int (0 : Int32)), (.ref b38)])
      refine Go.st (fun _ => XS.sipush X38.here hx rfl (hb hby at_54)) ?_
      show Go p e below s _ _ _ T38 (mkF m 57 #[.val (.long y1), .second, .val (.long y2), .second, .val (.long qo), .second, .val (.long qe), .second, .val (.int pk), .val (.int ((pk &&& (2147483647 : Int32)) % (3 : Int32))), .val (.ref u_NONE), .val (.ref b38), .unset, .unset, .unset] [(.int (255 : Int32)), (.int ((pk.toUInt32 >>> ((8 : Int32) &&& 31).toUInt32).toInt32)), (.int (0 : Int32)), (.ref b38)])
      refine Go.st (fun _ => XS.iand X38.here hx rfl (hb hby at_57) rfl) ?_
      show Go p e below s _ _ _ T38 (mkF m 58 #[.val (.long y1), .second, .val (.long y2), .second, .val (.long qo), .second, .val (.long qe), .second, .val (.int pk), .val (.int ((pk &&& (2147483647 : Int32)) % (3 : Int32))), .val (.ref u_NONE), .val (.ref b38), .unset, .unset, .unset] [(.int (((pk.toUInt32 >>> ((8 : Int32) &&& 31).toUInt32).toInt32) &&& (255 : Int32))), (.int (0 : Int32)), (.ref b38)])
      refine Go.st (fun _ => XS.i2c X38.here hx rfl (hb hby at_58) rfl) ?_
      show Go p e below s _ _ _ T38 (mkF m 59 #[.val (.long y1), .second, .val (.long y2), .second, .val (.long qo), .second, .val (.long qe), .second, .val (.int pk), .val (.int ((pk &&& (2147483647 : Int32)) % (3 : Int32))), .val (.ref u_NONE), .val (.ref b38), .unset, .unset, .unset] [(.int ((((pk.toUInt32 >>> ((8 : Int32) &&& 31).toUInt32).toInt32) &&& (255 : Int32)).toUInt32.toUInt16.toUInt32.toInt32)), (.int (0 : Int32)), (.ref b38)])
      obtain ⟨ch39, hch39⟩ : ∃ z, z = ((((pk.toUInt32 >>> ((8 : Int32) &&& 31).toUInt32).toInt32) &&& (255 : Int32)).toUInt32.toUInt16.toUInt32.toInt32) := ⟨_, rfl⟩
      rw [← hch39]
      show Go p e below s _ _ _ T38 (mkF m 59 #[.val (.long y1), .second, .val (.long y2), .second, .val (.long qo), .second, .val (.long qe), .second, .val (.int pk), .val (.int ((pk &&& (2147483647 : Int32)) % (3 : Int32))), .val (.ref u_NONE), .val (.ref b38), .unset, .unset, .unset] [(.int ch39), (.int (0 : Int32)), (.ref b38)])
      have hcn : nar .char ch39 = ch39 := by rw [hch39]; exact own_nc _
      have hk40 : ¬ ((255 : Int32) < ch39) := by rw [hch39]; exact own_c255 _
      obtain ⟨cl41, Ar41, q41, S41, M41, H41, G41⟩ := id V_b38
      have hin41 : ¬ ((0 : Int32) < 0 ∨ cl41.slots.size ≤ ((0 : Int32)).toNatClampNeg) := inb_of S41 ⟨by decide, by decide⟩
      obtain ⟨T41, h41, X41, e41, W41, st41⟩ := stC X38 hx hZ e38 Ar41 (j := (0 : Int32)) hin41 (g := (mkF m 59 #[.val (.long y1), .second, .val (.long y2), .second, .val (.long qo), .second, .val (.long qe), .second, .val (.int pk), .val (.int ((pk &&& (2147483647 : Int32)) % (3 : Int32))), .val (.ref u_NONE), .val (.ref b38), .unset, .unset, .unset] [(.int ch39), (.int (0 : Int32)), (.ref b38)])) rfl rfl (hb hby at_59)
      refine Go.st st41 ?_
      rw [hcn] at W41
      have V41 : Arv Z h41 b38 kA38 .char (1 : Int32) [(.int ch39)] (.int (0 : Int32)) := Arv.set Ar41 q41 S41 M41 H41 G41 (by rw [← hcn]; exact fits_nar_char _) W41 0 rfl (Nat.le_of_ble_eq_true rfl)
      have N41 := Fr.snoc X41 N0 gg38
      have z41 : n0 ≤ h41.size := Nat.le_trans z38 (Nat.le_of_eq W41.size.symm)
      show Go p e below s _ _ _ T41 (mkF m 60 #[.val (.long y1), .second, .val (.long y2), .second, .val (.long qo), .second, .val (.long qe), .second, .val (.int pk), .val (.int ((pk &&& (2147483647 : Int32)) % (3 : Int32))), .val (.ref u_NONE), .val (.ref b38), .unset, .unset, .unset] [])
      obtain ⟨T42, h42, X42, e42, E42, A42, D42, -, st42⟩ := newO X41 hx hZ hown (hw _ (List.mem_of_getElem? (i := 5) rfl)) (hw _ (List.mem_of_getElem? (i := 6) rfl)) (hw _ (List.mem_of_getElem? (i := 7) rfl)) e41 (g := (mkF m 60 #[.val (.long y1), .second, .val (.long y2), .second, .val (.long qo), .second, .val (.long qe), .second, .val (.int pk), .val (.int ((pk &&& (2147483647 : Int32)) % (3 : Int32))), .val (.ref u_NONE), .val (.ref b38), .unset, .unset, .unset] [])) rfl (hb hby at_60) (by decide) (by decide)
      obtain ⟨b42, g42⟩ : ∃ z, z = h41.size := ⟨_, rfl⟩
      rw [← g42] at A42 D42 st42
      refine Go.st st42 ?_
      have ne_b38_b42 : b38 ≠ b42 := Nat.ne_of_lt (Nat.lt_of_lt_of_eq V41.lt g42.symm)
      have gg42 : n0 ≤ b42 := Nat.le_trans z41 (Nat.le_of_eq g42.symm)
      have z42 : n0 ≤ h42.size := Nat.le_trans z41 E42.1
      have F_coder_b42 : Fld Z h42 b42 "java/lang/String" "coder" "B" (.int (0 : Int32)) := D42 (Or.inr (hw _ (List.mem_of_getElem? (i := 31) rfl))) (ty := .byte) (by decide)
      have F_value_b42 : Fld Z h42 b42 "java/lang/String" "value" "[B" .null := D42 (Or.inr (hw _ (List.mem_of_getElem? (i := 33) rfl))) (ty := (.array .byte)) (by decide)
      show Go p e below s _ _ _ T42 (mkF m 63 #[.val (.long y1), .second, .val (.long y2), .second, .val (.long qo), .second, .val (.long qe), .second, .val (.int pk), .val (.int ((pk &&& (2147483647 : Int32)) % (3 : Int32))), .val (.ref u_NONE), .val (.ref b38), .unset, .unset, .unset] [(.ref b42)])
      refine Go.st (fun _ => XS.dup X42.here hx rfl (hb hby at_63) rfl rfl) ?_
      show Go p e below s _ _ _ T42 (mkF m 64 #[.val (.long y1), .second, .val (.long y2), .second, .val (.long qo), .second, .val (.long qe), .second, .val (.int pk), .val (.int ((pk &&& (2147483647 : Int32)) % (3 : Int32))), .val (.ref u_NONE), .val (.ref b38), .unset, .unset, .unset] [(.ref b42), (.ref b42)])
      refine Go.st (fun _ => XS.aload X42.here hx rfl (hb hby at_64) rfl rfl) ?_
      show Go p e below s _ _ _ T42 (mkF m 66 #[.val (.long y1), .second, .val (.long y2), .second, .val (.long qo), .second, .val (.long qe), .second, .val (.int pk), .val (.int ((pk &&& (2147483647 : Int32)) % (3 : Int32))), .val (.ref u_NONE), .val (.ref b38), .unset, .unset, .unset] [(.ref b38), (.ref b42), (.ref b42)])
      have f44 := (V41.ext E42)
      have f45 := (((S_COMPACT_STRINGS.ext E38).wr W41).ext E42)
      obtain ⟨_, _, ⟨T43, L43, kc43, nc43⟩, -, X43, ⟨Lc43, hQ43, l43, y43, z43⟩, st43⟩ := X42.specialBack hx (y := (⟨"java/lang/String", "<init>", "([C)V"⟩ : MethodName)) rfl hown (mvT hZ (hw _ (List.mem_of_getElem? (i := 8) rfl))) (mvT hZ (hw _ (List.mem_of_getElem? (i := 9) rfl))) (mvT hZ (hw _ (List.mem_of_getElem? (i := 10) rfl))) (by decide) (backOf (W := 1) (rmI1 l Z a0 hw [] b42 b38 kA38 ch39 cs h42 n0 z42 A42 F_value_b42 F_coder_b42 f44 f45 hcs hk40 gg42) hZ (hw _ (List.mem_of_getElem? (i := 10) rfl)) (hw _ (List.mem_of_getElem? (i := 7) rfl)) (by decide) (by decide)) (g := (mkF m 66 #[.val (.long y1), .second, .val (.long y2), .second, .val (.long qo), .second, .val (.long qe), .second, .val (.int pk), .val (.int ((pk &&& (2147483647 : Int32)) % (3 : Int32))), .val (.ref u_NONE), .val (.ref b38), .unset, .unset, .unset] [(.ref b38), (.ref b42), (.ref b42)])) rfl (by rw [hml]; rfl) (Steps.refl _) (a := b42) (argsL := [(.ref b38)]) (rest := [(.ref b42)]) (lenOf pd_5 rfl) rfl (by show 2 * 0 + _ ≤ _; exact Nat.le_of_eq rfl) (hb hby at_66) (fun _ _ => ⟨rfl, e42, (by decide : 2 + 1 ≤ _), (by decide : 5 + 1 ≤ _)⟩)
      dsimp only [Pt.U, Pt.locs, Pt.cells, Pt.slots] at X43 l43 y43 z43 st43 hQ43
      subst l43 y43 z43
      obtain ⟨h43, e43⟩ : ∃ hh, T43.heap = hh := ⟨_, rfl⟩
      rw [e43] at hQ43
      obtain ⟨rfl, N43q, K43, p43_0⟩ := hQ43
      have N43 := Fr.app N41 N43q
      refine Go.st (fun _ kk => st43.trans kk) ?_
      have z43q : n0 ≤ h43.size := Nat.le_trans z42 K43.1
      have ns43 : ∀ x ∈ ([b42] : List Addr), ∀ cell : Cell, h42[x]? = some cell → cell.vm.isStatics = false := (allS A42.nostat all0)
      show Go p e below s _ _ _ T43 (mkF m 69 #[.val (.long y1), .second, .val (.long y2), .second, .val (.long qo), .second, .val (.long qe), .second, .val (.int pk), .val (.int ((pk &&& (2147483647 : Int32)) % (3 : Int32))), .val (.ref u_NONE), .val (.ref b38), .unset, .unset, .unset] [(.ref b42)])
      refine Go.st (fun _ => XS.astore X43.here hx rfl (hb hby at_69) rfl rfl (l' := #[.val (.long y1), .second, .val (.long y2), .second, .val (.long qo), .second, .val (.long qe), .second, .val (.int pk), .val (.int ((pk &&& (2147483647 : Int32)) % (3 : Int32))), .val (.ref u_NONE), .val (.ref b38), .val (.ref b42), .unset, .unset]) rfl) ?_
      show Go p e below s _ _ _ T43 (mkF m 71 #[.val (.long y1), .second, .val (.long y2), .second, .val (.long qo), .second, .val (.long qe), .second, .val (.int pk), .val (.int ((pk &&& (2147483647 : Int32)) % (3 : Int32))), .val (.ref u_NONE), .val (.ref b38), .val (.ref b42), .unset, .unset] [])
      obtain ⟨T46, h46, X46, e46, E46, A46, D46, -, st46⟩ := newO X43 hx hZ hown (hw _ (List.mem_of_getElem? (i := 34) rfl)) (hw _ (List.mem_of_getElem? (i := 35) rfl)) (hw _ (List.mem_of_getElem? (i := 36) rfl)) e43 (g := (mkF m 71 #[.val (.long y1), .second, .val (.long y2), .second, .val (.long qo), .second, .val (.long qe), .second, .val (.int pk), .val (.int ((pk &&& (2147483647 : Int32)) % (3 : Int32))), .val (.ref u_NONE), .val (.ref b38), .val (.ref b42), .unset, .unset] [])) rfl (hb hby at_71) (by decide) (by decide)
      obtain ⟨b46, g46⟩ : ∃ z, z = h43.size := ⟨_, rfl⟩
      rw [← g46] at A46 D46 st46
      refine Go.st st46 ?_
      have f47 := (f44.keep K43 (ninS ne_b38_b42 nin0))
      have ne_b38_b46 : b38 ≠ b46 := Nat.ne_of_lt (Nat.lt_of_lt_of_eq f47.lt g46.symm)
      have ne_b42_b46 : b42 ≠ b46 := Nat.ne_of_lt (Nat.lt_of_lt_of_eq p43_0.lt g46.symm)
      have gg46 : n0 ≤ b46 := Nat.le_trans z43q (Nat.le_of_eq g46.symm)
      have z46 : n0 ≤ h46.size := Nat.le_trans z43q E46.1
      have F_name_b46 : Fld Z h46 b46 "com/example/reapd/reapd/TableStats" "name" "Ljava/lang/String;" .null := D46 (Or.inr (hw _ (List.mem_of_getElem? (i := 48) rfl))) (ty := (.object "java/lang/String")) (by decide)
      have F_strategy_b46 : Fld Z h46 b46 "com/example/reapd/reapd/TableStats" "strategy" "Lcom/example/reapd/reapd/SweepStrategy;" .null := D46 (Or.inr (hw _ (List.mem_of_getElem? (i := 50) rfl))) (ty := (.object "com/example/reapd/reapd/SweepStrategy")) (by decide)
      have F_keys_b46 : Fld Z h46 b46 "com/example/reapd/reapd/TableStats" "keys" "J" (.long (0 : Int64)) := D46 (Or.inr (hw _ (List.mem_of_getElem? (i := 52) rfl))) (ty := .long) (by decide)
      have F_versions_b46 : Fld Z h46 b46 "com/example/reapd/reapd/TableStats" "versions" "J" (.long (0 : Int64)) := D46 (Or.inr (hw _ (List.mem_of_getElem? (i := 54) rfl))) (ty := .long) (by decide)
      have F_tombstones_b46 : Fld Z h46 b46 "com/example/reapd/reapd/TableStats" "tombstones" "J" (.long (0 : Int64)) := D46 (Or.inr (hw _ (List.mem_of_getElem? (i := 56) rfl))) (ty := .long) (by decide)
      have F_sentinels_b46 : Fld Z h46 b46 "com/example/reapd/reapd/TableStats" "sentinels" "J" (.long (0 : Int64)) := D46 (Or.inr (hw _ (List.mem_of_getElem? (i := 58) rfl))) (ty := .long) (by decide)
      have F_expirySeconds_b46 : Fld Z h46 b46 "com/example/reapd/reapd/TableStats" "expirySeconds" "J" (.long (0 : Int64)) := D46 (Or.inr (hw _ (List.mem_of_getElem? (i := 60) rfl))) (ty := .long) (by decide)
      have F_expiring_b46 : Fld Z h46 b46 "com/example/reapd/reapd/TableStats" "expiring" "J" (.long (0 : Int64)) := D46 (Or.inr (hw _ (List.mem_of_getElem? (i := 62) rfl))) (ty := .long) (by decide)
      have F_expired_b46 : Fld Z h46 b46 "com/example/reapd/reapd/TableStats" "expired" "J" (.long (0 : Int64)) := D46 (Or.inr (hw _ (List.mem_of_getElem? (i := 64) rfl))) (ty := .long) (by decide)
      show Go p e below s _ _ _ T46 (mkF m 74 #[.val (.long y1), .second, .val (.long y2), .second, .val (.long qo), .second, .val (.long qe), .second, .val (.int pk), .val (.int ((pk &&& (2147483647 : Int32)) % (3 : Int32))), .val (.ref u_NONE), .val (.ref b38), .val (.ref b42), .unset, .unset] [(.ref b46)])
      refine Go.st (fun _ => XS.dup X46.here hx rfl (hb hby at_74) rfl rfl) ?_
      show Go p e below s _ _ _ T46 (mkF m 75 #[.val (.long y1), .second, .val (.long y2), .second, .val (.long qo), .second, .val (.long qe), .second, .val (.int pk), .val (.int ((pk &&& (2147483647 : Int32)) % (3 : Int32))), .val (.ref u_NONE), .val (.ref b38), .val (.ref b42), .unset, .unset] [(.ref b46), (.ref b46)])
      refine Go.st (fun _ => XS.aload X46.here hx rfl (hb hby at_75) rfl rfl) ?_
      show Go p e below s _ _ _ T46 (mkF m 77 #[.val (.long y1), .second, .val (.long y2), .second, .val (.long qo), .second, .val (.long qe), .second, .val (.int pk), .val (.int ((pk &&& (2147483647 : Int32)) % (3 : Int32))), .val (.ref u_NONE), .val (.ref b38), .val (.ref b42), .unset, .unset] [(.ref b42), (.ref b46), (.ref b46)])
      refine Go.st (fun _ => XS.aload X46.here hx rfl (hb hby at_77) rfl rfl) ?_
      show Go p e below s _ _ _ T46 (mkF m 79 #[.val (.long y1), .second, .val (.long y2), .second, .val (.long qo), .second, .val (.long qe), .second, .val (.int pk), .val (.int ((pk &&& (2147483647 : Int32)) % (3 : Int32))), .val (.ref u_NONE), .val (.ref b38), .val (.ref b42), .unset, .unset] [(.ref u_NONE), (.ref b42), (.ref b46), (.ref b46)])
      refine Go.st (fun _ => XS.lload X46.here hx rfl (hb hby at_79) rfl) ?_
      show Go p e below s _ _ _ T46 (mkF m 81 #[.val (.long y1), .second, .val (.long y2), .second, .val (.long qo), .second, .val (.long qe), .second, .val (.int pk), .val (.int ((pk &&& (2147483647 : Int32)) % (3 : Int32))), .val (.ref u_NONE), .val (.ref b38), .val (.ref b42), .unset, .unset] [(.long qo), (.ref u_NONE), (.ref b42), (.ref b46), (.ref b46)])
      refine Go.st (fun _ => XS.lload X46.here hx rfl (hb hby at_81) rfl) ?_
      show Go p e below s _ _ _ T46 (mkF m 83 #[.val (.long y1), .second, .val (.long y2), .second, .val (.long qo), .second, .val (.long qe), .second, .val (.int pk), .val (.int ((pk &&& (2147483647 : Int32)) % (3 : Int32))), .val (.ref u_NONE), .val (.ref b38), .val (.ref b42), .unset, .unset] [(.long qo), (.long qo), (.ref u_NONE), (.ref b42), (.ref b46), (.ref b46)])
      refine Go.st (fun tG => X46.ldc2Long hx hown (mvT hZ (hw _ (List.mem_of_getElem? (i := 37) rfl))) (g := (mkF m 83 #[.val (.long y1), .second, .val (.long y2), .second, .val (.long qo), .second, .val (.long qe), .second, .val (.int pk), .val (.int ((pk &&& (2147483647 : Int32)) % (3 : Int32))), .val (.ref u_NONE), .val (.ref b38), .val (.ref b42), .unset, .unset] [(.long qo), (.long qo), (.ref u_NONE), (.ref b42), (.ref b46), (.ref b46)])) rfl (hb hby at_83) tG) ?_
      show Go p e below s _ _ _ T46 (mkF m 86 #[.val (.long y1), .second, .val (.long y2), .second, .val (.long qo), .second, .val (.long qe), .second, .val (.int pk), .val (.int ((pk &&& (2147483647 : Int32)) % (3 : Int32))), .val (.ref u_NONE), .val (.ref b38), .val (.ref b42), .unset, .unset] [(.long (-1 : Int64)), (.long qo), (.long qo), (.ref u_NONE), (.ref b42), (.ref b46), (.ref b46)])
      refine Go.st (fun _ => XS.lxor X46.here hx rfl (hb hby at_86) rfl) ?_
      show Go p e below s _ _ _ T46 (mkF m 87 #[.val (.long y1), .second, .val (.long y2), .second, .val (.long qo), .second, .val (.long qe), .second, .val (.int pk), .val (.int ((pk &&& (2147483647 : Int32)) % (3 : Int32))), .val (.ref u_NONE), .val (.ref b38), .val (.ref b42), .unset, .unset] [(.long (qo ^^^ (-1 : Int64))), (.long qo), (.ref u_NONE), (.ref b42), (.ref b46), (.ref b46)])
      refine Go.st (fun _ => XS.lload X46.here hx rfl (hb hby at_87) rfl) ?_
      show Go p e below s _ _ _ T46 (mkF m 89 #[.val (.long y1), .second, .val (.long y2), .second, .val (.long qo), .second, .val (.long qe), .second, .val (.int pk), .val (.int ((pk &&& (2147483647 : Int32)) % (3 : Int32))), .val (.ref u_NONE), .val (.ref b38), .val (.ref b42), .unset, .unset] [(.long qo), (.long (qo ^^^ (-1 : Int64))), (.long qo), (.ref u_NONE), (.ref b42), (.ref b46), (.ref b46)])
      refine Go.st (fun _ => XS.iconst X46.here hx rfl (hb hby at_89)) ?_
      show Go p e below s _ _ _ T46 (mkF m 90 #[.val (.long y1), .second, .val (.long y2), .second, .val (.long qo), .second, .val (.long qe), .second, .val (.int pk), .val (.int ((pk &&& (2147483647 : Int32)) % (3 : Int32))), .val (.ref u_NONE), .val (.ref b38), .val (.ref b42), .unset, .unset] [(.int (1 : Int32)), (.long qo), (.long (qo ^^^ (-1 : Int64))), (.long qo), (.ref u_NONE), (.ref b42), (.ref b46), (.ref b46)])
      refine Go.st (fun _ => XS.lushr X46.here hx rfl (hb hby at_90) rfl) ?_
      show Go p e below s _ _ _ T46 (mkF m 91 #[.val (.long y1), .second, .val (.long y2), .second, .val (.long qo), .second, .val (.long qe), .second, .val (.int pk), .val (.int ((pk &&& (2147483647 : Int32)) % (3 : Int32))), .val (.ref u_NONE), .val (.ref b38), .val (.ref b42), .unset, .unset] [(.long ((qo.toUInt64 >>> ((1 : Int32) &&& 0x3f).toInt64.toUInt64).toInt64)), (.long (qo ^^^ (-1 : Int64))), (.long qo), (.ref u_NONE), (.ref b42), (.ref b46), (.ref b46)])
      refine Go.st (fun _ => XS.lload X46.here hx rfl (hb hby at_91) rfl) ?_
      show Go p e below s _ _ _ T46 (mkF m 93 #[.val (.long y1), .second, .val (.long y2), .second, .val (.long qo), .second, .val (.long qe), .second, .val (.int pk), .val (.int ((pk &&& (2147483647 : Int32)) % (3 : Int32))), .val (.ref u_NONE), .val (.ref b38), .val (.ref b42), .unset, .unset] [(.long qo), (.long ((qo.toUInt64 >>> ((1 : Int32) &&& 0x3f).toInt64.toUInt64).toInt64)), (.long (qo ^^^ (-1 : Int64))), (.long qo), (.ref u_NONE), (.ref b42), (.ref b46), (.ref b46)])
      refine Go.st (fun _ => XS.lload X46.here hx rfl (hb hby at_93) rfl) ?_
      show Go p e below s _ _ _ T46 (mkF m 95 #[.val (.long y1), .second, .val (.long y2), .second, .val (.long qo), .second, .val (.long qe), .second, .val (.int pk), .val (.int ((pk &&& (2147483647 : Int32)) % (3 : Int32))), .val (.ref u_NONE), .val (.ref b38), .val (.ref b42), .unset, .unset] [(.long qe), (.long qo), (.long ((qo.toUInt64 >>> ((1 : Int32) &&& 0x3f).toInt64.toUInt64).toInt64)), (.long (qo ^^^ (-1 : Int64))), (.long qo), (.ref u_NONE), (.ref b42), (.ref b46), (.ref b46)])
      refine Go.st (fun _ => XS.lxor X46.here hx rfl (hb hby at_95) rfl) ?_
      show Go p e below s _ _ _ T46 (mkF m 96 #[.val (.long y1), .second, .val (.long y2), .second, .val (.long qo), .second, .val (.long qe), .second, .val (.int pk), .val (.int ((pk &&& (2147483647 : Int32)) % (3 : Int32))), .val (.ref u_NONE), .val (.ref b38), .val (.ref b42), .unset, .unset] [(.long (qo ^^^ qe)), (.long ((qo.toUInt64 >>> ((1 : Int32) &&& 0x3f).toInt64.toUInt64).toInt64)), (.long (qo ^^^ (-1 : Int64))), (.long qo), (.ref u_NONE), (.ref b42), (.ref b46), (.ref b46)])
      refine Go.st (fun _ => XS.lloadN X46.here hx rfl (hb hby at_96) rfl) ?_
      show Go p e below s _ _ _ T46 (mkF m 97 #[.val (.long y1), .second, .val (.long y2), .second, .val (.long qo), .second, .val (.long qe), .second, .val (.int pk), .val (.int ((pk &&& (2147483647 : Int32)) % (3 : Int32))), .val (.ref u_NONE), .val (.ref b38), .val (.ref b42), .unset, .unset] [(.long y1), (.long (qo ^^^ qe)), (.long ((qo.toUInt64 >>> ((1 : Int32) &&& 0x3f).toInt64.toUInt64).toInt64)), (.long (qo ^^^ (-1 : Int64))), (.long qo), (.ref u_NONE), (.ref b42), (.ref b46), (.ref b46)])
      refine Go.st (fun _ => XS.lloadN X46.here hx rfl (hb hby at_97) rfl) ?_
      show Go p e below s _ _ _ T46 (mkF m 98 #[.val (.long y1), .second, .val (.long y2), .second, .val (.long qo), .second, .val (.long qe), .second, .val (.int pk), .val (.int ((pk &&& (2147483647 : Int32)) % (3 : Int32))), .val (.ref u_NONE), .val (.ref b38), .val (.ref b42), .unset, .unset] [(.long y2), (.long y1), (.long (qo ^^^ qe)), (.long ((qo.toUInt64 >>> ((1 : Int32) &&& 0x3f).toInt64.toUInt64).toInt64)), (.long (qo ^^^ (-1 : Int64))), (.long qo), (.ref u_NONE), (.ref b42), (.ref b46), (.ref b46)])
      refine Go.st (fun _ => XS.lload X46.here hx rfl (hb hby at_98) rfl) ?_
      show Go p e below s _ _ _ T46 (mkF m 100 #[.val (.long y1), .second, .val (.long y2), .second, .val (.long qo), .second, .val (.long qe), .second, .val (.int pk), .val (.int ((pk &&& (2147483647 : Int32)) % (3 : Int32))), .val (.ref u_NONE), .val (.ref b38), .val (.ref b42), .unset, .unset] [(.long qe), (.long y2), (.long y1), (.long (qo ^^^ qe)), (.long ((qo.toUInt64 >>> ((1 : Int32) &&& 0x3f).toInt64.toUInt64).toInt64)), (.long (qo ^^^ (-1 : Int64))), (.long qo), (.ref u_NONE), (.ref b42), (.ref b46), (.ref b46)])
      obtain ⟨_, _, ⟨T48, L48, kc48, nc48⟩, -, X48, ⟨Lc48, hQ48, l48, y48, z48⟩, st48⟩ := X46.specialBack hx (y := (⟨"com/example/reapd/reapd/TableStats", "<init>", "(Ljava/lang/String;Lcom/example/reapd/reapd/SweepStrategy;JJJJJJJ)V"⟩ : MethodName)) rfl hown (mvT hZ (hw _ (List.mem_of_getElem? (i := 38) rfl))) (mvT hZ (hw _ (List.mem_of_getElem? (i := 39) rfl))) (mvT hZ (hw _ (List.mem_of_getElem? (i := 40) rfl))) (by decide) (backOf (W := 1) (rmTi l Z a0 hw [] b46 b42 u_NONE qo (qo ^^^ (-1 : Int64)) ((qo.toUInt64 >>> ((1 : Int32) &&& 0x3f).toInt64.toUInt64).toInt64) (qo ^^^ qe) y1 y2 qe h46 n0 z46 A46 F_name_b46 F_strategy_b46 F_keys_b46 F_versions_b46 F_tombstones_b46 F_sentinels_b46 F_expirySeconds_b46 F_expiring_b46 F_expired_b46 gg46) hZ (hw _ (List.mem_of_getElem? (i := 40) rfl)) (hw _ (List.mem_of_getElem? (i := 36) rfl)) (by decide) (by decide)) (g := (mkF m 100 #[.val (.long y1), .second, .val (.long y2), .second, .val (.long qo), .second, .val (.long qe), .second, .val (.int pk), .val (.int ((pk &&& (2147483647 : Int32)) % (3 : Int32))), .val (.ref u_NONE), .val (.ref b38), .val (.ref b42), .unset, .unset] [(.long qe), (.long y2), (.long y1), (.long (qo ^^^ qe)), (.long ((qo.toUInt64 >>> ((1 : Int32) &&& 0x3f).toInt64.toUInt64).toInt64)), (.long (qo ^^^ (-1 : Int64))), (.long qo), (.ref u_NONE), (.ref b42), (.ref b46), (.ref b46)])) rfl (by rw [hml]; rfl) (Steps.refl _) (a := b46) (argsL := [(.ref b42), (.ref u_NONE), (.long qo), (.long (qo ^^^ (-1 : Int64))), (.long ((qo.toUInt64 >>> ((1 : Int32) &&& 0x3f).toInt64.toUInt64).toInt64)), (.long (qo ^^^ qe)), (.long y1), (.long y2), (.long qe)]) (rest := [(.ref b46)]) (lenOf pd_6 rfl) rfl (by show 2 * 0 + _ ≤ _; exact Nat.le_of_eq rfl) (hb hby at_100) (fun _ _ => ⟨rfl, e46, (by decide : 4 + 0 ≤ _), (by decide : 15 + 0 ≤ _)⟩)
      dsimp only [Pt.U, Pt.locs, Pt.cells, Pt.slots] at X48 l48 y48 z48 st48 hQ48
      subst l48 y48 z48
      obtain ⟨h48, e48⟩ : ∃ hh, T48.heap = hh := ⟨_, rfl⟩
      rw [e48] at hQ48
      obtain ⟨rfl, N48q, K48, p48_0, p48_1, p48_2⟩ := hQ48
      have N48 := Fr.app N43 N48q
      refine Go.st (fun _ kk => st48.trans kk) ?_
      have z48q : n0 ≤ h48.size := Nat.le_trans z46 K48.1
      have ns48 : ∀ x ∈ ([b46] : List Addr), ∀ cell : Cell, h46[x]? = some cell → cell.vm.isStatics = false := (allS A46.nostat all0)
      show Go p e below s _ _ _ T48 (mkF m 103 #[.val (.long y1), .second, .val (.long y2), .second, .val (.long qo), .second, .val (.long qe), .second, .val (.int pk), .val (.int ((pk &&& (2147483647 : Int32)) % (3 : Int32))), .val (.ref u_NONE), .val (.ref b38), .val (.ref b42), .unset, .unset] [(.ref b46)])
      refine Go.st (fun _ => XS.astore X48.here hx rfl (hb hby at_103) rfl rfl (l' := #[.val (.long y1), .second, .val (.long y2), .second, .val (.long qo), .second, .val (.long qe), .second, .val (.int pk), .val (.int ((pk &&& (2147483647 : Int32)) % (3 : Int32))), .val (.ref u_NONE), .val (.ref b38), .val (.ref b42), .val (.ref b46), .unset]) rfl) ?_
      show Go p e below s _ _ _ T48 (mkF m 105 #[.val (.long y1), .second, .val (.long y2), .second, .val (.long qo), .second, .val (.long qe), .second, .val (.int pk), .val (.int ((pk &&& (2147483647 : Int32)) % (3 : Int32))), .val (.ref u_NONE), .val (.ref b38), .val (.ref b42), .val (.ref b46), .unset] [])
      refine Go.st (fun _ => XS.lloadN X48.here hx rfl (hb hby at_105) rfl) ?_
      show Go p e below s _ _ _ T48 (mkF m 106 #[.val (.long y1), .second, .val (.long y2), .second, .val (.long qo), .second, .val (.long qe), .second, .val (.int pk), .val (.int ((pk &&& (2147483647 : Int32)) % (3 : Int32))), .val (.ref u_NONE), .val (.ref b38), .val (.ref b42), .val (.ref b46), .unset] [(.long y1)])
      refine Go.st (fun _ => XS.lconst X48.here hx rfl (hb hby at_106)) ?_
      show Go p e below s _ _ _ T48 (mkF m 107 #[.val (.long y1), .second, .val (.long y2), .second, .val (.long qo), .second, .val (.long qe), .second, .val (.int pk), .val (.int ((pk &&& (2147483647 : Int32)) % (3 : Int32))), .val (.ref u_NONE), .val (.ref b38), .val (.ref b42), .val (.ref b46), .unset] [(.long (1 : Int64)), (.long y1)])
      refine Go.st (fun _ => XS.lcmp X48.here hx rfl (hb hby at_107) rfl) ?_
      show Go p e below s _ _ _ T48 (mkF m 108 #[.val (.long y1), .second, .val (.long y2), .second, .val (.long qo), .second, .val (.long qe), .second, .val (.int pk), .val (.int ((pk &&& (2147483647 : Int32)) % (3 : Int32))), .val (.ref u_NONE), .val (.ref b38), .val (.ref b42), .val (.ref b46), .unset] [(.int (lcmpW y1 (1 : Int64)))])
      by_cases hc49 : y1 < (1 : Int64)
      · refine Go.st (fun _ => XS.ifYes X48.here hx rfl (pc0 := 108) (pc' := 117) rfl (hb hby at_108) rfl ((if0 _ _).trans (tlt ((lw_lt y1 (1 : Int64)).mpr hc49)).1) (by decide) (by decide)) ?_
        show Go p e below s _ _ _ T48 (mkF m 117 #[.val (.long y1), .second, .val (.long y2), .second, .val (.long qo), .second, .val (.long qe), .second, .val (.int pk), .val (.int ((pk &&& (2147483647 : Int32)) % (3 : Int32))), .val (.ref u_NONE), .val (.ref b38), .val (.ref b42), .val (.ref b46), .unset] [])
        refine Go.st (fun _ => XS.lloadN X48.here hx rfl (hb hby at_117) rfl) ?_
        show Go p e below s _ _ _ T48 (mkF m 118 #[.val (.long y1), .second, .val (.long y2), .second, .val (.long qo), .second, .val (.long qe), .second, .val (.int pk), .val (.int ((pk &&& (2147483647 : Int32)) % (3 : Int32))), .val (.ref u_NONE), .val (.ref b38), .val (.ref b42), .val (.ref b46), .unset] [(.long y2)])
        refine Go.st (fun _ => XS.lconst X48.here hx rfl (hb hby at_118)) ?_
        show Go p e below s _ _ _ T48 (mkF m 119 #[.val (.long y1), .second, .val (.long y2), .second, .val (.long qo), .second, .val (.long qe), .second, .val (.int pk), .val (.int ((pk &&& (2147483647 : Int32)) % (3 : Int32))), .val (.ref u_NONE), .val (.ref b38), .val (.ref b42), .val (.ref b46), .unset] [(.long (1 : Int64)), (.long y2)])
        refine Go.st (fun _ => XS.lcmp X48.here hx rfl (hb hby at_119) rfl) ?_
        show Go p e below s _ _ _ T48 (mkF m 120 #[.val (.long y1), .second, .val (.long y2), .second, .val (.long qo), .second, .val (.long qe), .second, .val (.int pk), .val (.int ((pk &&& (2147483647 : Int32)) % (3 : Int32))), .val (.ref u_NONE), .val (.ref b38), .val (.ref b42), .val (.ref b46), .unset] [(.int (lcmpW y2 (1 : Int64)))])
        by_cases hc50 : y2 < (1 : Int64)
        · refine Go.st (fun _ => XS.ifYes X48.here hx rfl (pc0 := 120) (pc' := 129) rfl (hb hby at_120) rfl ((if0 _ _).trans (tlt ((lw_lt y2 (1 : Int64)).mpr hc50)).1) (by decide) (by decide)) ?_
          show Go p e below s _ _ _ T48 (mkF m 129 #[.val (.long y1), .second, .val (.long y2), .second, .val (.long qo), .second, .val (.long qe), .second, .val (.int pk), .val (.int ((pk &&& (2147483647 : Int32)) % (3 : Int32))), .val (.ref u_NONE), .val (.ref b38), .val (.ref b42), .val (.ref b46), .unset] [])
          refine Go.st (fun _ => XS.iconst X48.here hx rfl (hb hby at_129)) ?_
          show Go p e below s _ _ _ T48 (mkF m 130 #[.val (.long y1), .second, .val (.long y2), .second, .val (.long qo), .second, .val (.long qe), .second, .val (.int pk), .val (.int ((pk &&& (2147483647 : Int32)) % (3 : Int32))), .val (.ref u_NONE), .val (.ref b38), .val (.ref b42), .val (.ref b46), .unset] [(.int (0 : Int32))])
          refine Go.st (fun _ => XS.istore X48.here hx rfl (hb hby at_130) rfl (l' := #[.val (.long y1), .second, .val (.long y2), .second, .val (.long qo), .second, .val (.long qe), .second, .val (.int pk), .val (.int ((pk &&& (2147483647 : Int32)) % (3 : Int32))), .val (.ref u_NONE), .val (.ref b38), .val (.ref b42), .val (.ref b46), .val (.int (0 : Int32))]) rfl) ?_
          show Go p e below s _ _ _ T48 (mkF m 132 #[.val (.long y1), .second, .val (.long y2), .second, .val (.long qo), .second, .val (.long qe), .second, .val (.int pk), .val (.int ((pk &&& (2147483647 : Int32)) % (3 : Int32))), .val (.ref u_NONE), .val (.ref b38), .val (.ref b42), .val (.ref b46), .val (.int (0 : Int32))] [])
          refine Go.st (fun _ => XS.aload X48.here hx rfl (hb hby at_132) rfl rfl) ?_
          show Go p e below s _ _ _ T48 (mkF m 134 #[.val (.long y1), .second, .val (.long y2), .second, .val (.long qo), .second, .val (.long qe), .second, .val (.int pk), .val (.int ((pk &&& (2147483647 : Int32)) % (3 : Int32))), .val (.ref u_NONE), .val (.ref b38), .val (.ref b42), .val (.ref b46), .val (.int (0 : Int32))] [(.ref b46)])
          obtain ⟨cq51, kq51, q51a, q51b, q51c⟩ := isOf hZ e48 p48_0
          obtain ⟨_, _, ⟨T51, L51, kc51, nc51⟩, -, X51, ⟨Lc51, hQ51, l51, y51, z51⟩, st51⟩ := X48.virtualBack hx (y := (⟨"com/example/reapd/reapd/TableStats", "expires", "()Z"⟩ : MethodName)) (z := (⟨"com/example/reapd/reapd/TableStats", "expires", "()Z"⟩ : MethodName)) hown (mvT hZ (hw _ (List.mem_of_getElem? (i := 65) rfl))) (mvT hZ (hw _ (List.mem_of_getElem? (i := 66) rfl))) (notFace_of_selects (args := #[]) (mvT hZ (hw _ (List.mem_of_getElem? (i := 68) rfl)))) (mvT hZ (hw _ (List.mem_of_getElem? (i := 68) rfl))) (mvT hZ (hw _ (List.mem_of_getElem? (i := 67) rfl))) (by decide) (backOf (W := 0) (rmEp l Z a0 hw [] b46 y1 y2 h48 n0 z48q p48_1 p48_2) hZ (hw _ (List.mem_of_getElem? (i := 69) rfl)) (hw _ (List.mem_of_getElem? (i := 36) rfl)) (by decide) (by decide)) q51a q51c (g := (mkF m 134 #[.val (.long y1), .second, .val (.long y2), .second, .val (.long qo), .second, .val (.long qe), .second, .val (.int pk), .val (.int ((pk &&& (2147483647 : Int32)) % (3 : Int32))), .val (.ref u_NONE), .val (.ref b38), .val (.ref b42), .val (.ref b46), .val (.int (0 : Int32))] [(.ref b46)])) rfl (by rw [hml]; rfl) (Steps.refl _) (argsL := []) (rest := []) (lenOf pd_7 rfl) rfl (by show 2 * 0 + _ ≤ _; exact Nat.le_of_eq rfl) (hb hby at_134) (fun _ _ => ⟨rfl, e48, (by decide : 4 + 0 ≤ _), (by decide : 15 + 0 ≤ _)⟩)
          dsimp only [Pt.U, Pt.locs, Pt.cells, Pt.slots] at X51 l51 y51 z51 st51 hQ51
          subst l51 y51 z51
          obtain ⟨h51, e51⟩ : ∃ hh, T51.heap = hh := ⟨_, rfl⟩
          rw [e51] at hQ51
          obtain ⟨rfl, N51q, sm51⟩ := hQ51
          have N51 := Fr.app N48 N51q
          refine Go.st (fun _ kk => st51.trans kk) ?_
          rw [sm51] at e51
          show Go p e below s _ _ _ T51 (mkF m 137 #[.val (.long y1), .second, .val (.long y2), .second, .val (.long qo), .second, .val (.long qe), .second, .val (.int pk), .val (.int ((pk &&& (2147483647 : Int32)) % (3 : Int32))), .val (.ref u_NONE), .val (.ref b38), .val (.ref b42), .val (.ref b46), .val (.int (0 : Int32))] [(.int (b2i ((0 : Int64) < y1 ∨ (0 : Int64) < y2)))])
          rw [show (b2i ((0 : Int64) < y1 ∨ (0 : Int64) < y2)) = (0 : Int32) from b2i_neg (fun q => q.elim (own_lt hc49) (own_lt hc50))]
          show Go p e below s _ _ _ T51 (mkF m 137 #[.val (.long y1), .second, .val (.long y2), .second, .val (.long qo), .second, .val (.long qe), .second, .val (.int pk), .val (.int ((pk &&& (2147483647 : Int32)) % (3 : Int32))), .val (.ref u_NONE), .val (.ref b38), .val (.ref b42), .val (.ref b46), .val (.int (0 : Int32))] [(.int (0 : Int32))])
          refine Go.st (fun _ => XS.iload X51.here hx rfl (hb hby at_137) rfl) ?_
          show Go p e below s _ _ _ T51 (mkF m 139 #[.val (.long y1), .second, .val (.long y2), .second, .val (.long qo), .second, .val (.long qe), .second, .val (.int pk), .val (.int ((pk &&& (2147483647 : Int32)) % (3 : Int32))), .val (.ref u_NONE), .val (.ref b38), .val (.ref b42), .val (.ref b46), .val (.int (0 : Int32))] [(.int (0 : Int32)), (.int (0 : Int32))])
          refine Go.st (fun _ => XS.icmpNo X51.here hx rfl (hb hby at_139) rfl (teq (by decide : (0 : Int32) = (0 : Int32))).2) ?_
          show Go p e below s _ _ _ T51 (mkF m 142 #[.val (.long y1), .second, .val (.long y2), .second, .val (.long qo), .second, .val (.long qe), .second, .val (.int pk), .val (.int ((pk &&& (2147483647 : Int32)) % (3 : Int32))), .val (.ref u_NONE), .val (.ref b38), .val (.ref b42), .val (.ref b46), .val (.int (0 : Int32))] [])
          refine Go.st (fun _ => XS.iconst X51.here hx rfl (hb hby at_142)) ?_
          show Go p e below s _ _ _ T51 (mkF m 143 #[.val (.long y1), .second, .val (.long y2), .second, .val (.long qo), .second, .val (.long qe), .second, .val (.int pk), .val (.int ((pk &&& (2147483647 : Int32)) % (3 : Int32))), .val (.ref u_NONE), .val (.ref b38), .val (.ref b42), .val (.ref b46), .val (.int (0 : Int32))] [(.int (1 : Int32))])
          refine Go.st (fun _ => XS.goto X51.here hx rfl (pc0 := 143) (pc' := 147) rfl (hb hby at_143) (by decide) (by decide)) ?_
          show Go p e below s _ _ _ T51 (mkF m 147 #[.val (.long y1), .second, .val (.long y2), .second, .val (.long qo), .second, .val (.long qe), .second, .val (.int pk), .val (.int ((pk &&& (2147483647 : Int32)) % (3 : Int32))), .val (.ref u_NONE), .val (.ref b38), .val (.ref b42), .val (.ref b46), .val (.int (0 : Int32))] [(.int (1 : Int32))])
          exact Go.retZ X51 hx hlk Bd.returns (hb hby at_147) rfl (by rw [e51]; exact ⟨rfl, N51⟩) (by decide) (by decide)
        · refine Go.st (fun _ => XS.ifNo X48.here hx rfl (hb hby at_120) rfl ((if0 _ _).trans (flt (fun qq => hc50 ((lw_lt y2 (1 : Int64)).mp qq))).1)) ?_
          show Go p e below s _ _ _ T48 (mkF m 123 #[.val (.long y1), .second, .val (.long y2), .second, .val (.long qo), .second, .val (.long qe), .second, .val (.int pk), .val (.int ((pk &&& (2147483647 : Int32)) % (3 : Int32))), .val (.ref u_NONE), .val (.ref b38), .val (.ref b42), .val (.ref b46), .unset] [])
          refine Go.st (fun _ => XS.iconst X48.here hx rfl (hb hby at_123)) ?_
          show Go p e below s _ _ _ T48 (mkF m 124 #[.val (.long y1), .second, .val (.long y2), .second, .val (.long qo), .second, .val (.long qe), .second, .val (.int pk), .val (.int ((pk &&& (2147483647 : Int32)) % (3 : Int32))), .val (.ref u_NONE), .val (.ref b38), .val (.ref b42), .val (.ref b46), .unset] [(.int (1 : Int32))])
          refine Go.st (fun _ => XS.istore X48.here hx rfl (hb hby at_124) rfl (l' := #[.val (.long y1), .second, .val (.long y2), .second, .val (.long qo), .second, .val (.long qe), .second, .val (.int pk), .val (.int ((pk &&& (2147483647 : Int32)) % (3 : Int32))), .val (.ref u_NONE), .val (.ref b38), .val (.ref b42), .val (.ref b46), .val (.int (1 : Int32))]) rfl) ?_
          show Go p e below s _ _ _ T48 (mkF m 126 #[.val (.long y1), .second, .val (.long y2), .second, .val (.long qo), .second, .val (.long qe), .second, .val (.int pk), .val (.int ((pk &&& (2147483647 : Int32)) % (3 : Int32))), .val (.ref u_NONE), .val (.ref b38), .val (.ref b42), .val (.ref b46), .val (.int (1 : Int32))] [])
          refine Go.st (fun _ => XS.goto X48.here hx rfl (pc0 := 126) (pc' := 132) rfl (hb hby at_126) (by decide) (by decide)) ?_
          show Go p e below s _ _ _ T48 (mkF m 132 #[.val (.long y1), .second, .val (.long y2), .second, .val (.long qo), .second, .val (.long qe), .second, .val (.int pk), .val (.int ((pk &&& (2147483647 : Int32)) % (3 : Int32))), .val (.ref u_NONE), .val (.ref b38), .val (.ref b42), .val (.ref b46), .val (.int (1 : Int32))] [])
          refine Go.st (fun _ => XS.aload X48.here hx rfl (hb hby at_132) rfl rfl) ?_
          show Go p e below s _ _ _ T48 (mkF m 134 #[.val (.long y1), .second, .val (.long y2), .second, .val (.long qo), .second, .val (.long qe), .second, .val (.int pk), .val (.int ((pk &&& (2147483647 : Int32)) % (3 : Int32))), .val (.ref u_NONE), .val (.ref b38), .val (.ref b42), .val (.ref b46), .val (.int (1 : Int32))] [(.ref b46)])
          obtain ⟨cq52, kq52, q52a, q52b, q52c⟩ := isOf hZ e48 p48_0
          obtain ⟨_, _, ⟨T52, L52, kc52, nc52⟩, -, X52, ⟨Lc52, hQ52, l52, y52, z52⟩, st52⟩ := X48.virtualBack hx (y := (⟨"com/example/reapd/reapd/TableStats", "expires", "()Z"⟩ : MethodName)) (z := (⟨"com/example/reapd/reapd/TableStats", "expires", "()Z"⟩ : MethodName)) hown (mvT hZ (hw _ (List.mem_of_getElem? (i := 65) rfl))) (mvT hZ (hw _ (List.mem_of_getElem? (i := 66) rfl))) (notFace_of_selects (args := #[]) (mvT hZ (hw _ (List.mem_of_getElem? (i := 68) rfl)))) (mvT hZ (hw _ (List.mem_of_getElem? (i := 68) rfl))) (mvT hZ (hw _ (List.mem_of_getElem? (i := 67) rfl))) (by decide) (backOf (W := 0) (rmEp l Z a0 hw [] b46 y1 y2 h48 n0 z48q p48_1 p48_2) hZ (hw _ (List.mem_of_getElem? (i := 69) rfl)) (hw _ (List.mem_of_getElem? (i := 36) rfl)) (by decide) (by decide)) q52a q52c (g := (mkF m 134 #[.val (.long y1), .second, .val (.long y2), .second, .val (.long qo), .second, .val (.long qe), .second, .val (.int pk), .val (.int ((pk &&& (2147483647 : Int32)) % (3 : Int32))), .val (.ref u_NONE), .val (.ref b38), .val (.ref b42), .val (.ref b46), .val (.int (1 : Int32))] [(.ref b46)])) rfl (by rw [hml]; rfl) (Steps.refl _) (argsL := []) (rest := []) (lenOf pd_7 rfl) rfl (by show 2 * 0 + _ ≤ _; exact Nat.le_of_eq rfl) (hb hby at_134) (fun _ _ => ⟨rfl, e48, (by decide : 4 + 0 ≤ _), (by decide : 15 + 0 ≤ _)⟩)
          dsimp only [Pt.U, Pt.locs, Pt.cells, Pt.slots] at X52 l52 y52 z52 st52 hQ52
          subst l52 y52 z52
          obtain ⟨h52, e52⟩ : ∃ hh, T52.heap = hh := ⟨_, rfl⟩
          rw [e52] at hQ52
          obtain ⟨rfl, N52q, sm52⟩ := hQ52
          have N52 := Fr.app N48 N52q
          refine Go.st (fun _ kk => st52.trans kk) ?_
          rw [sm52] at e52
          show Go p e below s _ _ _ T52 (mkF m 137 #[.val (.long y1), .second, .val (.long y2), .second, .val (.long qo), .second, .val (.long qe), .second, .val (.int pk), .val (.int ((pk &&& (2147483647 : Int32)) % (3 : Int32))), .val (.ref u_NONE), .val (.ref b38), .val (.ref b42), .val (.ref b46), .val (.int (1 : Int32))] [(.int (b2i ((0 : Int64) < y1 ∨ (0 : Int64) < y2)))])
          rw [show (b2i ((0 : Int64) < y1 ∨ (0 : Int64) < y2)) = (1 : Int32) from b2i_pos (Or.inr (own_ge hc50))]
          show Go p e below s _ _ _ T52 (mkF m 137 #[.val (.long y1), .second, .val (.long y2), .second, .val (.long qo), .second, .val (.long qe), .second, .val (.int pk), .val (.int ((pk &&& (2147483647 : Int32)) % (3 : Int32))), .val (.ref u_NONE), .val (.ref b38), .val (.ref b42), .val (.ref b46), .val (.int (1 : Int32))] [(.int (1 : Int32))])
          refine Go.st (fun _ => XS.iload X52.here hx rfl (hb hby at_137) rfl) ?_
          show Go p e below s _ _ _ T52 (mkF m 139 #[.val (.long y1), .second, .val (.long y2), .second, .val (.long qo), .second, .val (.long qe), .second, .val (.int pk), .val (.int ((pk &&& (2147483647 : Int32)) % (3 : Int32))), .val (.ref u_NONE), .val (.ref b38), .val (.ref b42), .val (.ref b46), .val (.int (1 : Int32))] [(.int (1 : Int32)), (.int (1 : Int32))])
          refine Go.st (fun _ => XS.icmpNo X52.here hx rfl (hb hby at_139) rfl (teq (by decide : (1 : Int32) = (1 : Int32))).2) ?_
          show Go p e below s _ _ _ T52 (mkF m 142 #[.val (.long y1), .second, .val (.long y2), .second, .val (.long qo), .second, .val (.long qe), .second, .val (.int pk), .val (.int ((pk &&& (2147483647 : Int32)) % (3 : Int32))), .val (.ref u_NONE), .val (.ref b38), .val (.ref b42), .val (.ref b46), .val (.int (1 : Int32))] [])
          refine Go.st (fun _ => XS.iconst X52.here hx rfl (hb hby at_142)) ?_
          show Go p e below s _ _ _ T52 (mkF m 143 #[.val (.long y1), .second, .val (.long y2), .second, .val (.long qo), .second, .val (.long qe), .second, .val (.int pk), .val (.int ((pk &&& (2147483647 : Int32)) % (3 : Int32))), .val (.ref u_NONE), .val (.ref b38), .val (.ref b42), .val (.ref b46), .val (.int (1 : Int32))] [(.int (1 : Int32))])
          refine Go.st (fun _ => XS.goto X52.here hx rfl (pc0 := 143) (pc' := 147) rfl (hb hby at_143) (by decide) (by decide)) ?_
          show Go p e below s _ _ _ T52 (mkF m 147 #[.val (.long y1), .second, .val (.long y2), .second, .val (.long qo), .second, .val (.long qe), .second, .val (.int pk), .val (.int ((pk &&& (2147483647 : Int32)) % (3 : Int32))), .val (.ref u_NONE), .val (.ref b38), .val (.ref b42), .val (.ref b46), .val (.int (1 : Int32))] [(.int (1 : Int32))])
          exact Go.retZ X52 hx hlk Bd.returns (hb hby at_147) rfl (by rw [e52]; exact ⟨rfl, N52⟩) (by decide) (by decide)
      · refine Go.st (fun _ => XS.ifNo X48.here hx rfl (hb hby at_108) rfl ((if0 _ _).trans (flt (fun qq => hc49 ((lw_lt y1 (1 : Int64)).mp qq))).1)) ?_
        show Go p e below s _ _ _ T48 (mkF m 111 #[.val (.long y1), .second, .val (.long y2), .second, .val (.long qo), .second, .val (.long qe), .second, .val (.int pk), .val (.int ((pk &&& (2147483647 : Int32)) % (3 : Int32))), .val (.ref u_NONE), .val (.ref b38), .val (.ref b42), .val (.ref b46), .unset] [])
        refine Go.st (fun _ => XS.iconst X48.here hx rfl (hb hby at_111)) ?_
        show Go p e below s _ _ _ T48 (mkF m 112 #[.val (.long y1), .second, .val (.long y2), .second, .val (.long qo), .second, .val (.long qe), .second, .val (.int pk), .val (.int ((pk &&& (2147483647 : Int32)) % (3 : Int32))), .val (.ref u_NONE), .val (.ref b38), .val (.ref b42), .val (.ref b46), .unset] [(.int (1 : Int32))])
        refine Go.st (fun _ => XS.istore X48.here hx rfl (hb hby at_112) rfl (l' := #[.val (.long y1), .second, .val (.long y2), .second, .val (.long qo), .second, .val (.long qe), .second, .val (.int pk), .val (.int ((pk &&& (2147483647 : Int32)) % (3 : Int32))), .val (.ref u_NONE), .val (.ref b38), .val (.ref b42), .val (.ref b46), .val (.int (1 : Int32))]) rfl) ?_
        show Go p e below s _ _ _ T48 (mkF m 114 #[.val (.long y1), .second, .val (.long y2), .second, .val (.long qo), .second, .val (.long qe), .second, .val (.int pk), .val (.int ((pk &&& (2147483647 : Int32)) % (3 : Int32))), .val (.ref u_NONE), .val (.ref b38), .val (.ref b42), .val (.ref b46), .val (.int (1 : Int32))] [])
        refine Go.st (fun _ => XS.goto X48.here hx rfl (pc0 := 114) (pc' := 132) rfl (hb hby at_114) (by decide) (by decide)) ?_
        show Go p e below s _ _ _ T48 (mkF m 132 #[.val (.long y1), .second, .val (.long y2), .second, .val (.long qo), .second, .val (.long qe), .second, .val (.int pk), .val (.int ((pk &&& (2147483647 : Int32)) % (3 : Int32))), .val (.ref u_NONE), .val (.ref b38), .val (.ref b42), .val (.ref b46), .val (.int (1 : Int32))] [])
        refine Go.st (fun _ => XS.aload X48.here hx rfl (hb hby at_132) rfl rfl) ?_
        show Go p e below s _ _ _ T48 (mkF m 134 #[.val (.long y1), .second, .val (.long y2), .second, .val (.long qo), .second, .val (.long qe), .second, .val (.int pk), .val (.int ((pk &&& (2147483647 : Int32)) % (3 : Int32))), .val (.ref u_NONE), .val (.ref b38), .val (.ref b42), .val (.ref b46), .val (.int (1 : Int32))] [(.ref b46)])
        obtain ⟨cq53, kq53, q53a, q53b, q53c⟩ := isOf hZ e48 p48_0
        obtain ⟨_, _, ⟨T53, L53, kc53, nc53⟩, -, X53, ⟨Lc53, hQ53, l53, y53, z53⟩, st53⟩ := X48.virtualBack hx (y := (⟨"com/example/reapd/reapd/TableStats", "expires", "()Z"⟩ : MethodName)) (z := (⟨"com/example/reapd/reapd/TableStats", "expires", "()Z"⟩ : MethodName)) hown (mvT hZ (hw _ (List.mem_of_getElem? (i := 65) rfl))) (mvT hZ (hw _ (List.mem_of_getElem? (i := 66) rfl))) (notFace_of_selects (args := #[]) (mvT hZ (hw _ (List.mem_of_getElem? (i := 68) rfl)))) (mvT hZ (hw _ (List.mem_of_getElem? (i := 68) rfl))) (mvT hZ (hw _ (List.mem_of_getElem? (i := 67) rfl))) (by decide) (backOf (W := 0) (rmEp l Z a0 hw [] b46 y1 y2 h48 n0 z48q p48_1 p48_2) hZ (hw _ (List.mem_of_getElem? (i := 69) rfl)) (hw _ (List.mem_of_getElem? (i := 36) rfl)) (by decide) (by decide)) q53a q53c (g := (mkF m 134 #[.val (.long y1), .second, .val (.long y2), .second, .val (.long qo), .second, .val (.long qe), .second, .val (.int pk), .val (.int ((pk &&& (2147483647 : Int32)) % (3 : Int32))), .val (.ref u_NONE), .val (.ref b38), .val (.ref b42), .val (.ref b46), .val (.int (1 : Int32))] [(.ref b46)])) rfl (by rw [hml]; rfl) (Steps.refl _) (argsL := []) (rest := []) (lenOf pd_7 rfl) rfl (by show 2 * 0 + _ ≤ _; exact Nat.le_of_eq rfl) (hb hby at_134) (fun _ _ => ⟨rfl, e48, (by decide : 4 + 0 ≤ _), (by decide : 15 + 0 ≤ _)⟩)
        dsimp only [Pt.U, Pt.locs, Pt.cells, Pt.slots] at X53 l53 y53 z53 st53 hQ53
        subst l53 y53 z53
        obtain ⟨h53, e53⟩ : ∃ hh, T53.heap = hh := ⟨_, rfl⟩
        rw [e53] at hQ53
        obtain ⟨rfl, N53q, sm53⟩ := hQ53
        have N53 := Fr.app N48 N53q
        refine Go.st (fun _ kk => st53.trans kk) ?_
        rw [sm53] at e53
        show Go p e below s _ _ _ T53 (mkF m 137 #[.val (.long y1), .second, .val (.long y2), .second, .val (.long qo), .second, .val (.long qe), .second, .val (.int pk), .val (.int ((pk &&& (2147483647 : Int32)) % (3 : Int32))), .val (.ref u_NONE), .val (.ref b38), .val (.ref b42), .val (.ref b46), .val (.int (1 : Int32))] [(.int (b2i ((0 : Int64) < y1 ∨ (0 : Int64) < y2)))])
        rw [show (b2i ((0 : Int64) < y1 ∨ (0 : Int64) < y2)) = (1 : Int32) from b2i_pos (Or.inl (own_ge hc49))]
        show Go p e below s _ _ _ T53 (mkF m 137 #[.val (.long y1), .second, .val (.long y2), .second, .val (.long qo), .second, .val (.long qe), .second, .val (.int pk), .val (.int ((pk &&& (2147483647 : Int32)) % (3 : Int32))), .val (.ref u_NONE), .val (.ref b38), .val (.ref b42), .val (.ref b46), .val (.int (1 : Int32))] [(.int (1 : Int32))])
        refine Go.st (fun _ => XS.iload X53.here hx rfl (hb hby at_137) rfl) ?_
        show Go p e below s _ _ _ T53 (mkF m 139 #[.val (.long y1), .second, .val (.long y2), .second, .val (.long qo), .second, .val (.long qe), .second, .val (.int pk), .val (.int ((pk &&& (2147483647 : Int32)) % (3 : Int32))), .val (.ref u_NONE), .val (.ref b38), .val (.ref b42), .val (.ref b46), .val (.int (1 : Int32))] [(.int (1 : Int32)), (.int (1 : Int32))])
        refine Go.st (fun _ => XS.icmpNo X53.here hx rfl (hb hby at_139) rfl (teq (by decide : (1 : Int32) = (1 : Int32))).2) ?_
        show Go p e below s _ _ _ T53 (mkF m 142 #[.val (.long y1), .second, .val (.long y2), .second, .val (.long qo), .second, .val (.long qe), .second, .val (.int pk), .val (.int ((pk &&& (2147483647 : Int32)) % (3 : Int32))), .val (.ref u_NONE), .val (.ref b38), .val (.ref b42), .val (.ref b46), .val (.int (1 : Int32))] [])
        refine Go.st (fun _ => XS.iconst X53.here hx rfl (hb hby at_142)) ?_
        show Go p e below s _ _ _ T53 (mkF m 143 #[.val (.long y1), .second, .val (.long y2), .second, .val (.long qo), .second, .val (.long qe), .second, .val (.int pk), .val (.int ((pk &&& (2147483647 : Int32)) % (3 : Int32))), .val (.ref u_NONE), .val (.ref b38), .val (.ref b42), .val (.ref b46), .val (.int (1 : Int32))] [(.int (1 : Int32))])
        refine Go.st (fun _ => XS.goto X53.here hx rfl (pc0 := 143) (pc' := 147) rfl (hb hby at_143) (by decide) (by decide)) ?_
        show Go p e below s _ _ _ T53 (mkF m 147 #[.val (.long y1), .second, .val (.long y2), .second, .val (.long qo), .second, .val (.long qe), .second, .val (.int pk), .val (.int ((pk &&& (2147483647 : Int32)) % (3 : Int32))), .val (.ref u_NONE), .val (.ref b38), .val (.ref b42), .val (.ref b46), .val (.int (1 : Int32))] [(.int (1 : Int32))])
        exact Go.retZ X53 hx hlk Bd.returns (hb hby at_147) rfl (by rw [e53]; exact ⟨rfl, N53⟩) (by decide) (by decide)
set_option maxRecDepth 65536 in
set_option maxHeartbeats 40000000 in
theorem comes_1 {Post : Tables → Env → Array Value → State → Outcome → State → Prop} (hpost : ∀ tb e args s v u, (limb_1_1.after args s (.returned v) u = true ∧ limb_1_2.after args s (.returned v) u = true ∧ True) → FrameEnd s (.returned v) u (Jvm.fieldLocs frame_1_writes args s ++ Jvm.arrayLocs frame_1_arrays args s ++ Jvm.staticLocs frame_1_statics s) 16 128 → Post tb e args s (.returned v) u) :
    ArmFor flags0 classFile x code maxLocals ret World_1 tables_1 room_1 Calls_1 rest_1 Pre_1 Post := by
  intro l hfl _ _ p e ha hc hk s m args below hf hA hF happ hP
  obtain ⟨hcalls, hrest, hpre⟩ := hP
  obtain ⟨-, -, -, hnamed, -, -, -, hat⟩ := (Spec.applies_iff hf).mp happ
  obtain ⟨hg, hn⟩ := and_e (Cond.before_iff.mp (show (Jvm.Cond.and given_1 narrow_1).before args s = true from hpre))
  obtain ⟨g1, g2⟩ := and_e hg
  obtain ⟨g3, g4⟩ := and_e g2
  obtain ⟨g5, g6⟩ := and_e g4
  obtain ⟨g7, g8⟩ := and_e g6
  obtain ⟨g9, g10⟩ := and_e g8
  obtain ⟨w0, w1, w2, w3, w4, rfl⟩ : ∃ w0 w1 w2 w3 w4 : Value, args = #[w0, w1, w2, w3, w4] := by
    have hs : args.size = 5 := by simpa [Cond.value, given_1] using g1
    obtain ⟨L⟩ := args
    match L, hs with
    | [w0, w1, w2, w3, w4], _ => exact ⟨w0, w1, w2, w3, w4, rfl⟩
  have hw := fun d (hd : d ∈ tables_1) => atoms_spec (ws := Jvm.Cond.code x code maxLocals ret :: tables_1) hat d (List.mem_cons_of_mem _ hd)
  have hfit : Fit s := fun {y c} hc i hi => by
    obtain ⟨ha, rfl⟩ := Array.getElem?_eq_some_iff.mp hc
    have q := List.all_eq_true.mp ((Array.all_eq_true_iff_forall_mem.mp hF) _ (Array.getElem_mem ha)) i (List.mem_range.mpr hi)
    simpa [Array.getElem?_eq_getElem hi] using q
  obtain ⟨hsets, hown0⟩ := atoms_of _ (rest_1_c_eq ▸ (show rest_1_c.before _ s = true from hrest))
  have hr0 := Cond.before_iff.mp hown0
  obtain ⟨i0, ei0⟩ := isL_v g3
  obtain rfl : w0 = (.long i0) := Option.some.inj ei0
  obtain ⟨i1, ei1⟩ := isL_v g5
  obtain rfl : w1 = (.long i1) := Option.some.inj ei1
  obtain ⟨i2, ei2⟩ := isL_v g7
  obtain rfl : w2 = (.long i2) := Option.some.inj ei2
  obtain ⟨i3, ei3⟩ := isL_v g9
  obtain rfl : w3 = (.long i3) := Option.some.inj ei3
  obtain ⟨i4, ei4⟩ := is_v g10
  obtain rfl : w4 = (.int i4) := Option.some.inj ei4
  obtain ⟨m1, m2⟩ := and_e hn
  obtain ⟨m3, m4⟩ := and_e m2
  obtain ⟨u_CONSERVATIVE, ev_CONSERVATIVE⟩ := exa_v m1
  have E_CONSERVATIVE := Exa.start ev_CONSERVATIVE m1
  have S_CONSERVATIVE := Sta.start ev_CONSERVATIVE (Or.inr ⟨(hw _ (List.mem_of_getElem? (i := 2) rfl)), (hw _ (List.mem_of_getElem? (i := 3) rfl))⟩)
  obtain ⟨u_THOROUGH, ev_THOROUGH⟩ := exa_v m3
  have E_THOROUGH := Exa.start ev_THOROUGH m3
  have S_THOROUGH := Sta.start ev_THOROUGH (Or.inr ⟨(hw _ (List.mem_of_getElem? (i := 2) rfl)), (hw _ (List.mem_of_getElem? (i := 71) rfl))⟩)
  obtain ⟨u_NONE, ev_NONE⟩ := exa_v m4
  have E_NONE := Exa.start ev_NONE m4
  have S_NONE := Sta.start ev_NONE (Or.inr ⟨(hw _ (List.mem_of_getElem? (i := 2) rfl)), (hw _ (List.mem_of_getElem? (i := 73) rfl))⟩)
  obtain ⟨cs, ecs⟩ := is_v (Cond.before_iff.mp (hsets _ (List.mem_of_getElem? (i := 1) rfl)))
  have S_cs := Sta.start ecs (Or.inl (hsets _ (List.mem_of_getElem? (i := 0) rfl)))
  have hcs : ¬ cs = (0 : Int32) := gotF (Cond.eq_ints ecs (Term.int_eval (0 : Int32))) (not_v (Cond.before_iff.mp (hsets _ (List.mem_of_getElem? (i := 2) rfl))))
  obtain ⟨n, o, h1, h2, h3, _, L, rfl, ⟨rfl, N⟩, hq⟩ := rm0 l s _ hw tables_1 i0 i1 i2 i3 i4 u_CONSERVATIVE u_THOROUGH u_NONE cs s.heap s.heap.size (Nat.le_refl _) S_CONSERVATIVE S_THOROUGH S_NONE S_cs hcs p e ha hc hk s m _ below hf ((Spec.applies_iff_loose hf).mp happ).1 ⟨rfl, State.Warmed39.refl s, rfl⟩ trivial
  refine ⟨n, _, h1, h2, h3, hpost _ _ _ _ _ _ ⟨Cond.after_iff.mpr rfl, Cond.after_iff.mpr (eq_i res_at (Term.int_eval (1)) rfl), trivial⟩ ⟨hq.1, hq.2.1, (hq.2.2.sift fun y hy => Or.inr (N y hy)).mono (by decide) (by decide)⟩⟩
theorem main_1_1 : Claimed_1_1 := comes_1 fun _ _ _ _ _ _ h hF => ⟨h.1, hF⟩
theorem main_1_2 : Claimed_1_2 := comes_1 fun _ _ _ _ _ _ h hF => ⟨h.2.1, hF⟩
end Jvm.Pilot.@@N@@
namespace Jvm.Pilot.@@N@@
open Jvm Jvm.ClassFile Sem Op Lib Jvm.Free Jvm.Stand Jvm.Pilot.@@N@@.Jvm.D
/-! MADE BY PROGRAM (witnessworld.py) out of the Statement's table words and the real class files: 23 classes; the members and pool entries that the words name. The judged class is class 1, her method 1. -/
namespace start1
open Jvm.ClassFile
def u (s : String) : CpInfo := .utf8 (stringToUtf16 s)
/-- a pool by its gaps: so many unusable entries, then the entry; so many at the end -/
def gap : Nat → List CpInfo → List CpInfo
  | 0, r => r
  | n + 1, r => .unusable :: gap n r
def poolList (es : List (Nat × CpInfo)) (last : Nat) : List CpInfo := es.foldr (fun e r => gap e.1 (e.2 :: r)) (gap last [])
def pool (es : List (Nat × CpInfo)) (last : Nat) : Array CpInfo := ⟨poolList es last⟩
def fileOf (pool : Array CpInfo) (this : Nat) (attrs : Array Attribute := #[]) (ms : Array MethodInfo := #[]) (fl : Nat := 33) (sup : Nat := 0) (ifs : Array Nat := #[]) (fds : Array FieldInfo := #[]) : ClassFile where
  minorVersion := 0
  majorVersion := 65
  constantPool := pool
  accessFlags := fl
  thisClass := this
  superClass := sup
  interfaces := ifs
  fields := fds
  methods := ms
  attributes := attrs
def plain (name : String) (sup : Option ClassId) : Class where
  name := name
  kind := .ordinary
  loader := none
  accessFlags := 33
  super := sup
  interfaces := #[]
  cf := none
  fields := #[]
  methods := #[]
  instanceTypes := #[]
  staticTypes := #[]
  resolved := #[]
  callSites := []
  init := .initialized
  statics := none
  mirror := none

def pool0 : Array CpInfo := pool [(5, u "<init>"), (0, u "()V"), (1, .class_ 10), (1, u "java/lang/Object")] 113

def k0c0 : Code := { maxStack := 0, maxLocals := 1, code := object_method_1_code, exceptionTable := #[], attributes := #[] }
def k0m0 : Method := { name := "<init>", desc := "()V", sig := { parameters := [], returnType := none }, accessFlags := 1, code := some k0c0 }
/-- java/lang/Object -/
def k0 : Class := { plain "java/lang/Object" none with
  accessFlags := 33
  interfaces := #[]
  cf := some (fileOf pool0 8 #[] #[{ accessFlags := 1, nameIndex := 5, descriptorIndex := 6, attributes := #[] }] 33 0 #[] #[])
  fields := #[]
  methods := #[k0m0]
  instanceTypes := #[]
  staticTypes := #[]
  resolved := Array.replicate 124 none
  statics := none }

def pool1 : Array CpInfo := pool [(2, .class_ 4), (1, u "java/lang/Object"), (0, u "<init>"), (0, u "()V"), (0, .integer 2147483647), (0, .fieldref 9 10), (0, .class_ 11), (0, .nameAndType 12 13), (0, u "com/example/reapd/reapd/SweepStrategy"), (0, u "CONSERVATIVE"), (0, u "Lcom/example/reapd/reapd/SweepStrategy;"), (0, .fieldref 9 15), (0, .nameAndType 16 13), (0, u "THOROUGH"), (0, .fieldref 9 18), (0, .nameAndType 19 13), (0, u "NONE"), (0, .class_ 21), (0, u "java/lang/String"), (0, .methodref 20 23), (0, .nameAndType 5 24), (0, u "([C)V"), (0, .class_ 26), (0, u "com/example/reapd/reapd/TableStats"), (0, .long 18446744073709551615), (1, .methodref 25 30), (0, .nameAndType 5 31), (0, u "(Ljava/lang/String;Lcom/example/reapd/reapd/SweepStrategy;JJJJJJJ)V"), (0, .methodref 25 33), (0, .nameAndType 34 35), (0, u "expires"), (0, u "()Z"), (0, .class_ 37), (0, u "com/example/reapd/reapd/TableStatsExpiresPinLaw"), (2, u "law"), (0, u "(JJJJI)Z")] 5

def k1m0 : Method := { name := "<init>", desc := "()V", sig := { parameters := [], returnType := none }, accessFlags := 1, code := none }
def k1c1 : Code := { maxStack := 18, maxLocals := 15, code := code, exceptionTable := #[], attributes := #[] }
def k1m1 : Method := { name := "law", desc := "(JJJJI)Z", sig := { parameters := [.long, .long, .long, .long, .int], returnType := some .boolean }, accessFlags := 9, code := some k1c1 }
/-- com/example/reapd/reapd/TableStatsExpiresPinLaw -/
def k1 : Class := { plain "com/example/reapd/reapd/TableStatsExpiresPinLaw" (some 0) with
  accessFlags := 49
  interfaces := #[]
  cf := some (fileOf pool1 36 #[] #[{ accessFlags := 1, nameIndex := 5, descriptorIndex := 6, attributes := #[] }, { accessFlags := 9, nameIndex := 40, descriptorIndex := 41, attributes := #[] }] 49 2 #[] #[])
  fields := #[]
  methods := #[k1m0, k1m1]
  instanceTypes := #[]
  staticTypes := #[]
  resolved := Array.replicate 47 none
  statics := none }

def pool2 : Array CpInfo := pool [(1, .class_ 2), (0, u "java/lang/constant/Constable"), (0, .class_ 4), (0, u "java/lang/Object")] 6

/-- java/lang/constant/Constable -/
def k2 : Class := { plain "java/lang/constant/Constable" (some 0) with
  accessFlags := 1537
  interfaces := #[]
  cf := some (fileOf pool2 1 #[] #[] 1537 3 #[] #[])
  fields := #[]
  methods := #[]
  instanceTypes := #[]
  staticTypes := #[]
  resolved := Array.replicate 11 none
  statics := none }

def pool3 : Array CpInfo := pool [(1, .class_ 2), (0, u "java/lang/Comparable"), (0, .class_ 4), (0, u "java/lang/Object")] 7

/-- java/lang/Comparable -/
def k3 : Class := { plain "java/lang/Comparable" (some 0) with
  accessFlags := 1537
  interfaces := #[]
  cf := some (fileOf pool3 1 #[] #[] 1537 3 #[] #[])
  fields := #[]
  methods := #[]
  instanceTypes := #[]
  staticTypes := #[]
  resolved := Array.replicate 12 none
  statics := none }

def pool4 : Array CpInfo := pool [(1, .class_ 2), (0, u "java/io/Serializable"), (0, .class_ 4), (0, u "java/lang/Object")] 2

/-- java/io/Serializable -/
def k4 : Class := { plain "java/io/Serializable" (some 0) with
  accessFlags := 1537
  interfaces := #[]
  cf := some (fileOf pool4 1 #[] #[] 1537 3 #[] #[])
  fields := #[]
  methods := #[]
  instanceTypes := #[]
  staticTypes := #[]
  resolved := Array.replicate 7 none
  statics := none }

def pool5 : Array CpInfo := pool [(2, .class_ 4), (1, u "java/lang/Enum"), (0, u "name"), (0, u "Ljava/lang/String;"), (2, u "ordinal"), (0, u "I"), (1, .class_ 14), (1, u "java/lang/Object"), (4, u "hash"), (86, .class_ 108), (1, u "java/lang/Enum$EnumDesc"), (2, .class_ 112), (0, u "java/lang/constant/Constable"), (0, .class_ 114), (0, u "java/lang/Comparable"), (0, .class_ 116), (0, u "java/io/Serializable")] 87

/-- java/lang/Enum -/
def k5 : Class := { plain "java/lang/Enum" (some 0) with
  accessFlags := 1057
  interfaces := #[2, 3, 4]
  cf := some (fileOf pool5 2 #[.nestMembers #[106]] #[] 1057 12 #[111, 113, 115] #[{ accessFlags := 18, nameIndex := 5, descriptorIndex := 6, attributes := #[] }, { accessFlags := 18, nameIndex := 9, descriptorIndex := 10, attributes := #[] }, { accessFlags := 2, nameIndex := 19, descriptorIndex := 10, attributes := #[] }])
  fields := #[{ name := "name", type := (.object "java/lang/String"), accessFlags := 18, slot := 0, constantValue := 0 }, { name := "ordinal", type := .int, accessFlags := 18, slot := 1, constantValue := 0 }, { name := "hash", type := .int, accessFlags := 2, slot := 2, constantValue := 0 }]
  methods := #[]
  instanceTypes := #[(.object "java/lang/String"), .int, .int]
  staticTypes := #[]
  resolved := Array.replicate 204 none
  statics := none }

def pool6 : Array CpInfo := pool [(1, .class_ 2), (0, u "com/example/reapd/reapd/SweepStrategy"), (2, u "CONSERVATIVE"), (0, u "Lcom/example/reapd/reapd/SweepStrategy;"), (2, u "THOROUGH"), (2, u "NONE"), (2, u "$VALUES"), (0, u "[Lcom/example/reapd/reapd/SweepStrategy;"), (6, .class_ 25), (1, u "java/lang/Enum"), (8, u "label"), (0, u "Ljava/lang/String;"), (42, u "SWEPT"), (0, u "Ljava/util/List;")] 29

/-- com/example/reapd/reapd/SweepStrategy -/
def k6 : Class := { plain "com/example/reapd/reapd/SweepStrategy" (some 5) with
  accessFlags := 16433
  interfaces := #[]
  cf := some (fileOf pool6 1 #[] #[] 16433 23 #[] #[{ accessFlags := 16409, nameIndex := 5, descriptorIndex := 6, attributes := #[] }, { accessFlags := 16409, nameIndex := 9, descriptorIndex := 6, attributes := #[] }, { accessFlags := 16409, nameIndex := 12, descriptorIndex := 6, attributes := #[] }, { accessFlags := 24, nameIndex := 78, descriptorIndex := 79, attributes := #[] }, { accessFlags := 18, nameIndex := 34, descriptorIndex := 35, attributes := #[] }, { accessFlags := 4122, nameIndex := 15, descriptorIndex := 16, attributes := #[] }])
  fields := #[{ name := "CONSERVATIVE", type := (.object "com/example/reapd/reapd/SweepStrategy"), accessFlags := 16409, slot := 0, constantValue := 0 }, { name := "THOROUGH", type := (.object "com/example/reapd/reapd/SweepStrategy"), accessFlags := 16409, slot := 1, constantValue := 0 }, { name := "NONE", type := (.object "com/example/reapd/reapd/SweepStrategy"), accessFlags := 16409, slot := 2, constantValue := 0 }, { name := "SWEPT", type := (.object "java/util/List"), accessFlags := 24, slot := 3, constantValue := 0 }, { name := "label", type := (.object "java/lang/String"), accessFlags := 18, slot := 3, constantValue := 0 }, { name := "$VALUES", type := (.array (.object "com/example/reapd/reapd/SweepStrategy")), accessFlags := 4122, slot := 4, constantValue := 0 }]
  methods := #[]
  instanceTypes := #[(.object "java/lang/String"), .int, .int, (.object "java/lang/String")]
  staticTypes := #[(.object "com/example/reapd/reapd/SweepStrategy"), (.object "com/example/reapd/reapd/SweepStrategy"), (.object "com/example/reapd/reapd/SweepStrategy"), (.object "java/util/List"), (.array (.object "com/example/reapd/reapd/SweepStrategy"))]
  resolved := Array.replicate 109 none
  statics := some 0 }

def pool7 : Array CpInfo := pool [(2, .class_ 4), (1, u "java/lang/CharSequence"), (42, .class_ 48), (0, u "java/lang/CharSequence$1CodePointIterator"), (10, .class_ 60), (0, u "java/lang/CharSequence$1CharIterator"), (5, .class_ 67), (0, u "java/lang/Object")] 63

/-- java/lang/CharSequence -/
def k7 : Class := { plain "java/lang/CharSequence" (some 0) with
  accessFlags := 1537
  interfaces := #[]
  cf := some (fileOf pool7 2 #[.nestMembers #[47, 59]] #[] 1537 66 #[] #[])
  fields := #[]
  methods := #[]
  instanceTypes := #[]
  staticTypes := #[]
  resolved := Array.replicate 131 none
  statics := none }

def pool8 : Array CpInfo := pool [(1, .class_ 2), (0, u "java/lang/constant/ConstantDesc"), (0, .class_ 4), (0, u "java/lang/Object")] 32

/-- java/lang/constant/ConstantDesc -/
def k8 : Class := { plain "java/lang/constant/ConstantDesc" (some 0) with
  accessFlags := 1537
  interfaces := #[]
  cf := some (fileOf pool8 1 #[] #[] 1537 3 #[] #[])
  fields := #[]
  methods := #[]
  instanceTypes := #[]
  staticTypes := #[]
  resolved := Array.replicate 37 none
  statics := none }

def pool9 : Array CpInfo := pool [(1, .methodref 2 3), (0, .class_ 4), (0, .nameAndType 5 6), (0, u "java/lang/Object"), (0, u "<init>"), (0, u "()V"), (2, .fieldref 10 11), (0, .class_ 12), (0, .nameAndType 13 14), (0, u "java/lang/String"), (0, u "value"), (0, u "[B"), (0, .fieldref 10 16), (0, .nameAndType 17 18), (0, u "coder"), (0, u "B"), (2, u "hash"), (0, u "I"), (2, u "hashIsZero"), (0, u "Z"), (0, .methodref 10 28), (0, .nameAndType 5 29), (0, u "([CIILjava/lang/Void;)V"), (8, .fieldref 10 39), (0, .nameAndType 40 26), (0, u "COMPACT_STRINGS"), (1, .class_ 44), (1, u "java/lang/StringUTF16"), (0, u "compress"), (1, .methodref 42 48), (0, .nameAndType 49 50), (0, u "coderFromArrayLen"), (0, u "([BI)B"), (126, .methodref 42 178), (0, .nameAndType 45 179), (0, u "([CII)[B"), (395, .class_ 576), (0, u "java/lang/CharSequence"), (22, u "CASE_INSENSITIVE_ORDER"), (0, u "Ljava/util/Comparator;"), (409, u "([C)V"), (90, u "serialPersistentFields"), (0, u "[Ljava/io/ObjectStreamField;"), (0, .class_ 1104), (0, u "java/lang/String$CaseInsensitiveComparator"), (1, .class_ 1107), (0, u "java/io/Serializable"), (0, .class_ 1109), (0, u "java/lang/Comparable"), (0, .class_ 1111), (0, u "java/lang/constant/Constable"), (0, .class_ 1113), (0, u "java/lang/constant/ConstantDesc"), (2, u "serialVersionUID"), (0, u "J"), (3, u "REPL"), (0, u "C"), (2, u "LATIN1"), (1, u "UTF16")] 323

def k9m0 : Method := { name := "<init>", desc := "()V", sig := { parameters := [], returnType := none }, accessFlags := 1, code := none }
def k9c1 : Code := { maxStack := 5, maxLocals := 2, code := jdk_42_method_3_code, exceptionTable := #[], attributes := #[] }
def k9m1 : Method := { name := "<init>", desc := "([C)V", sig := { parameters := [(.array .char)], returnType := none }, accessFlags := 1, code := some k9c1 }
def k9c2 : Code := { maxStack := 4, maxLocals := 6, code := jdk_42_method_149_code, exceptionTable := #[], attributes := #[] }
def k9m2 : Method := { name := "<init>", desc := "([CIILjava/lang/Void;)V", sig := { parameters := [(.array .char), .int, .int, (.object "java/lang/Void")], returnType := none }, accessFlags := 2, code := some k9c2 }
/-- java/lang/String -/
def k9 : Class := { plain "java/lang/String" (some 0) with
  accessFlags := 49
  interfaces := #[4, 3, 7, 2, 8]
  cf := some (fileOf pool9 10 #[.nestMembers #[1103]] #[{ accessFlags := 1, nameIndex := 5, descriptorIndex := 6, attributes := #[] }, { accessFlags := 1, nameIndex := 5, descriptorIndex := 1010, attributes := #[] }, { accessFlags := 2, nameIndex := 5, descriptorIndex := 29, attributes := #[] }] 49 2 #[1106, 1108, 575, 1110, 1112] #[{ accessFlags := 18, nameIndex := 13, descriptorIndex := 14, attributes := #[] }, { accessFlags := 18, nameIndex := 17, descriptorIndex := 18, attributes := #[] }, { accessFlags := 2, nameIndex := 21, descriptorIndex := 22, attributes := #[] }, { accessFlags := 2, nameIndex := 25, descriptorIndex := 26, attributes := #[] }, { accessFlags := 26, nameIndex := 1116, descriptorIndex := 1117, attributes := #[] }, { accessFlags := 24, nameIndex := 40, descriptorIndex := 26, attributes := #[] }, { accessFlags := 26, nameIndex := 1101, descriptorIndex := 1102, attributes := #[] }, { accessFlags := 26, nameIndex := 1121, descriptorIndex := 1122, attributes := #[] }, { accessFlags := 25, nameIndex := 599, descriptorIndex := 600, attributes := #[] }, { accessFlags := 24, nameIndex := 1125, descriptorIndex := 18, attributes := #[] }, { accessFlags := 24, nameIndex := 1127, descriptorIndex := 18, attributes := #[] }])
  fields := #[{ name := "value", type := (.array .byte), accessFlags := 18, slot := 0, constantValue := 0 }, { name := "coder", type := .byte, accessFlags := 18, slot := 1, constantValue := 0 }, { name := "hash", type := .int, accessFlags := 2, slot := 2, constantValue := 0 }, { name := "hashIsZero", type := .boolean, accessFlags := 2, slot := 3, constantValue := 0 }, { name := "serialVersionUID", type := .long, accessFlags := 26, slot := 0, constantValue := 0 }, { name := "COMPACT_STRINGS", type := .boolean, accessFlags := 24, slot := 1, constantValue := 0 }, { name := "serialPersistentFields", type := (.array (.object "java/io/ObjectStreamField")), accessFlags := 26, slot := 2, constantValue := 0 }, { name := "REPL", type := .char, accessFlags := 26, slot := 3, constantValue := 0 }, { name := "CASE_INSENSITIVE_ORDER", type := (.object "java/util/Comparator"), accessFlags := 25, slot := 4, constantValue := 0 }, { name := "LATIN1", type := .byte, accessFlags := 24, slot := 5, constantValue := 0 }, { name := "UTF16", type := .byte, accessFlags := 24, slot := 6, constantValue := 0 }]
  methods := #[k9m0, k9m1, k9m2]
  instanceTypes := #[(.array .byte), .byte, .int, .boolean]
  staticTypes := #[.long, .boolean, (.array (.object "java/io/ObjectStreamField")), .char, (.object "java/util/Comparator"), .byte, .byte]
  resolved := Array.replicate 1451 none
  statics := some 1 }

def pool10 : Array CpInfo := pool [(6, .class_ 8), (1, u "java/lang/Object"), (0, u "<init>"), (0, u "()V"), (1, .class_ 14), (1, u "java/lang/StringUTF16"), (31, u "$assertionsDisabled"), (0, u "Z"), (13, u "HI_BYTE_SHIFT"), (0, u "I"), (2, u "LO_BYTE_SHIFT"), (49, .methodref 12 116), (0, .nameAndType 117 118), (0, u "compress"), (0, u "([CI[BII)I"), (3, u "([CII)[B"), (138, u "coderFromArrayLen"), (0, u "([BI)B"), (106, .class_ 371), (1, u "java/lang/StringUTF16$LinesSpliterator"), (58, u "MAX_LENGTH"), (196, .class_ 628), (0, u "java/lang/StringUTF16$CodePointsSpliterator"), (0, .class_ 630), (0, u "java/lang/StringUTF16$CharsSpliterator")] 4

def k10m0 : Method := { name := "<init>", desc := "()V", sig := { parameters := [], returnType := none }, accessFlags := 0, code := none }
def k10c1 : Code := { maxStack := 2, maxLocals := 2, code := jdk_52_method_15_code, exceptionTable := #[], attributes := #[] }
def k10m1 : Method := { name := "coderFromArrayLen", desc := "([BI)B", sig := { parameters := [(.array .byte), .int], returnType := some .byte }, accessFlags := 8, code := some k10c1 }
def k10c2 : Code := { maxStack := 5, maxLocals := 6, code := jdk_52_method_16_code, exceptionTable := #[], attributes := #[] }
def k10m2 : Method := { name := "compress", desc := "([CII)[B", sig := { parameters := [(.array .char), .int, .int], returnType := some (.array .byte) }, accessFlags := 9, code := some k10c2 }
def k10c3 : Code := { maxStack := 3, maxLocals := 7, code := jdk_52_method_21_code, exceptionTable := #[], attributes := #[] }
def k10m3 : Method := { name := "compress", desc := "([CI[BII)I", sig := { parameters := [(.array .char), .int, (.array .byte), .int, .int], returnType := some .int }, accessFlags := 9, code := some k10c3 }
/-- java/lang/StringUTF16 -/
def k10 : Class := { plain "java/lang/StringUTF16" (some 0) with
  accessFlags := 48
  interfaces := #[]
  cf := some (fileOf pool10 12 #[.nestMembers #[627, 629, 369]] #[{ accessFlags := 0, nameIndex := 9, descriptorIndex := 10, attributes := #[] }, { accessFlags := 8, nameIndex := 261, descriptorIndex := 262, attributes := #[] }, { accessFlags := 9, nameIndex := 117, descriptorIndex := 122, attributes := #[] }, { accessFlags := 9, nameIndex := 117, descriptorIndex := 118, attributes := #[] }] 48 6 #[] #[{ accessFlags := 26, nameIndex := 61, descriptorIndex := 62, attributes := #[] }, { accessFlags := 26, nameIndex := 65, descriptorIndex := 62, attributes := #[] }, { accessFlags := 24, nameIndex := 430, descriptorIndex := 62, attributes := #[] }, { accessFlags := 4120, nameIndex := 46, descriptorIndex := 47, attributes := #[] }])
  fields := #[{ name := "HI_BYTE_SHIFT", type := .int, accessFlags := 26, slot := 0, constantValue := 0 }, { name := "LO_BYTE_SHIFT", type := .int, accessFlags := 26, slot := 1, constantValue := 0 }, { name := "MAX_LENGTH", type := .int, accessFlags := 24, slot := 2, constantValue := 0 }, { name := "$assertionsDisabled", type := .boolean, accessFlags := 4120, slot := 3, constantValue := 0 }]
  methods := #[k10m0, k10m1, k10m2, k10m3]
  instanceTypes := #[]
  staticTypes := #[.int, .int, .int, .boolean]
  resolved := Array.replicate 635 none
  statics := none }

def pool11 : Array CpInfo := pool [(1, .methodref 2 3), (0, .class_ 4), (0, .nameAndType 5 6), (0, u "java/lang/Object"), (0, u "<init>"), (0, u "()V"), (0, .class_ 8), (0, u "java/lang/Record")] 13

def k11c0 : Code := { maxStack := 1, maxLocals := 1, code := jdk_30_method_1_code, exceptionTable := #[], attributes := #[] }
def k11m0 : Method := { name := "<init>", desc := "()V", sig := { parameters := [], returnType := none }, accessFlags := 4, code := some k11c0 }
/-- java/lang/Record -/
def k11 : Class := { plain "java/lang/Record" (some 0) with
  accessFlags := 1057
  interfaces := #[]
  cf := some (fileOf pool11 7 #[] #[{ accessFlags := 4, nameIndex := 5, descriptorIndex := 6, attributes := #[] }] 1057 2 #[] #[])
  fields := #[]
  methods := #[k11m0]
  instanceTypes := #[]
  staticTypes := #[]
  resolved := Array.replicate 22 none
  statics := none }

def pool12 : Array CpInfo := pool [(1, .methodref 2 3), (0, .class_ 4), (0, .nameAndType 5 6), (0, u "java/lang/Record"), (0, u "<init>"), (0, u "()V"), (0, .fieldref 8 9), (0, .class_ 10), (0, .nameAndType 11 12), (0, u "com/example/reapd/reapd/TableStats"), (0, u "name"), (0, u "Ljava/lang/String;"), (0, .fieldref 8 14), (0, .nameAndType 15 16), (0, u "strategy"), (0, u "Lcom/example/reapd/reapd/SweepStrategy;"), (0, .fieldref 8 18), (0, .nameAndType 19 20), (0, u "keys"), (0, u "J"), (0, .fieldref 8 22), (0, .nameAndType 23 20), (0, u "versions"), (0, .fieldref 8 25), (0, .nameAndType 26 20), (0, u "tombstones"), (0, .fieldref 8 28), (0, .nameAndType 29 20), (0, u "sentinels"), (0, .fieldref 8 31), (0, .nameAndType 32 20), (0, u "expirySeconds"), (0, .fieldref 8 34), (0, .nameAndType 35 20), (0, u "expiring"), (0, .fieldref 8 37), (0, .nameAndType 38 20), (0, u "expired"), (12, u "(Ljava/lang/String;Lcom/example/reapd/reapd/SweepStrategy;JJJJJJJ)V"), (3, u "expires"), (0, u "()Z")] 34

def k12c0 : Code := { maxStack := 3, maxLocals := 17, code := prog_22_method_1_code, exceptionTable := #[], attributes := #[] }
def k12m0 : Method := { name := "<init>", desc := "(Ljava/lang/String;Lcom/example/reapd/reapd/SweepStrategy;JJJJJJJ)V", sig := { parameters := [(.object "java/lang/String"), (.object "com/example/reapd/reapd/SweepStrategy"), .long, .long, .long, .long, .long, .long, .long], returnType := none }, accessFlags := 1, code := some k12c0 }
def k12c1 : Code := { maxStack := 4, maxLocals := 1, code := prog_22_method_2_code, exceptionTable := #[], attributes := #[] }
def k12m1 : Method := { name := "expires", desc := "()Z", sig := { parameters := [], returnType := some .boolean }, accessFlags := 1, code := some k12c1 }
/-- com/example/reapd/reapd/TableStats -/
def k12 : Class := { plain "com/example/reapd/reapd/TableStats" (some 11) with
  accessFlags := 49
  interfaces := #[]
  cf := some (fileOf pool12 8 #[] #[{ accessFlags := 1, nameIndex := 5, descriptorIndex := 51, attributes := #[] }, { accessFlags := 1, nameIndex := 55, descriptorIndex := 56, attributes := #[] }] 49 2 #[] #[{ accessFlags := 18, nameIndex := 11, descriptorIndex := 12, attributes := #[] }, { accessFlags := 18, nameIndex := 15, descriptorIndex := 16, attributes := #[] }, { accessFlags := 18, nameIndex := 19, descriptorIndex := 20, attributes := #[] }, { accessFlags := 18, nameIndex := 23, descriptorIndex := 20, attributes := #[] }, { accessFlags := 18, nameIndex := 26, descriptorIndex := 20, attributes := #[] }, { accessFlags := 18, nameIndex := 29, descriptorIndex := 20, attributes := #[] }, { accessFlags := 18, nameIndex := 32, descriptorIndex := 20, attributes := #[] }, { accessFlags := 18, nameIndex := 35, descriptorIndex := 20, attributes := #[] }, { accessFlags := 18, nameIndex := 38, descriptorIndex := 20, attributes := #[] }])
  fields := #[{ name := "name", type := (.object "java/lang/String"), accessFlags := 18, slot := 0, constantValue := 0 }, { name := "strategy", type := (.object "com/example/reapd/reapd/SweepStrategy"), accessFlags := 18, slot := 1, constantValue := 0 }, { name := "keys", type := .long, accessFlags := 18, slot := 2, constantValue := 0 }, { name := "versions", type := .long, accessFlags := 18, slot := 3, constantValue := 0 }, { name := "tombstones", type := .long, accessFlags := 18, slot := 4, constantValue := 0 }, { name := "sentinels", type := .long, accessFlags := 18, slot := 5, constantValue := 0 }, { name := "expirySeconds", type := .long, accessFlags := 18, slot := 6, constantValue := 0 }, { name := "expiring", type := .long, accessFlags := 18, slot := 7, constantValue := 0 }, { name := "expired", type := .long, accessFlags := 18, slot := 8, constantValue := 0 }]
  methods := #[k12m0, k12m1]
  instanceTypes := #[(.object "java/lang/String"), (.object "com/example/reapd/reapd/SweepStrategy"), .long, .long, .long, .long, .long, .long, .long]
  staticTypes := #[]
  resolved := Array.replicate 91 none
  statics := none }

def pool13 : Array CpInfo := pool [(4, .class_ 6), (1, u "java/lang/Object"), (0, u "<init>"), (0, u "()V"), (5, .class_ 16), (1, u "java/lang/StringLatin1"), (104, u "$assertionsDisabled"), (0, u "Z"), (98, .class_ 223), (1, u "java/lang/StringLatin1$LinesSpliterator"), (166, .class_ 391), (0, u "java/lang/StringLatin1$CharsSpliterator")] 3

def k13m0 : Method := { name := "<init>", desc := "()V", sig := { parameters := [], returnType := none }, accessFlags := 0, code := none }
/-- java/lang/StringLatin1 -/
def k13 : Class := { plain "java/lang/StringLatin1" (some 0) with
  accessFlags := 48
  interfaces := #[]
  cf := some (fileOf pool13 14 #[.nestMembers #[390, 221]] #[{ accessFlags := 0, nameIndex := 7, descriptorIndex := 8, attributes := #[] }] 48 4 #[] #[{ accessFlags := 4120, nameIndex := 121, descriptorIndex := 122, attributes := #[] }])
  fields := #[{ name := "$assertionsDisabled", type := .boolean, accessFlags := 4120, slot := 0, constantValue := 0 }]
  methods := #[k13m0]
  instanceTypes := #[]
  staticTypes := #[.boolean]
  resolved := Array.replicate 395 none
  statics := none }

def pool14 : Array CpInfo := pool [(2, .class_ 4), (1, u "java/lang/Object"), (0, u "<init>"), (0, u "()V"), (17, .class_ 26), (1, u "jdk/internal/util/Preconditions"), (28, .class_ 56), (0, u "jdk/internal/util/Preconditions$4"), (57, .class_ 115), (0, u "jdk/internal/util/Preconditions$1"), (7, u "SIOOBE_FORMATTER"), (0, u "Ljava/util/function/BiFunction;"), (0, .class_ 126), (0, u "jdk/internal/util/Preconditions$2"), (3, u "AIOOBE_FORMATTER"), (0, .class_ 132), (0, u "jdk/internal/util/Preconditions$3"), (3, u "IOOBE_FORMATTER")] 57

def k14m0 : Method := { name := "<init>", desc := "()V", sig := { parameters := [], returnType := none }, accessFlags := 1, code := none }
/-- jdk/internal/util/Preconditions -/
def k14 : Class := { plain "jdk/internal/util/Preconditions" (some 0) with
  accessFlags := 33
  interfaces := #[]
  cf := some (fileOf pool14 24 #[.nestMembers #[55, 131, 125, 114]] #[{ accessFlags := 1, nameIndex := 5, descriptorIndex := 6, attributes := #[] }] 33 2 #[] #[{ accessFlags := 25, nameIndex := 123, descriptorIndex := 124, attributes := #[] }, { accessFlags := 25, nameIndex := 130, descriptorIndex := 124, attributes := #[] }, { accessFlags := 25, nameIndex := 136, descriptorIndex := 124, attributes := #[] }])
  fields := #[{ name := "SIOOBE_FORMATTER", type := (.object "java/util/function/BiFunction"), accessFlags := 25, slot := 0, constantValue := 0 }, { name := "AIOOBE_FORMATTER", type := (.object "java/util/function/BiFunction"), accessFlags := 25, slot := 1, constantValue := 0 }, { name := "IOOBE_FORMATTER", type := (.object "java/util/function/BiFunction"), accessFlags := 25, slot := 2, constantValue := 0 }]
  methods := #[k14m0]
  instanceTypes := #[]
  staticTypes := #[(.object "java/util/function/BiFunction"), (.object "java/util/function/BiFunction"), (.object "java/util/function/BiFunction")]
  resolved := Array.replicate 194 none
  statics := some 2 }

def pool15 : Array CpInfo := pool [(9, u "<init>"), (6, .class_ 18), (1, u "java/lang/Object"), (0, u "()V"), (1, .class_ 23), (1, u "jdk/internal/util/ArraysSupport"), (0, u "LOG2_ARRAY_LONG_INDEX_SCALE"), (0, u "I"), (2, u "U"), (0, u "Ljdk/internal/misc/Unsafe;"), (8, u "BIG_ENDIAN"), (0, u "Z"), (8, u "LOG2_BYTE_BIT_SIZE"), (4, u "LOG2_ARRAY_INT_INDEX_SCALE"), (54, u "JLA"), (0, u "Ljdk/internal/access/JavaLangAccess;"), (11, u "LOG2_ARRAY_BOOLEAN_INDEX_SCALE"), (9, u "LOG2_ARRAY_BYTE_INDEX_SCALE"), (5, u "LOG2_ARRAY_CHAR_INDEX_SCALE"), (5, u "LOG2_ARRAY_SHORT_INDEX_SCALE"), (18, u "LOG2_ARRAY_FLOAT_INDEX_SCALE"), (24, u "LOG2_ARRAY_DOUBLE_INDEX_SCALE"), (89, u "T_BOOLEAN"), (2, u "T_CHAR"), (1, u "T_FLOAT"), (1, u "T_DOUBLE"), (1, u "T_BYTE"), (1, u "T_SHORT"), (1, u "T_INT"), (1, u "T_LONG"), (1, u "SOFT_MAX_ARRAY_LENGTH")] 83

def k15m0 : Method := { name := "<init>", desc := "()V", sig := { parameters := [], returnType := none }, accessFlags := 2, code := none }
/-- jdk/internal/util/ArraysSupport -/
def k15 : Class := { plain "jdk/internal/util/ArraysSupport" (some 0) with
  accessFlags := 33
  interfaces := #[]
  cf := some (fileOf pool15 21 #[] #[{ accessFlags := 2, nameIndex := 9, descriptorIndex := 19, attributes := #[] }] 33 16 #[] #[{ accessFlags := 24, nameIndex := 28, descriptorIndex := 29, attributes := #[] }, { accessFlags := 26, nameIndex := 38, descriptorIndex := 39, attributes := #[] }, { accessFlags := 25, nameIndex := 121, descriptorIndex := 25, attributes := #[] }, { accessFlags := 25, nameIndex := 131, descriptorIndex := 25, attributes := #[] }, { accessFlags := 25, nameIndex := 137, descriptorIndex := 25, attributes := #[] }, { accessFlags := 25, nameIndex := 143, descriptorIndex := 25, attributes := #[] }, { accessFlags := 25, nameIndex := 53, descriptorIndex := 25, attributes := #[] }, { accessFlags := 25, nameIndex := 24, descriptorIndex := 25, attributes := #[] }, { accessFlags := 25, nameIndex := 162, descriptorIndex := 25, attributes := #[] }, { accessFlags := 25, nameIndex := 187, descriptorIndex := 25, attributes := #[] }, { accessFlags := 26, nameIndex := 48, descriptorIndex := 25, attributes := #[] }, { accessFlags := 25, nameIndex := 277, descriptorIndex := 25, attributes := #[] }, { accessFlags := 25, nameIndex := 280, descriptorIndex := 25, attributes := #[] }, { accessFlags := 25, nameIndex := 282, descriptorIndex := 25, attributes := #[] }, { accessFlags := 25, nameIndex := 284, descriptorIndex := 25, attributes := #[] }, { accessFlags := 25, nameIndex := 286, descriptorIndex := 25, attributes := #[] }, { accessFlags := 25, nameIndex := 288, descriptorIndex := 25, attributes := #[] }, { accessFlags := 25, nameIndex := 290, descriptorIndex := 25, attributes := #[] }, { accessFlags := 25, nameIndex := 292, descriptorIndex := 25, attributes := #[] }, { accessFlags := 26, nameIndex := 108, descriptorIndex := 109, attributes := #[] }, { accessFlags := 25, nameIndex := 294, descriptorIndex := 25, attributes := #[] }])
  fields := #[{ name := "U", type := (.object "jdk/internal/misc/Unsafe"), accessFlags := 24, slot := 0, constantValue := 0 }, { name := "BIG_ENDIAN", type := .boolean, accessFlags := 26, slot := 1, constantValue := 0 }, { name := "LOG2_ARRAY_BOOLEAN_INDEX_SCALE", type := .int, accessFlags := 25, slot := 2, constantValue := 0 }, { name := "LOG2_ARRAY_BYTE_INDEX_SCALE", type := .int, accessFlags := 25, slot := 3, constantValue := 0 }, { name := "LOG2_ARRAY_CHAR_INDEX_SCALE", type := .int, accessFlags := 25, slot := 4, constantValue := 0 }, { name := "LOG2_ARRAY_SHORT_INDEX_SCALE", type := .int, accessFlags := 25, slot := 5, constantValue := 0 }, { name := "LOG2_ARRAY_INT_INDEX_SCALE", type := .int, accessFlags := 25, slot := 6, constantValue := 0 }, { name := "LOG2_ARRAY_LONG_INDEX_SCALE", type := .int, accessFlags := 25, slot := 7, constantValue := 0 }, { name := "LOG2_ARRAY_FLOAT_INDEX_SCALE", type := .int, accessFlags := 25, slot := 8, constantValue := 0 }, { name := "LOG2_ARRAY_DOUBLE_INDEX_SCALE", type := .int, accessFlags := 25, slot := 9, constantValue := 0 }, { name := "LOG2_BYTE_BIT_SIZE", type := .int, accessFlags := 26, slot := 10, constantValue := 0 }, { name := "T_BOOLEAN", type := .int, accessFlags := 25, slot := 11, constantValue := 0 }, { name := "T_CHAR", type := .int, accessFlags := 25, slot := 12, constantValue := 0 }, { name := "T_FLOAT", type := .int, accessFlags := 25, slot := 13, constantValue := 0 }, { name := "T_DOUBLE", type := .int, accessFlags := 25, slot := 14, constantValue := 0 }, { name := "T_BYTE", type := .int, accessFlags := 25, slot := 15, constantValue := 0 }, { name := "T_SHORT", type := .int, accessFlags := 25, slot := 16, constantValue := 0 }, { name := "T_INT", type := .int, accessFlags := 25, slot := 17, constantValue := 0 }, { name := "T_LONG", type := .int, accessFlags := 25, slot := 18, constantValue := 0 }, { name := "JLA", type := (.object "jdk/internal/access/JavaLangAccess"), accessFlags := 26, slot := 19, constantValue := 0 }, { name := "SOFT_MAX_ARRAY_LENGTH", type := .int, accessFlags := 25, slot := 20, constantValue := 0 }]
  methods := #[k15m0]
  instanceTypes := #[]
  staticTypes := #[(.object "jdk/internal/misc/Unsafe"), .boolean, .int, .int, .int, .int, .int, .int, .int, .int, .int, .int, .int, .int, .int, .int, .int, .int, .int, (.object "jdk/internal/access/JavaLangAccess"), .int]
  resolved := Array.replicate 378 none
  statics := none }

def pool16 : Array CpInfo := pool [(1, u "java/lang/Cloneable"), (0, .class_ 1), (0, u "java/lang/Object"), (0, .class_ 3)] 3

/-- java/lang/Cloneable -/
def k16 : Class := { plain "java/lang/Cloneable" (some 0) with
  accessFlags := 1537
  interfaces := #[]
  cf := some (fileOf pool16 2 #[] #[] 1537 4 #[] #[])
  fields := #[]
  methods := #[]
  instanceTypes := #[]
  staticTypes := #[]
  resolved := Array.replicate 8 none
  statics := none }

/-- the primitive byte -/
def k17 : Class := { plain "byte" none with kind := .primitive 'B', accessFlags := 0x411 }
/-- [B -/
def k18 : Class := { plain "[B" (some 0) with kind := .array 17 .byte, interfaces := #[16, 4], accessFlags := 1041 }

/-- the primitive char -/
def k19 : Class := { plain "char" none with kind := .primitive 'C', accessFlags := 0x411 }
/-- [C -/
def k20 : Class := { plain "[C" (some 0) with kind := .array 19 .char, interfaces := #[16, 4], accessFlags := 1041 }

/-- the primitive int -/
def k21 : Class := { plain "int" none with kind := .primitive 'I', accessFlags := 0x411 }
/-- [I -/
def k22 : Class := { plain "[I" (some 0) with kind := .array 21 .int, interfaces := #[16, 4], accessFlags := 1041 }

def heap : Heap := #[{ cls := 6, slots := #[.ref 3, .ref 4, .ref 5, .null, .null], vm := .statics 6 },
  { cls := 9, slots := #[.long 0, .int 1, .null, .int 0, .null, .int 0, .int 0], vm := .statics 9 },
  { cls := 14, slots := #[.null, .null, .null], vm := .statics 14 },
  { cls := 6, slots := #[.null, .int 0, .int 0, .null], vm := .none },
  { cls := 6, slots := #[.null, .int 0, .int 0, .null], vm := .none },
  { cls := 6, slots := #[.null, .int 0, .int 0, .null], vm := .none }]
def classes : Array Class := #[k0, k1, k2, k3, k4, k5, k6, k7, k8, k9, k10, k11, k12, k13, k14, k15, k16, k17, k18, k19, k20, k21, k22]
def interned : List (Array UInt16 × Addr) := []
def slotsUsed : Nat := 27
def theMethod : MethodId := ⟨1, 1⟩
def args0 : Array Value := #[.long 5, .long 6, .long 7, .long 8, .int 9]
def aboutOver (below : List Frame) : State where
  vm := { classes := classes, interned := interned.toArray }
  heap := heap
  slotsUsed := slotsUsed
  threads := #[{ frames := .invoking theMethod args0 :: below }]
def below0 : List Frame := [.native { method := ⟨0, 0⟩, args := #[] }]
def about1 : State := aboutOver below0
def p0 : Program := .bare "" "" ""
def e0 : Env := launch0.env 0 0 0
theorem w_frames : about1.frames = Frame.invoking theMethod args0 :: below0 := rfl
set_option maxRecDepth 65536 in
theorem w_args : argsFit about1.vm theMethod args0 = true := by decide +kernel
set_option maxRecDepth 65536 in
theorem w_heap : heapFits about1 = true := by decide +kernel
set_option maxRecDepth 65536 in
theorem w_runnable : about1.curStatus? = some .runnable := by decide +kernel
set_option maxRecDepth 65536 in
theorem w_alone : about1.alone = true := by decide +kernel
set_option maxRecDepth 65536 in
theorem w_named : about1.methodNamed? x = some theMethod := by decide +kernel
set_option maxRecDepth 65536 in
theorem w_hears : about1.hears theMethod below0 = true := by decide +kernel
set_option maxRecDepth 65536 in
theorem w_ripe : about1.ripe theMethod args0 below0 = true := by decide +kernel
theorem w_running : about1.status = .running := rfl
set_option maxRecDepth 65536 in
theorem w_room : about1.hasRoom e0.platform room_1 = true :=
  launch0.hasRoom_least _ room_1 (by decide +kernel) (by decide +kernel) (by decide +kernel) (by decide +kernel) (by decide +kernel) (by decide +kernel)
theorem allAtoms_all (ts : List Jvm.Cond) (a : Array Jvm.Value) (st : Jvm.State) : (allAtoms ts).before a st = ts.all (fun c => c.before a st) := by
  induction ts with
  | nil => rfl
  | cons c t ih =>
    show (Jvm.Cond.and c (allAtoms t)).before a st = _
    rw [Jvm.Cond.before_and, ih, List.all_cons]
def words1 : List Jvm.Cond := Jvm.Cond.code x code maxLocals ret :: tables_1
/-- a 'code' word, met by the world's own term for the bytes: nothing is compared byte by byte -/
theorem code_word {y : MethodName} {bytes : ByteArray} {mx : Nat} {rt : Option FieldType} {a : Array Value} {s : State} {m : MethodId} {meth : Method} {c : Code} (h1 : s.methodNamed? y = some m) (h2 : s.vm.method? m = some meth) (h3 : meth.code = some c) (h4 : c.code = bytes)
    (h5 : (c.maxLocals == mx && c.exceptionTable.isEmpty && decide (c.maxStack ≤ mostOperands) && decide (meth.sig.returnType = rt) && !meth.locks && decide (parseMethodDescriptor y.desc = some meth.sig)) = true) : (Jvm.Cond.code y bytes mx rt).before a s = true := by
  simp only [Bool.and_eq_true, beq_iff_eq, Bool.not_eq_true', decide_eq_true_eq] at h5
  obtain ⟨⟨⟨⟨⟨g1, g2⟩, g3⟩, g4⟩, g5⟩, g6⟩ := h5
  simp [Cond.before, Cond.holds, Cond.value, h1, h2, h3, h4, g1, g2, g3, g4, g5, g6]
def isCode : Jvm.Cond → Bool
  | .code _ _ _ _ => true
  | _ => false
theorem all_split {L : List Jvm.Cond} {P : Jvm.Cond → Bool} (h1 : L.all (fun c => isCode c || P c) = true) (h2 : ∀ c ∈ L.filter isCode, P c = true) : L.all P = true := by
  refine List.all_eq_true.mpr fun c hc => ?_
  have h := List.all_eq_true.mp h1 c hc
  rcases Bool.eq_false_or_eq_true (isCode c) with hi | hi
  · exact h2 c (List.mem_filter.mpr ⟨hc, hi⟩)
  · simpa [hi] using h
set_option maxRecDepth 65536 in
theorem w_c0 : (Jvm.Cond.code x code maxLocals ret).before args0 about1 = true := code_word (m := ⟨1, 1⟩) (meth := k1m1) (c := k1c1) (by decide +kernel) rfl rfl rfl (by decide +kernel)
set_option maxRecDepth 65536 in
theorem w_c1 : (Jvm.Cond.code ({ cls := "java/lang/String", name := "<init>", desc := "([C)V" } : Jvm.MethodName) jdk_42_method_3_code (2 : Nat) (Option.none : Option Jvm.ClassFile.FieldType)).before args0 about1 = true := code_word (m := ⟨9, 1⟩) (meth := k9m1) (c := k9c1) (by decide +kernel) rfl rfl rfl (by decide +kernel)
set_option maxRecDepth 65536 in
theorem w_c2 : (Jvm.Cond.code ({ cls := "java/lang/String", name := "<init>", desc := "([CIILjava/lang/Void;)V" } : Jvm.MethodName) jdk_42_method_149_code (6 : Nat) (Option.none : Option Jvm.ClassFile.FieldType)).before args0 about1 = true := code_word (m := ⟨9, 2⟩) (meth := k9m2) (c := k9c2) (by decide +kernel) rfl rfl rfl (by decide +kernel)
set_option maxRecDepth 65536 in
theorem w_c3 : (Jvm.Cond.code ({ cls := "java/lang/Object", name := "<init>", desc := "()V" } : Jvm.MethodName) object_method_1_code (1 : Nat) (Option.none : Option Jvm.ClassFile.FieldType)).before args0 about1 = true := code_word (m := ⟨0, 0⟩) (meth := k0m0) (c := k0c0) (by decide +kernel) rfl rfl rfl (by decide +kernel)
set_option maxRecDepth 65536 in
theorem w_c4 : (Jvm.Cond.code ({ cls := "java/lang/StringUTF16", name := "compress", desc := "([CII)[B" } : Jvm.MethodName) jdk_52_method_16_code (6 : Nat) (Option.some (Jvm.ClassFile.FieldType.array Jvm.ClassFile.FieldType.byte))).before args0 about1 = true := code_word (m := ⟨10, 2⟩) (meth := k10m2) (c := k10c2) (by decide +kernel) rfl rfl rfl (by decide +kernel)
set_option maxRecDepth 65536 in
theorem w_c5 : (Jvm.Cond.code ({ cls := "java/lang/StringUTF16", name := "compress", desc := "([CI[BII)I" } : Jvm.MethodName) jdk_52_method_21_code (7 : Nat) (Option.some Jvm.ClassFile.FieldType.int)).before args0 about1 = true := code_word (m := ⟨10, 3⟩) (meth := k10m3) (c := k10c3) (by decide +kernel) rfl rfl rfl (by decide +kernel)
set_option maxRecDepth 65536 in
theorem w_c6 : (Jvm.Cond.code ({ cls := "java/lang/StringUTF16", name := "coderFromArrayLen", desc := "([BI)B" } : Jvm.MethodName) jdk_52_method_15_code (2 : Nat) (Option.some Jvm.ClassFile.FieldType.byte)).before args0 about1 = true := code_word (m := ⟨10, 1⟩) (meth := k10m1) (c := k10c1) (by decide +kernel) rfl rfl rfl (by decide +kernel)
set_option maxRecDepth 65536 in
theorem w_c7 : (Jvm.Cond.code ({ cls := "com/example/reapd/reapd/TableStats", name := "<init>", desc := "(Ljava/lang/String;Lcom/example/reapd/reapd/SweepStrategy;JJJJJJJ)V" } : Jvm.MethodName) prog_22_method_1_code (17 : Nat) (Option.none : Option Jvm.ClassFile.FieldType)).before args0 about1 = true := code_word (m := ⟨12, 0⟩) (meth := k12m0) (c := k12c0) (by decide +kernel) rfl rfl rfl (by decide +kernel)
set_option maxRecDepth 65536 in
theorem w_c8 : (Jvm.Cond.code ({ cls := "java/lang/Record", name := "<init>", desc := "()V" } : Jvm.MethodName) jdk_30_method_1_code (1 : Nat) (Option.none : Option Jvm.ClassFile.FieldType)).before args0 about1 = true := code_word (m := ⟨11, 0⟩) (meth := k11m0) (c := k11c0) (by decide +kernel) rfl rfl rfl (by decide +kernel)
set_option maxRecDepth 65536 in
theorem w_c9 : (Jvm.Cond.code ({ cls := "com/example/reapd/reapd/TableStats", name := "expires", desc := "()Z" } : Jvm.MethodName) prog_22_method_2_code (1 : Nat) (Option.some Jvm.ClassFile.FieldType.boolean)).before args0 about1 = true := code_word (m := ⟨12, 1⟩) (meth := k12m1) (c := k12c1) (by decide +kernel) rfl rfl rfl (by decide +kernel)
def codes1 : List Jvm.Cond := [Jvm.Cond.code x code maxLocals ret, Jvm.Cond.code ({ cls := "java/lang/String", name := "<init>", desc := "([C)V" } : Jvm.MethodName) jdk_42_method_3_code (2 : Nat) (Option.none : Option Jvm.ClassFile.FieldType), Jvm.Cond.code ({ cls := "java/lang/String", name := "<init>", desc := "([CIILjava/lang/Void;)V" } : Jvm.MethodName) jdk_42_method_149_code (6 : Nat) (Option.none : Option Jvm.ClassFile.FieldType), Jvm.Cond.code ({ cls := "java/lang/Object", name := "<init>", desc := "()V" } : Jvm.MethodName) object_method_1_code (1 : Nat) (Option.none : Option Jvm.ClassFile.FieldType), Jvm.Cond.code ({ cls := "java/lang/StringUTF16", name := "compress", desc := "([CII)[B" } : Jvm.MethodName) jdk_52_method_16_code (6 : Nat) (Option.some (Jvm.ClassFile.FieldType.array Jvm.ClassFile.FieldType.byte)), Jvm.Cond.code ({ cls := "java/lang/StringUTF16", name := "compress", desc := "([CI[BII)I" } : Jvm.MethodName) jdk_52_method_21_code (7 : Nat) (Option.some Jvm.ClassFile.FieldType.int), Jvm.Cond.code ({ cls := "java/lang/StringUTF16", name := "coderFromArrayLen", desc := "([BI)B" } : Jvm.MethodName) jdk_52_method_15_code (2 : Nat) (Option.some Jvm.ClassFile.FieldType.byte), Jvm.Cond.code ({ cls := "com/example/reapd/reapd/TableStats", name := "<init>", desc := "(Ljava/lang/String;Lcom/example/reapd/reapd/SweepStrategy;JJJJJJJ)V" } : Jvm.MethodName) prog_22_method_1_code (17 : Nat) (Option.none : Option Jvm.ClassFile.FieldType), Jvm.Cond.code ({ cls := "java/lang/Record", name := "<init>", desc := "()V" } : Jvm.MethodName) jdk_30_method_1_code (1 : Nat) (Option.none : Option Jvm.ClassFile.FieldType), Jvm.Cond.code ({ cls := "com/example/reapd/reapd/TableStats", name := "expires", desc := "()Z" } : Jvm.MethodName) prog_22_method_2_code (1 : Nat) (Option.some Jvm.ClassFile.FieldType.boolean)]
set_option maxRecDepth 65536 in
theorem codes_eq : words1.filter isCode = codes1 := rfl
theorem w_codes : ∀ c ∈ words1.filter isCode, c.before args0 about1 = true := by
  rw [codes_eq]
  intro c hc
  simp only [codes1, List.mem_cons, List.not_mem_nil, or_false] at hc
  rcases hc with rfl | rfl | rfl | rfl | rfl | rfl | rfl | rfl | rfl | rfl
  · exact w_c0
  · exact w_c1
  · exact w_c2
  · exact w_c3
  · exact w_c4
  · exact w_c5
  · exact w_c6
  · exact w_c7
  · exact w_c8
  · exact w_c9
set_option maxRecDepth 65536 in
theorem w_t1 : (words1.take 24).all (fun c => isCode c || c.before args0 about1) = true := by decide +kernel
set_option maxRecDepth 65536 in
theorem w_t2 : ((words1.drop 24).take 24).all (fun c => isCode c || c.before args0 about1) = true := by decide +kernel
set_option maxRecDepth 65536 in
theorem w_t3 : (((words1.drop 24).drop 24).take 24).all (fun c => isCode c || c.before args0 about1) = true := by decide +kernel
set_option maxRecDepth 65536 in
theorem w_t4 : (((words1.drop 24).drop 24).drop 24).all (fun c => isCode c || c.before args0 about1) = true := by decide +kernel
theorem w_tables : (allAtoms (Jvm.Cond.code x code maxLocals ret :: tables_1)).before args0 about1 = true := by
  rw [allAtoms_all]
  show words1.all (fun c => c.before args0 about1) = true
  refine all_split ?_ w_codes
  rw [← List.take_append_drop 24 words1, List.all_append, w_t1, ← List.take_append_drop 24 (words1.drop 24), List.all_append, w_t2, ← List.take_append_drop 24 ((words1.drop 24).drop 24), List.all_append, w_t3, w_t4]
  rfl
set_option maxRecDepth 65536 in
theorem w_rest : rest_1_c.before args0 about1 = true := by decide +kernel
set_option maxRecDepth 65536 in
theorem w_case : (Jvm.Cond.and given_1 narrow_1).before args0 about1 = true := by decide +kernel
theorem w_applies : (headSpec (Jvm.Cond.code x code maxLocals ret :: tables_1) room_1).applies x e0.platform about1 = true :=
  (Spec.applies_iff w_frames).mpr ⟨w_running, w_runnable, w_alone, w_named, w_hears, w_ripe, w_room, w_tables⟩
theorem atStart : AtStart classFile x code maxLocals ret World_1 tables_1 room_1 Calls_1 rest_1 Pre_1 launch0 p0 e0 about1 theMethod args0 below0 :=
  ⟨lists_1, trivial, launch0.admits_env _ _ _, launch0.least_env, fairChoices_fair.cas, fairChoices_fair.clock, w_frames, w_args, w_heap, w_applies, trivial, w_rest, w_case⟩
end start1
theorem witness_1 : WitnessClaimed_1 := ⟨start1.p0, start1.e0, start1.about1, start1.theMethod, start1.args0, start1.below0, start1.atStart⟩
end Jvm.Pilot.@@N@@
