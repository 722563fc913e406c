import JvmDerived
import JvmDerived.Pilot.@@N@@Statement
import JvmDerived.Pilot.@@N@@Code
set_option linter.unusedVariables false
set_option linter.unusedSimpArgs false
namespace Jvm.OwnKit
open Sem ClassFile Op Lib Jvm.Stand Jvm.Free Jvm.LawKit Jvm.RoadKit
/-- from the frame g over T the run ends, and what it leaves is Q's -/
def Go (p : Program) (e : Env) (below : List Frame) (s : State) (Q : Option Value → Heap → List Loc → Prop) (C S : Nat) (T : State) (g : JFrame) : Prop :=
  ∃ s₂ o, Steps p.tables e below (T.setTop g) s₂ ∧ s₂.status = .running ∧ Ended s₂ below o ∧ ∃ v L, o = .returned v ∧ Q v s₂.heap L ∧ FrameEnd s o s₂ L C S
section OwnGo
variable {p : Program} {l : Launch} {e : Env} {R : Room} {s : State} {m : MethodId} {args : Array Value} {below : List Frame} {meth : Method} {c : Code} {T T' : State} {locs : List Loc} {cells slots : Nat} {Q : Option Value → Heap → List Loc → Prop} {C S : Nat} {g g' : JFrame}
theorem Go.st (h : ∀ t, Steps p.tables e below (T'.setTop g') t → Steps p.tables e below (T.setTop g) t) (k : Go p e below s Q C S T' g') : Go p e below s Q C S T g := by
  obtain ⟨s₂, o, h1, h2⟩ := k
  exact ⟨s₂, o, h _ h1, h2⟩
theorem Go.eq (q : g = g') (k : Go p e below s Q C S T g') : Go p e below s Q C S T g := q ▸ k
theorem Go.retV (X : Stand p l e R s m args below meth c T locs cells slots) (hx : p.tables.exec = Jvm.exec) (hlk : meth.locks = false) {pc : Nat} {Ls : Array Slot} {w : Value} {t : FieldType} {i : Instr} {rest : List Value} (hret : meth.sig.returnType = some t) (hn : narrow t w = w)
    (hi : (i = .ireturn ∧ (t = .int ∨ t = .boolean ∨ t = .byte ∨ t = .char ∨ t = .short) ∧ ∃ z, w = .int z) ∨ (i = .lreturn ∧ t = .long ∧ ∃ z, w = .long z) ∨ (i = .dreturn ∧ t = .double ∧ ∃ z, w = .double z) ∨ (i = .freturn ∧ t = .float ∧ ∃ z, w = .float z) ∨ (i = .areturn ∧ t.isReference = true ∧ w.isRef = true))
    (hd : decode c.code pc = .ok (i, 1)) (hQ : Q (some w) T.heap locs) (hc : cells ≤ C) (hs : slots ≤ S) : Go p e below s Q C S T (mkF m pc Ls (w :: rest)) := by
  obtain ⟨fs, hr, hrun, hended, hW, hsame⟩ := X.leave (v := some w) (fun h => by rw [hret] at h; cases h) hlk
  exact ⟨_, _, retOut X hx hret hn hi hd hr, hrun, hended, _, _, rfl, hQ, ⟨_, rfl⟩, hW, hsame.mono hc hs⟩
theorem Go.retI (X : Stand p l e R s m args below meth c T locs cells slots) (hx : p.tables.exec = Jvm.exec) (hlk : meth.locks = false) {pc : Nat} {Ls : Array Slot} {z : Int32} {rest : List Value} (hret : meth.sig.returnType = some .int) (hd : decode c.code pc = .ok (.ireturn, 1)) (hQ : Q (some (.int z)) T.heap locs) (hc : cells ≤ C) (hs : slots ≤ S) : Go p e below s Q C S T (mkF m pc Ls (.int z :: rest)) :=
  Go.retV X hx hlk hret rfl (Or.inl ⟨rfl, Or.inl rfl, _, rfl⟩) hd hQ hc hs
theorem Go.retZ (X : Stand p l e R s m args below meth c T locs cells slots) (hx : p.tables.exec = Jvm.exec) (hlk : meth.locks = false) {pc : Nat} {Ls : Array Slot} {z : Int32} {rest : List Value} (hret : meth.sig.returnType = some .boolean) (hd : decode c.code pc = .ok (.ireturn, 1)) (hn : narrow .boolean (.int z) = .int z) (hQ : Q (some (.int z)) T.heap locs) (hc : cells ≤ C) (hs : slots ≤ S) : Go p e below s Q C S T (mkF m pc Ls (.int z :: rest)) :=
  Go.retV X hx hlk hret hn (Or.inl ⟨rfl, Or.inr (Or.inl rfl), _, rfl⟩) hd hQ hc hs
theorem Go.retB (X : Stand p l e R s m args below meth c T locs cells slots) (hx : p.tables.exec = Jvm.exec) (hlk : meth.locks = false) {pc : Nat} {Ls : Array Slot} {z : Int32} {rest : List Value} (hret : meth.sig.returnType = some .byte) (hd : decode c.code pc = .ok (.ireturn, 1)) (hn : narrow .byte (.int z) = .int z) (hQ : Q (some (.int z)) T.heap locs) (hc : cells ≤ C) (hs : slots ≤ S) : Go p e below s Q C S T (mkF m pc Ls (.int z :: rest)) :=
  Go.retV X hx hlk hret hn (Or.inl ⟨rfl, Or.inr (Or.inr (Or.inl rfl)), _, rfl⟩) hd hQ hc hs
theorem Go.retC (X : Stand p l e R s m args below meth c T locs cells slots) (hx : p.tables.exec = Jvm.exec) (hlk : meth.locks = false) {pc : Nat} {Ls : Array Slot} {z : Int32} {rest : List Value} (hret : meth.sig.returnType = some .char) (hd : decode c.code pc = .ok (.ireturn, 1)) (hn : narrow .char (.int z) = .int z) (hQ : Q (some (.int z)) T.heap locs) (hc : cells ≤ C) (hs : slots ≤ S) : Go p e below s Q C S T (mkF m pc Ls (.int z :: rest)) :=
  Go.retV X hx hlk hret hn (Or.inl ⟨rfl, Or.inr (Or.inr (Or.inr (Or.inl rfl))), _, rfl⟩) hd hQ hc hs
theorem Go.retJ (X : Stand p l e R s m args below meth c T locs cells slots) (hx : p.tables.exec = Jvm.exec) (hlk : meth.locks = false) {pc : Nat} {Ls : Array Slot} {z : Int64} {rest : List Value} (hret : meth.sig.returnType = some .long) (hd : decode c.code pc = .ok (.lreturn, 1)) (hQ : Q (some (.long z)) T.heap locs) (hc : cells ≤ C) (hs : slots ≤ S) : Go p e below s Q C S T (mkF m pc Ls (.long z :: rest)) :=
  Go.retV X hx hlk hret rfl (Or.inr (Or.inl ⟨rfl, rfl, _, rfl⟩)) hd hQ hc hs
theorem own_nar_ref {t : FieldType} {w : Value} (hw : w.isRef = true) : narrow t w = w := by
  rcases ref_cases hw with rfl | ⟨_, rfl⟩ <;> cases t <;> rfl
theorem Go.retA (X : Stand p l e R s m args below meth c T locs cells slots) (hx : p.tables.exec = Jvm.exec) (hlk : meth.locks = false) {pc : Nat} {Ls : Array Slot} {w : Value} {t : FieldType} {rest : List Value} (hret : meth.sig.returnType = some t) (ht : t.isReference = true) (hw : w.isRef = true) (hd : decode c.code pc = .ok (.areturn, 1)) (hQ : Q (some w) T.heap locs) (hc : cells ≤ C) (hs : slots ≤ S) : Go p e below s Q C S T (mkF m pc Ls (w :: rest)) :=
  Go.retV X hx hlk hret (own_nar_ref hw) (Or.inr (Or.inr (Or.inr (Or.inr ⟨rfl, ht, hw⟩)))) hd hQ hc hs
theorem Go.ret0 (X : Stand p l e R s m args below meth c T locs cells slots) (hx : p.tables.exec = Jvm.exec) (hlk : meth.locks = false) {pc : Nat} {Ls : Array Slot} (hret : meth.sig.returnType = none) (hd : decode c.code pc = .ok (.return_, 1)) (hQ : Q none T.heap locs) (hc : cells ≤ C) (hs : slots ≤ S) : Go p e below s Q C S T (mkF m pc Ls []) := by
  obtain ⟨fs, hr, hrun, hended, hW, hsame⟩ := X.leave (v := none) (fun _ => rfl) hlk
  exact ⟨_, _, X.returnOut hx hret hd hr, hrun, hended, _, _, rfl, hQ, ⟨_, rfl⟩, hW, hsame.mono hc hs⟩
end OwnGo
/-- a proposition as Java's boolean -/
def b2i (P : Prop) [Decidable P] : Int32 := if P then 1 else 0
theorem b2i_pos {P : Prop} [Decidable P] (h : P) : b2i P = 1 := if_pos h
theorem b2i_neg {P : Prop} [Decidable P] (h : ¬ P) : b2i P = 0 := if_neg h
theorem b2i_ne {P : Prop} [Decidable P] (h : P) : ¬ b2i P = 0 := by rw [b2i_pos h]; decide
theorem b2i_zero {P : Prop} [Decidable P] (h : ¬ P) : b2i P = 0 := b2i_neg h
theorem own_b2i_t {P : Prop} [Decidable P] (h : P) : some (Value.int 1) = some (Value.int (b2i P)) := by rw [b2i_pos h]
theorem own_b2i_f {P : Prop} [Decidable P] (h : ¬ P) : some (Value.int 0) = some (Value.int (b2i P)) := by rw [b2i_neg h]
theorem own_nb (y : Int32) : nar .byte (y.toInt8.toInt32) = y.toInt8.toInt32 := by
  show y.toInt8.toInt32.toInt8.toInt32 = y.toInt8.toInt32
  simp
theorem own_nc (y : Int32) : nar .char (y.toUInt32.toUInt16.toUInt32.toInt32) = y.toUInt32.toUInt16.toUInt32.toInt32 := by
  show (y.toUInt32.toUInt16.toUInt32.toInt32).toUInt32.toUInt16.toUInt32.toInt32 = y.toUInt32.toUInt16.toUInt32.toInt32
  rw [UInt32.toUInt32_toInt32, UInt16.toUInt16_toUInt32]
theorem own_nbv (y : Int32) : narrow .byte (.int (y.toInt8.toInt32)) = .int (y.toInt8.toInt32) := congrArg Value.int (own_nb y)
theorem own_and1 (a : Int32) : a &&& (1 : Int32) = (0 : Int32) ∨ a &&& (1 : Int32) = (1 : Int32) := and_one a
theorem own_and3 (a : Int32) : a &&& (3 : Int32) = (0 : Int32) ∨ a &&& (3 : Int32) = (1 : Int32) ∨ a &&& (3 : Int32) = (2 : Int32) ∨ a &&& (3 : Int32) = (3 : Int32) := by
  have e := c_mask a 3 2 (by decide) (by decide)
  have h : (a &&& (3 : Int32)).toInt = 0 ∨ (a &&& (3 : Int32)).toInt = 1 ∨ (a &&& (3 : Int32)).toInt = 2 ∨ (a &&& (3 : Int32)).toInt = 3 := by omega
  rcases h with h | h | h | h
  · exact Or.inl (Int32.toInt_inj.mp (h.trans (by decide)))
  · exact Or.inr (Or.inl (Int32.toInt_inj.mp (h.trans (by decide))))
  · exact Or.inr (Or.inr (Or.inl (Int32.toInt_inj.mp (h.trans (by decide)))))
  · exact Or.inr (Or.inr (Or.inr (Int32.toInt_inj.mp (h.trans (by decide)))))
theorem own_ord {s : State} {args : Array Value} {t : Term} {a : Addr} {C n d : String} {k : Int32} (ev : t.eval args s none [] s = some (.ref a)) (h : (Jvm.Cond.eq (Term.field t C n d) (Term.int k)).value args s none s [] = some true) : Fld s s.heap a C n d (.int k) := by
  obtain ⟨u, w, hu, hw, k1, k2⟩ := cmp_v (Or.inl h)
  have hw' : (Term.int k).eval args s none [] s = some (.int k) := Term.int_eval k
  cases hw.symm.trans hw'
  obtain ⟨z, rfl⟩ : ∃ z, u = .int z := k2
  have hz : z = k := gotT (Cond.eq_ints hu hw') h
  subst hz
  exact Fld.start ((fld_at ev).symm.trans hu)
section OwnBounds
variable {c a b : Int32} {n : Int}
theorem own_i1 (h : c < a) (q : a.toInt ≤ b.toInt) : c < b := by rw [Int32.lt_iff_toInt_lt] at *; omega
theorem own_i2 (h : ¬ a < c) (q : a.toInt < b.toInt) : c < b := by rw [Int32.lt_iff_toInt_lt] at *; omega
theorem own_i3 (h : ¬ c < a) (q : b.toInt ≤ a.toInt) : ¬ c < b := by rw [Int32.lt_iff_toInt_lt] at *; omega
theorem own_i4 (h : a < c) (q : b.toInt ≤ a.toInt + 1) : ¬ c < b := by rw [Int32.lt_iff_toInt_lt] at *; omega
theorem own_j1 (h : c < a) (q : a.toInt ≤ b.toInt + 1) : ¬ b < c := by rw [Int32.lt_iff_toInt_lt] at *; omega
theorem own_j2 (h : ¬ a < c) (q : a.toInt ≤ b.toInt) : ¬ b < c := by rw [Int32.lt_iff_toInt_lt] at *; omega
theorem own_j3 (h : ¬ c < a) (q : b.toInt < a.toInt) : b < c := by rw [Int32.lt_iff_toInt_lt] at *; omega
theorem own_j4 (h : a < c) (q : b.toInt ≤ a.toInt) : b < c := by rw [Int32.lt_iff_toInt_lt] at *; omega
theorem own_k1 (h : c < a) (q : a.toInt ≤ b.toInt) : ¬ c = b := fun e => by rw [e, Int32.lt_iff_toInt_lt] at h; omega
theorem own_k2 (h : ¬ a < c) (q : a.toInt < b.toInt) : ¬ c = b := fun e => by rw [e, Int32.lt_iff_toInt_lt] at h; omega
theorem own_k3 (h : ¬ c < a) (q : b.toInt < a.toInt) : ¬ c = b := fun e => by rw [e, Int32.lt_iff_toInt_lt] at h; omega
theorem own_k4 (h : a < c) (q : b.toInt ≤ a.toInt) : ¬ c = b := fun e => by rw [e, Int32.lt_iff_toInt_lt] at h; omega
theorem own_c1 (h : c < a) (q : a.toInt = n) : c.toInt < n := by rw [Int32.lt_iff_toInt_lt] at h; omega
theorem own_c2 (h : ¬ a < c) (q : a.toInt = n) : c.toInt ≤ n := by rw [Int32.lt_iff_toInt_lt] at h; omega
theorem own_c3 (h : ¬ c < a) (q : a.toInt = n) : n ≤ c.toInt := by rw [Int32.lt_iff_toInt_lt] at h; omega
theorem own_c4 (h : a < c) (q : a.toInt = n) : n < c.toInt := by rw [Int32.lt_iff_toInt_lt] at h; omega
theorem own_c5 (h : c = a) (q : a.toInt = n) : c.toInt = n := by rw [h]; exact q
theorem own_c6 (h : ¬ c = a) (q : a.toInt = n) : ¬ c.toInt = n := fun e => h (Int32.toInt_inj.mp (e.trans q.symm))
end OwnBounds
theorem own_addc {a b c d : Int32} (h : b + c = d) : (a + b) + c = a + d := by rw [Int32.add_assoc, h]
theorem own_byte_of {v : Value} (h : fits .byte v = true) : ∃ w, v = .int w ∧ narrow .byte (.int w) = .int w := by
  cases v with
  | int w =>
    refine ⟨w, rfl, ?_⟩
    obtain ⟨h1, h2⟩ := rng_byte h
    have e := c_i2b w
    have e1 : (-128 : Int32).toInt = -128 := by decide
    have e2 : (127 : Int32).toInt = 127 := by decide
    rw [Int32.lt_iff_toInt_lt, e1] at h1
    rw [Int32.lt_iff_toInt_lt, e2] at h2
    have e3 : w.toInt8.toInt32 = w := Int32.toInt_inj.mp (by omega)
    exact congrArg Value.int e3
  | _ => simp [fits] at h
theorem own_arv_nostat {Z : State} {h : Heap} {a : Addr} {k : ClassId} {ty : FieldType} {z : Int32} {vs : List Value} {dv : Value} (F : Arv Z h a k ty z vs dv) : ∀ cell : Cell, h[a]? = some cell → cell.vm.isStatics = false := by
  obtain ⟨c, A, -⟩ := F
  intro cell hc
  cases A.1.symm.trans hc
  exact A.plain
theorem own_selP {s : State} {args args' : Array Value} {y y' : MethodName} (hsel : (Jvm.Cond.selects y'.cls y' y').before args s = true) (he : y.cls = y'.cls) (hp : s.PrivateAt y) (hi : (Jvm.Cond.instanceMethod y).before args s = true) (hy : y.cls ≠ "java/lang/invoke/MethodHandle" ∧ y.cls ≠ "java/lang/invoke/VarHandle") : (Jvm.Cond.selects y.cls y y).before args s = true := by
  obtain ⟨c2, r2, m2, -, -, q3, -, kP, hkP, hkPi⟩ := Cond.selects_spec hsel
  exact Jvm.Stand.selects_self_of_private (by rw [he]; exact findClass_of_methodNamed q3) hkP hkPi hp hi hy
theorem own_irr {a : Int32} : ¬ (a < a) := Int32.lt_irrefl
theorem own_irrL {a : Int64} : ¬ (a < a) := Int64.lt_irrefl
theorem own_sta_keep {Z : State} {h h' : Heap} {C n d : String} {v : Value} {ws : List Addr} (F : Sta Z h C n d v) (K : Keep h h' ws) (q : ∀ x ∈ ws, ∀ cell : Cell, h[x]? = some cell → cell.vm.isStatics = false) : Sta Z h' C n d v := by
  obtain ⟨cf, i, k, f, st, cell, h1, h2, h3, h4, h5, h6, h7⟩ := F
  refine ⟨cf, i, k, f, st, cell, h1, h2, h3, h4, K.2.1 _ _ h5 (fun hm => ?_), h6, h7⟩
  have := q _ hm _ h5
  rw [h6] at this
  cases this
end Jvm.OwnKit
namespace Jvm.Pilot.@@N@@
open Jvm Jvm.ClassFile Sem Op Lib Jvm.Free Jvm.Stand Jvm.LawKit Jvm.RoadKit Jvm.OwnKit Bundle Jvm.Pilot.@@N@@.Jvm.D
theorem own_s (a : Int32) : 0 ≤ (a &&& (65535 : Int32)).toInt ∧ (a &&& (65535 : Int32)).toInt ≤ 65535 := by
  have e1 := c_mask a 65535 16 (by decide) (by decide)
  omega
theorem own_one : (1 : Int32).toInt = 1 := by decide
theorem own_sp {s : Int32} (hs : 0 ≤ s.toInt ∧ s.toInt ≤ 65535) : (s + (1 : Int32)).toInt = s.toInt + 1 := by
  have e1 := c_iadd s (1 : Int32)
  have e2 := rng32 (s + (1 : Int32))
  rw [own_one] at e1
  omega
theorem own_nz {s : Int32} (hs : 0 ≤ s.toInt ∧ s.toInt ≤ 65535) : (s + (1 : Int32)) ≠ (0 : Int32) := fun q => by
  have e := own_sp hs
  rw [q] at e
  have h0 : (0 : Int32).toInt = 0 := by decide
  omega
theorem own_k {s : Int32} (a : Int32) (hs : 0 ≤ s.toInt ∧ s.toInt ≤ 65535) : 0 ≤ ((a &&& (2147483647 : Int32)) % (s + (1 : Int32))).toInt ∧ ((a &&& (2147483647 : Int32)) % (s + (1 : Int32))).toInt ≤ s.toInt := by
  have e1 := c_mask a 2147483647 31 (by decide) (by decide)
  have e2 := own_sp hs
  obtain ⟨e3, e4, -⟩ := (c_iremV (a &&& (2147483647 : Int32)) (s + (1 : Int32))).1 (by rw [e1]; omega) (by rw [e2]; omega)
  rw [e2] at e4
  omega
theorem own_nz2 {s k : Int32} (hs : 0 ≤ s.toInt ∧ s.toInt ≤ 65535) (hk : 0 ≤ k.toInt ∧ k.toInt ≤ s.toInt) : ((s - k) + (1 : Int32)) ≠ (0 : Int32) := fun q => by
  have e1 := c_isub s k
  have e2 := rng32 (s - k)
  have e3 := c_iadd (s - k) (1 : Int32)
  rw [q, own_one] at e3
  have h0 : (0 : Int32).toInt = 0 := by decide
  omega
theorem own_b0 {s k : Int32} (hs : 0 ≤ s.toInt ∧ s.toInt ≤ 65535) (hk : 0 ≤ k.toInt ∧ k.toInt ≤ s.toInt) : ¬ k < (0 : Int32) := by
  have h0 : (0 : Int32).toInt = 0 := by decide
  rw [Int32.lt_iff_toInt_lt]
  omega
theorem own_b1 {s k : Int32} (hs : 0 ≤ s.toInt ∧ s.toInt ≤ 65535) (hk : 0 ≤ k.toInt ∧ k.toInt ≤ s.toInt) : ¬ (s + (1 : Int32)) < k := by
  rw [Int32.lt_iff_toInt_lt, own_sp hs]
  omega
theorem own_b2 {s k : Int32} (hs : 0 ≤ s.toInt ∧ s.toInt ≤ 65535) (hk : 0 ≤ k.toInt ∧ k.toInt ≤ s.toInt) : ¬ (k + (1 : Int32)) < (0 : Int32) := by
  have h0 : (0 : Int32).toInt = 0 := by decide
  have e := own_sp (s := k) (by omega)
  rw [Int32.lt_iff_toInt_lt, e]
  omega
theorem own_b3 {s k : Int32} (hs : 0 ≤ s.toInt ∧ s.toInt ≤ 65535) (hk : 0 ≤ k.toInt ∧ k.toInt ≤ s.toInt) : ¬ (s + (1 : Int32)) < (k + (1 : Int32)) := by
  have e := own_sp (s := k) (by omega)
  rw [Int32.lt_iff_toInt_lt, own_sp hs, e]
  omega
theorem d2_0 : decode jdk_30_method_1_code 0 = .ok (.aload_n 0, 1) := by decide +kernel
theorem d2_1 : decode jdk_30_method_1_code 1 = .ok (.invokespecial 1, 3) := by decide +kernel
theorem d2_4 : decode jdk_30_method_1_code 4 = .ok (.return_, 1) := by decide +kernel
theorem pn_0 : plainName "java/lang/Record" = true := by first | (simp [plainName, overriddenIn]; done) | decide +kernel
theorem ef_rm2 (m : MethodId) (a : Addr) : entryFrame m #[(.ref a)] 1 = mkF m 0 #[.val (.ref a)] [] := by first | (simp [entryFrame, mkF, argsToLocals, Value.category]; done) | rfl
def Qrm2 (Z : State) (a : Addr) (h0 : Heap) (n0 : Nat) (rV : Option Value) (hE : Heap) (LE : List Loc) : Prop := rV = none ∧ Fr n0 LE ∧ hE = h0
set_option maxRecDepth 65536 in
set_option maxHeartbeats 40000000 in
theorem rm2 (l : Launch) (Z : State) (a0 : Array Value) (hw : ∀ d ∈ tables_1, d.before a0 Z = true) (ws : List Jvm.Cond) (a : Addr) (h0 : Heap) (n0 : Nat) (Z0 : n0 ≤ h0.size) :
    MetFree l (⟨"java/lang/Record", "<init>", "()V"⟩ : MethodName) (head1 (Jvm.Cond.code (⟨"java/lang/Record", "<init>", "()V"⟩ : MethodName) jdk_30_method_1_code 1 none :: ws) ({ frames := 1, cells := 0, slots := 0, locals := 12 } : Room)) (fun aA UA => aA = #[(.ref a)] ∧ Z.Warmed39 UA.vm ∧ UA.heap = h0) (fun _ _ _ _ _ => True) (fun _ UA oA UB => ∃ rV LE, oA = .returned rV ∧ Qrm2 Z a h0 n0 rV UB.heap LE ∧ FrameEnd UA oA UB LE ({ frames := 1, cells := 0, slots := 0, locals := 12 } : Room).cells ({ frames := 1, cells := 0, slots := 0, locals := 12 } : Room).slots) := by
  refine MetFree.of_bodySF (plainFor_of_name pn_0) hisR ?_
  intro p e s m args below meth c s₁ Bd hml0 hP hK
  obtain ⟨rfl, hZ, hh⟩ := hP
  have hx := Bd.exec
  have hby := Bd.bytes
  have hml : c.maxLocals = 1 := hml0
  have hown : s.vm.findClass "java/lang/Record" = some m.cls := findClass_of_methodNamed Bd.named
  have hnm := (name_of_methodNamed Bd.named Bd.method).1
  have hlk := Bd.notSynchronized
  have X0 : Stand p l e ({ frames := 1, cells := 0, slots := 0, locals := 12 } : Room) s m #[(.ref a)] below meth c s₁ [] 0 0 := Stand.of_body Bd
  have e0 : s₁.heap = h0 := by rw [← hh, Bd.state]; rfl
  have N0 := Fr.nil n0
  show Go p e below s (Qrm2 Z a h0 n0) ({ frames := 1, cells := 0, slots := 0, locals := 12 } : Room).cells ({ frames := 1, cells := 0, slots := 0, locals := 12 } : Room).slots s₁ (entryFrame m #[(.ref a)] 1)
  refine Go.eq (ef_rm2 m a) ?_
  show Go p e below s _ _ _ s₁ (mkF m 0 #[.val (.ref a)] [])
  refine Go.st (fun _ => XS.aloadN X0.here hx rfl (hb hby d2_0) rfl rfl) ?_
  show Go p e below s _ _ _ s₁ (mkF m 1 #[.val (.ref a)] [(.ref a)])
  obtain ⟨T1, X1, e1, st1⟩ := initO X0 hx hZ hown (hw _ (List.mem_of_getElem? (i := 13) rfl)) (hw _ (List.mem_of_getElem? (i := 14) rfl)) (hw _ (List.mem_of_getElem? (i := 15) rfl)) e0 (g := (mkF m 1 #[.val (.ref a)] [(.ref a)])) rfl (by rw [hml]; rfl) rfl (hb hby d2_1) (by decide) (W := 0) (by show 2 * 0 + _ ≤ _; exact Nat.le_of_eq rfl) (by decide)
  refine Go.st st1 ?_
  show Go p e below s _ _ _ T1 (mkF m 4 #[.val (.ref a)] [])
  exact Go.ret0 X1 hx hlk Bd.returns (hb hby d2_4) (by rw [e1]; exact ⟨rfl, N0, rfl⟩) (by decide) (by decide)
theorem d1_0 : decode prog_181_method_1_code 0 = .ok (.aload_n 0, 1) := by decide +kernel
theorem d1_1 : decode prog_181_method_1_code 1 = .ok (.invokespecial 1, 3) := by decide +kernel
theorem pd_0 : parseMethodDescriptor "()V" = some ⟨[], none⟩ := by decide +kernel
theorem d1_4 : decode prog_181_method_1_code 4 = .ok (.aload_n 0, 1) := by decide +kernel
theorem d1_5 : decode prog_181_method_1_code 5 = .ok (.iload_n 1, 1) := by decide +kernel
theorem d1_6 : decode prog_181_method_1_code 6 = .ok (.putfield 7, 3) := by decide +kernel
theorem d1_9 : decode prog_181_method_1_code 9 = .ok (.aload_n 0, 1) := by decide +kernel
theorem d1_10 : decode prog_181_method_1_code 10 = .ok (.iload_n 2, 1) := by decide +kernel
theorem d1_11 : decode prog_181_method_1_code 11 = .ok (.putfield 13, 3) := by decide +kernel
theorem d1_14 : decode prog_181_method_1_code 14 = .ok (.aload_n 0, 1) := by decide +kernel
theorem d1_15 : decode prog_181_method_1_code 15 = .ok (.iload_n 3, 1) := by decide +kernel
theorem d1_16 : decode prog_181_method_1_code 16 = .ok (.putfield 17, 3) := by decide +kernel
theorem d1_19 : decode prog_181_method_1_code 19 = .ok (.aload_n 0, 1) := by decide +kernel
theorem d1_20 : decode prog_181_method_1_code 20 = .ok (.iload 4, 2) := by decide +kernel
theorem d1_22 : decode prog_181_method_1_code 22 = .ok (.putfield 20, 3) := by decide +kernel
theorem d1_25 : decode prog_181_method_1_code 25 = .ok (.return_, 1) := by decide +kernel
theorem pn_1 : plainName "kasane/service/Storage$Placement" = true := by first | (simp [plainName, overriddenIn]; done) | decide +kernel
theorem ef_rm1 (m : MethodId) (a : Addr) (z : Int32) (s1 : Int32) (k : Int32) (u : Int32) : entryFrame m #[(.ref a), (.int z), (.int s1), (.int k), (.int u)] 5 = mkF m 0 #[.val (.ref a), .val (.int z), .val (.int s1), .val (.int k), .val (.int u)] [] := by first | (simp [entryFrame, mkF, argsToLocals, Value.category]; done) | rfl
def Qrm1 (Z : State) (a : Addr) (z : Int32) (s1 : Int32) (k : Int32) (u : Int32) (h0 : Heap) (n0 : Nat) (rV : Option Value) (hE : Heap) (LE : List Loc) : Prop := rV = none ∧ Fr n0 LE ∧ Keep h0 hE [a] ∧ Exa Z hE a "kasane/service/Storage$Placement" ∧ Fld Z hE a "kasane/service/Storage$Placement" "here" "Z" (.int (nar .boolean z)) ∧ Fld Z hE a "kasane/service/Storage$Placement" "acknowledged" "I" (.int k)
set_option maxRecDepth 65536 in
set_option maxHeartbeats 40000000 in
theorem rm1 (l : Launch) (Z : State) (a0 : Array Value) (hw : ∀ d ∈ tables_1, d.before a0 Z = true) (ws : List Jvm.Cond) (a : Addr) (z : Int32) (s1 : Int32) (k : Int32) (u : Int32) (h0 : Heap) (n0 : Nat) (Z0 : n0 ≤ h0.size) (E_a : Exa Z h0 a "kasane/service/Storage$Placement") (F_here_a : Fld Z h0 a "kasane/service/Storage$Placement" "here" "Z" (.int (0 : Int32))) (F_sent_a : Fld Z h0 a "kasane/service/Storage$Placement" "sent" "I" (.int (0 : Int32))) (F_acknowledged_a : Fld Z h0 a "kasane/service/Storage$Placement" "acknowledged" "I" (.int (0 : Int32))) (F_superseded_a : Fld Z h0 a "kasane/service/Storage$Placement" "superseded" "I" (.int (0 : Int32))) (g_a : n0 ≤ a) :
    MetFree l (⟨"kasane/service/Storage$Placement", "<init>", "(ZIII)V"⟩ : MethodName) (head1 (Jvm.Cond.code (⟨"kasane/service/Storage$Placement", "<init>", "(ZIII)V"⟩ : MethodName) prog_181_method_1_code 5 none :: ws) ({ frames := 2, cells := 0, slots := 0, locals := 24 } : Room)) (fun aA UA => aA = #[(.ref a), (.int z), (.int s1), (.int k), (.int u)] ∧ Z.Warmed39 UA.vm ∧ UA.heap = h0) (fun _ _ _ _ _ => True) (fun _ UA oA UB => ∃ rV LE, oA = .returned rV ∧ Qrm1 Z a z s1 k u h0 n0 rV UB.heap LE ∧ FrameEnd UA oA UB LE ({ frames := 2, cells := 0, slots := 0, locals := 24 } : Room).cells ({ frames := 2, cells := 0, slots := 0, locals := 24 } : Room).slots) := by
  refine MetFree.of_bodySF (plainFor_of_name pn_1) hisR ?_
  intro p e s m args below meth c s₁ Bd hml0 hP hK
  obtain ⟨rfl, hZ, hh⟩ := hP
  have hx := Bd.exec
  have hby := Bd.bytes
  have hml : c.maxLocals = 5 := hml0
  have hown : s.vm.findClass "kasane/service/Storage$Placement" = some m.cls := findClass_of_methodNamed Bd.named
  have hnm := (name_of_methodNamed Bd.named Bd.method).1
  have hlk := Bd.notSynchronized
  have X0 : Stand p l e ({ frames := 2, cells := 0, slots := 0, locals := 24 } : Room) s m #[(.ref a), (.int z), (.int s1), (.int k), (.int u)] below meth c s₁ [] 0 0 := Stand.of_body Bd
  have e0 : s₁.heap = h0 := by rw [← hh, Bd.state]; rfl
  have N0 := Fr.nil n0
  show Go p e below s (Qrm1 Z a z s1 k u h0 n0) ({ frames := 2, cells := 0, slots := 0, locals := 24 } : Room).cells ({ frames := 2, cells := 0, slots := 0, locals := 24 } : Room).slots s₁ (entryFrame m #[(.ref a), (.int z), (.int s1), (.int k), (.int u)] 5)
  refine Go.eq (ef_rm1 m a z s1 k u) ?_
  show Go p e below s _ _ _ s₁ (mkF m 0 #[.val (.ref a), .val (.int z), .val (.int s1), .val (.int k), .val (.int u)] [])
  refine Go.st (fun _ => XS.aloadN X0.here hx rfl (hb hby d1_0) rfl rfl) ?_
  show Go p e below s _ _ _ s₁ (mkF m 1 #[.val (.ref a), .val (.int z), .val (.int s1), .val (.int k), .val (.int u)] [(.ref a)])
  obtain ⟨_, _, ⟨T1, L1, kc1, nc1⟩, -, X1, ⟨Lc1, hQ1, l1, y1, z1⟩, st1⟩ := X0.specialBack hx (y := (⟨"java/lang/Record", "<init>", "()V"⟩ : MethodName)) rfl hown (mvT hZ (hw _ (List.mem_of_getElem? (i := 8) rfl))) (mvT hZ (hw _ (List.mem_of_getElem? (i := 9) rfl))) (mvT hZ (hw _ (List.mem_of_getElem? (i := 12) rfl))) (by decide) (backOf (W := 0) (rm2 l Z a0 hw [] a h0 n0 Z0 ) hZ (hw _ (List.mem_of_getElem? (i := 12) rfl)) (hw _ (List.mem_of_getElem? (i := 11) rfl)) (by decide) (by decide)) (g := (mkF m 1 #[.val (.ref a), .val (.int z), .val (.int s1), .val (.int k), .val (.int u)] [(.ref a)])) rfl (by rw [hml]; rfl) (Steps.refl _) (a := a) (argsL := []) (rest := []) (lenOf pd_0 rfl) rfl (by show 2 * 0 + _ ≤ _; exact Nat.le_of_eq rfl) (hb hby d1_1) (fun _ _ => ⟨rfl, e0, (by decide : 0 + 0 ≤ _), (by decide : 0 + 0 ≤ _)⟩)
  dsimp only [Pt.U, Pt.locs, Pt.cells, Pt.slots] at X1 l1 y1 z1 st1 hQ1
  subst l1 y1 z1
  obtain ⟨h1, e1⟩ : ∃ hh, T1.heap = hh := ⟨_, rfl⟩
  rw [e1] at hQ1
  obtain ⟨rfl, N1q, sm1⟩ := hQ1
  have N1 := Fr.app N0 N1q
  refine Go.st (fun _ kk => st1.trans kk) ?_
  rw [sm1] at e1
  show Go p e below s _ _ _ T1 (mkF m 4 #[.val (.ref a), .val (.int z), .val (.int s1), .val (.int k), .val (.int u)] [])
  refine Go.st (fun _ => XS.aloadN X1.here hx rfl (hb hby d1_4) rfl rfl) ?_
  show Go p e below s _ _ _ T1 (mkF m 5 #[.val (.ref a), .val (.int z), .val (.int s1), .val (.int k), .val (.int u)] [(.ref a)])
  refine Go.st (fun _ => XS.iloadN X1.here hx rfl (hb hby d1_5) rfl) ?_
  show Go p e below s _ _ _ T1 (mkF m 6 #[.val (.ref a), .val (.int z), .val (.int s1), .val (.int k), .val (.int u)] [(.int z), (.ref a)])
  obtain ⟨T2, h2, X2, e2, W2, st2⟩ := putFN X1 hx hZ hown (hw _ (List.mem_of_getElem? (i := 16) rfl)) Via.refl e1 F_here_a E_a (Or.inr ⟨(hw _ (List.mem_of_getElem? (i := 17) rfl)), rfl, hnm⟩) (hw _ (List.mem_of_getElem? (i := 3) rfl)) (ty := .boolean) (v' := (.int (nar .boolean z))) (by decide) rfl (fits_nar_bool _) (g := (mkF m 6 #[.val (.ref a), .val (.int z), .val (.int s1), .val (.int k), .val (.int u)] [(.int z), (.ref a)])) rfl rfl (hb hby d1_6)
  refine Go.st st2 ?_
  have N2 := Fr.snoc X2 N1 g_a
  have K2 : Keep h0 h2 [a] := (Keep.refl h0 [a]).wr W2 (Or.inl (List.mem_of_getElem? (i := 0) rfl))
  have z2 : n0 ≤ h2.size := Nat.le_trans Z0 (Nat.le_of_eq W2.size.symm)
  have Fw2 := F_here_a.same W2
  show Go p e below s _ _ _ T2 (mkF m 9 #[.val (.ref a), .val (.int z), .val (.int s1), .val (.int k), .val (.int u)] [])
  refine Go.st (fun _ => XS.aloadN X2.here hx rfl (hb hby d1_9) rfl rfl) ?_
  show Go p e below s _ _ _ T2 (mkF m 10 #[.val (.ref a), .val (.int z), .val (.int s1), .val (.int k), .val (.int u)] [(.ref a)])
  refine Go.st (fun _ => XS.iloadN X2.here hx rfl (hb hby d1_10) rfl) ?_
  show Go p e below s _ _ _ T2 (mkF m 11 #[.val (.ref a), .val (.int z), .val (.int s1), .val (.int k), .val (.int u)] [(.int s1), (.ref a)])
  have f3 := (E_a.wr W2)
  have f4 := (F_sent_a.other W2 (Or.inr (slot_ne (Or.inr (hw _ (List.mem_of_getElem? (i := 19) rfl))) (Or.inr (hw _ (List.mem_of_getElem? (i := 17) rfl))) (by decide) (t := .int) (t' := .boolean) (by decide) (by decide))))
  obtain ⟨T5, h5, X5, e5, W5, st5⟩ := putF X2 hx hZ hown (host := "") (Or.inl (hw _ (List.mem_of_getElem? (i := 18) rfl))) Via.refl e2 f4 f3 (Or.inr ⟨(hw _ (List.mem_of_getElem? (i := 19) rfl)), rfl, hnm⟩) (hw _ (List.mem_of_getElem? (i := 3) rfl)) (ty := .int) (by decide) rfl rfl (g := (mkF m 11 #[.val (.ref a), .val (.int z), .val (.int s1), .val (.int k), .val (.int u)] [(.int s1), (.ref a)])) rfl rfl (hb hby d1_11)
  refine Go.st st5 ?_
  have N5 := Fr.snoc X5 N2 g_a
  have K5 : Keep h0 h5 [a] := K2.wr W5 (Or.inl (List.mem_of_getElem? (i := 0) rfl))
  have z5 : n0 ≤ h5.size := Nat.le_trans z2 (Nat.le_of_eq W5.size.symm)
  have Fw5 := f4.same W5
  show Go p e below s _ _ _ T5 (mkF m 14 #[.val (.ref a), .val (.int z), .val (.int s1), .val (.int k), .val (.int u)] [])
  refine Go.st (fun _ => XS.aloadN X5.here hx rfl (hb hby d1_14) rfl rfl) ?_
  show Go p e below s _ _ _ T5 (mkF m 15 #[.val (.ref a), .val (.int z), .val (.int s1), .val (.int k), .val (.int u)] [(.ref a)])
  refine Go.st (fun _ => XS.iloadN X5.here hx rfl (hb hby d1_15) rfl) ?_
  show Go p e below s _ _ _ T5 (mkF m 16 #[.val (.ref a), .val (.int z), .val (.int s1), .val (.int k), .val (.int u)] [(.int k), (.ref a)])
  have f6 := (f3.wr W5)
  have f7 := ((F_acknowledged_a.other W2 (Or.inr (slot_ne (Or.inr (hw _ (List.mem_of_getElem? (i := 21) rfl))) (Or.inr (hw _ (List.mem_of_getElem? (i := 17) rfl))) (by decide) (t := .int) (t' := .boolean) (by decide) (by decide)))).other W5 (Or.inr (slot_ne (Or.inr (hw _ (List.mem_of_getElem? (i := 21) rfl))) (Or.inr (hw _ (List.mem_of_getElem? (i := 19) rfl))) (by decide) (t := .int) (t' := .int) (by decide) (by decide))))
  obtain ⟨T8, h8, X8, e8, W8, st8⟩ := putF X5 hx hZ hown (host := "") (Or.inl (hw _ (List.mem_of_getElem? (i := 20) rfl))) Via.refl e5 f7 f6 (Or.inr ⟨(hw _ (List.mem_of_getElem? (i := 21) rfl)), rfl, hnm⟩) (hw _ (List.mem_of_getElem? (i := 3) rfl)) (ty := .int) (by decide) rfl rfl (g := (mkF m 16 #[.val (.ref a), .val (.int z), .val (.int s1), .val (.int k), .val (.int u)] [(.int k), (.ref a)])) rfl rfl (hb hby d1_16)
  refine Go.st st8 ?_
  have N8 := Fr.snoc X8 N5 g_a
  have K8 : Keep h0 h8 [a] := K5.wr W8 (Or.inl (List.mem_of_getElem? (i := 0) rfl))
  have z8 : n0 ≤ h8.size := Nat.le_trans z5 (Nat.le_of_eq W8.size.symm)
  have Fw8 := f7.same W8
  show Go p e below s _ _ _ T8 (mkF m 19 #[.val (.ref a), .val (.int z), .val (.int s1), .val (.int k), .val (.int u)] [])
  refine Go.st (fun _ => XS.aloadN X8.here hx rfl (hb hby d1_19) rfl rfl) ?_
  show Go p e below s _ _ _ T8 (mkF m 20 #[.val (.ref a), .val (.int z), .val (.int s1), .val (.int k), .val (.int u)] [(.ref a)])
  refine Go.st (fun _ => XS.iload X8.here hx rfl (hb hby d1_20) rfl) ?_
  show Go p e below s _ _ _ T8 (mkF m 22 #[.val (.ref a), .val (.int z), .val (.int s1), .val (.int k), .val (.int u)] [(.int u), (.ref a)])
  have f9 := (f6.wr W8)
  have f10 := (((F_superseded_a.other W2 (Or.inr (slot_ne (Or.inr (hw _ (List.mem_of_getElem? (i := 23) rfl))) (Or.inr (hw _ (List.mem_of_getElem? (i := 17) rfl))) (by decide) (t := .int) (t' := .boolean) (by decide) (by decide)))).other W5 (Or.inr (slot_ne (Or.inr (hw _ (List.mem_of_getElem? (i := 23) rfl))) (Or.inr (hw _ (List.mem_of_getElem? (i := 19) rfl))) (by decide) (t := .int) (t' := .int) (by decide) (by decide)))).other W8 (Or.inr (slot_ne (Or.inr (hw _ (List.mem_of_getElem? (i := 23) rfl))) (Or.inr (hw _ (List.mem_of_getElem? (i := 21) rfl))) (by decide) (t := .int) (t' := .int) (by decide) (by decide))))
  obtain ⟨T11, h11, X11, e11, W11, st11⟩ := putF X8 hx hZ hown (host := "") (Or.inl (hw _ (List.mem_of_getElem? (i := 22) rfl))) Via.refl e8 f10 f9 (Or.inr ⟨(hw _ (List.mem_of_getElem? (i := 23) rfl)), rfl, hnm⟩) (hw _ (List.mem_of_getElem? (i := 3) rfl)) (ty := .int) (by decide) rfl rfl (g := (mkF m 22 #[.val (.ref a), .val (.int z), .val (.int s1), .val (.int k), .val (.int u)] [(.int u), (.ref a)])) rfl rfl (hb hby d1_22)
  refine Go.st st11 ?_
  have N11 := Fr.snoc X11 N8 g_a
  have K11 : Keep h0 h11 [a] := K8.wr W11 (Or.inl (List.mem_of_getElem? (i := 0) rfl))
  have z11 : n0 ≤ h11.size := Nat.le_trans z8 (Nat.le_of_eq W11.size.symm)
  have Fw11 := f10.same W11
  show Go p e below s _ _ _ T11 (mkF m 25 #[.val (.ref a), .val (.int z), .val (.int s1), .val (.int k), .val (.int u)] [])
  have f12 := (f9.wr W11)
  have f13 := (((Fw2.other W5 (Or.inr (slot_ne (Or.inr (hw _ (List.mem_of_getElem? (i := 17) rfl))) (Or.inr (hw _ (List.mem_of_getElem? (i := 19) rfl))) (by decide) (t := .boolean) (t' := .int) (by decide) (by decide)))).other W8 (Or.inr (slot_ne (Or.inr (hw _ (List.mem_of_getElem? (i := 17) rfl))) (Or.inr (hw _ (List.mem_of_getElem? (i := 21) rfl))) (by decide) (t := .boolean) (t' := .int) (by decide) (by decide)))).other W11 (Or.inr (slot_ne (Or.inr (hw _ (List.mem_of_getElem? (i := 17) rfl))) (Or.inr (hw _ (List.mem_of_getElem? (i := 23) rfl))) (by decide) (t := .boolean) (t' := .int) (by decide) (by decide))))
  have f14 := (Fw8.other W11 (Or.inr (slot_ne (Or.inr (hw _ (List.mem_of_getElem? (i := 21) rfl))) (Or.inr (hw _ (List.mem_of_getElem? (i := 23) rfl))) (by decide) (t := .int) (t' := .int) (by decide) (by decide))))
  exact Go.ret0 X11 hx hlk Bd.returns (hb hby d1_25) (by rw [e11]; exact ⟨rfl, N11, K11, f12, f13, f14⟩) (by decide) (by decide)
theorem d4_0 : decode prog_181_method_2_code 0 = .ok (.aload_n 0, 1) := by decide +kernel
theorem d4_1 : decode prog_181_method_2_code 1 = .ok (.getfield 17, 3) := by decide +kernel
theorem d4_4 : decode prog_181_method_2_code 4 = .ok (.aload_n 0, 1) := by decide +kernel
theorem d4_5 : decode prog_181_method_2_code 5 = .ok (.getfield 7, 3) := by decide +kernel
theorem d4_8 : decode prog_181_method_2_code 8 = .ok (.ifCond .eq 7, 3) := by decide +kernel
theorem d4_15 : decode prog_181_method_2_code 15 = .ok (.iconst 0, 1) := by decide +kernel
theorem d4_16 : decode prog_181_method_2_code 16 = .ok (.iadd, 1) := by decide +kernel
theorem d4_17 : decode prog_181_method_2_code 17 = .ok (.ireturn, 1) := by decide +kernel
theorem d4_11 : decode prog_181_method_2_code 11 = .ok (.iconst 1, 1) := by decide +kernel
theorem d4_12 : decode prog_181_method_2_code 12 = .ok (.goto 4, 3) := by decide +kernel
theorem ef_rm4 (m : MethodId) (a : Addr) : entryFrame m #[(.ref a)] 1 = mkF m 0 #[.val (.ref a)] [] := by first | (simp [entryFrame, mkF, argsToLocals, Value.category]; done) | rfl
def Qrm4 (Z : State) (a : Addr) (z : Int32) (k : Int32) (h0 : Heap) (n0 : Nat) (rV : Option Value) (hE : Heap) (LE : List Loc) : Prop := rV = some (.int (k + z)) ∧ Fr n0 LE ∧ hE = h0
set_option maxRecDepth 65536 in
set_option maxHeartbeats 40000000 in
theorem rm4 (l : Launch) (Z : State) (a0 : Array Value) (hw : ∀ d ∈ tables_1, d.before a0 Z = true) (ws : List Jvm.Cond) (a : Addr) (z : Int32) (k : Int32) (h0 : Heap) (n0 : Nat) (Z0 : n0 ≤ h0.size) (F_here_a : Fld Z h0 a "kasane/service/Storage$Placement" "here" "Z" (.int z)) (F_acknowledged_a : Fld Z h0 a "kasane/service/Storage$Placement" "acknowledged" "I" (.int k)) (hz : z = (0 : Int32) ∨ z = (1 : Int32)) :
    MetFree l (⟨"kasane/service/Storage$Placement", "copies", "()I"⟩ : MethodName) (head1 (Jvm.Cond.code (⟨"kasane/service/Storage$Placement", "copies", "()I"⟩ : MethodName) prog_181_method_2_code 1 (some .int) :: ws) ({ frames := 0, cells := 0, slots := 0, locals := 0 } : Room)) (fun aA UA => aA = #[(.ref a)] ∧ Z.Warmed39 UA.vm ∧ UA.heap = h0) (fun _ _ _ _ _ => True) (fun _ UA oA UB => ∃ rV LE, oA = .returned rV ∧ Qrm4 Z a z k h0 n0 rV UB.heap LE ∧ FrameEnd UA oA UB LE ({ frames := 0, cells := 0, slots := 0, locals := 0 } : Room).cells ({ frames := 0, cells := 0, slots := 0, locals := 0 } : Room).slots) := by
  refine MetFree.of_bodySF (plainFor_of_name pn_1) hisR ?_
  intro p e s m args below meth c s₁ Bd hml0 hP hK
  obtain ⟨rfl, hZ, hh⟩ := hP
  have hx := Bd.exec
  have hby := Bd.bytes
  have hml : c.maxLocals = 1 := hml0
  have hown : s.vm.findClass "kasane/service/Storage$Placement" = some m.cls := findClass_of_methodNamed Bd.named
  have hnm := (name_of_methodNamed Bd.named Bd.method).1
  have hlk := Bd.notSynchronized
  have X0 : Stand p l e ({ frames := 0, cells := 0, slots := 0, locals := 0 } : Room) s m #[(.ref a)] below meth c s₁ [] 0 0 := Stand.of_body Bd
  have e0 : s₁.heap = h0 := by rw [← hh, Bd.state]; rfl
  have N0 := Fr.nil n0
  show Go p e below s (Qrm4 Z a z k h0 n0) ({ frames := 0, cells := 0, slots := 0, locals := 0 } : Room).cells ({ frames := 0, cells := 0, slots := 0, locals := 0 } : Room).slots s₁ (entryFrame m #[(.ref a)] 1)
  refine Go.eq (ef_rm4 m a) ?_
  show Go p e below s _ _ _ s₁ (mkF m 0 #[.val (.ref a)] [])
  refine Go.st (fun _ => XS.aloadN X0.here hx rfl (hb hby d4_0) rfl rfl) ?_
  show Go p e below s _ _ _ s₁ (mkF m 1 #[.val (.ref a)] [(.ref a)])
  obtain ⟨T1, X1, e1, st1⟩ := getF X0 hx hZ hown (host := "") (Or.inl (hw _ (List.mem_of_getElem? (i := 20) rfl))) Via.refl e0 F_acknowledged_a (g := (mkF m 1 #[.val (.ref a)] [(.ref a)])) rfl rfl (hb hby d4_1)
  refine Go.st st1 ?_
  show Go p e below s _ _ _ T1 (mkF m 4 #[.val (.ref a)] [(.int k)])
  refine Go.st (fun _ => XS.aloadN X1.here hx rfl (hb hby d4_4) rfl rfl) ?_
  show Go p e below s _ _ _ T1 (mkF m 5 #[.val (.ref a)] [(.ref a), (.int k)])
  obtain ⟨T2, X2, e2, st2⟩ := getF X1 hx hZ hown (host := "") (Or.inl (hw _ (List.mem_of_getElem? (i := 16) rfl))) Via.refl e1 F_here_a (g := (mkF m 5 #[.val (.ref a)] [(.ref a), (.int k)])) rfl rfl (hb hby d4_5)
  refine Go.st st2 ?_
  show Go p e below s _ _ _ T2 (mkF m 8 #[.val (.ref a)] [(.int z), (.int k)])
  by_cases hc3 : z = (0 : Int32)
  · refine Go.st (fun _ => XS.ifYes X2.here hx rfl (pc0 := 8) (pc' := 15) rfl (hb hby d4_8) rfl ((if0 _ _).trans (teq hc3).1) (by decide) (by decide)) ?_
    show Go p e below s _ _ _ T2 (mkF m 15 #[.val (.ref a)] [(.int k)])
    refine Go.st (fun _ => XS.iconst X2.here hx rfl (hb hby d4_15)) ?_
    show Go p e below s _ _ _ T2 (mkF m 16 #[.val (.ref a)] [(.int (0 : Int32)), (.int k)])
    refine Go.st (fun _ => XS.iadd X2.here hx rfl (hb hby d4_16) rfl) ?_
    show Go p e below s _ _ _ T2 (mkF m 17 #[.val (.ref a)] [(.int (k + (0 : Int32)))])
    exact Go.retI X2 hx hlk Bd.returns (hb hby d4_17) (by rw [e2]; exact ⟨(by rw [hc3]), N0, rfl⟩) (by decide) (by decide)
  · refine Go.st (fun _ => XS.ifNo X2.here hx rfl (hb hby d4_8) rfl ((if0 _ _).trans (feq hc3).1)) ?_
    show Go p e below s _ _ _ T2 (mkF m 11 #[.val (.ref a)] [(.int k)])
    refine Go.st (fun _ => XS.iconst X2.here hx rfl (hb hby d4_11)) ?_
    show Go p e below s _ _ _ T2 (mkF m 12 #[.val (.ref a)] [(.int (1 : Int32)), (.int k)])
    refine Go.st (fun _ => XS.goto X2.here hx rfl (pc0 := 12) (pc' := 16) rfl (hb hby d4_12) (by decide) (by decide)) ?_
    show Go p e below s _ _ _ T2 (mkF m 16 #[.val (.ref a)] [(.int (1 : Int32)), (.int k)])
    refine Go.st (fun _ => XS.iadd X2.here hx rfl (hb hby d4_16) rfl) ?_
    show Go p e below s _ _ _ T2 (mkF m 17 #[.val (.ref a)] [(.int (k + (1 : Int32)))])
    exact Go.retI X2 hx hlk Bd.returns (hb hby d4_17) (by rw [e2]; exact ⟨(by rw [hz.resolve_left hc3]), N0, rfl⟩) (by decide) (by decide)
theorem pd_1 : parseMethodDescriptor "(ZIII)V" = some ⟨[.boolean, .int, .int, .int], none⟩ := by decide +kernel
theorem pd_2 : parseMethodDescriptor "()I" = some ⟨[], some .int⟩ := by decide +kernel
theorem pn_2 : plainName "kasane/service/PlacementCopiesPinLaw" = true := by first | (simp [plainName, overriddenIn]; done) | decide +kernel
theorem ef_rm0 (m : MethodId) (fl : Int32) (sa : Int32) (aa : Int32) (ca : Int32) : entryFrame m #[(.int fl), (.int sa), (.int aa), (.int ca)] maxLocals = mkF m 0 #[.val (.int fl), .val (.int sa), .val (.int aa), .val (.int ca), .unset, .unset, .unset, .unset, .unset, .unset, .unset, .unset, .unset, .unset] [] := by first | (simp [entryFrame, mkF, argsToLocals, Value.category, maxLocals]; done) | rfl
def Qrm0 (Z : State) (fl : Int32) (sa : Int32) (aa : Int32) (ca : Int32) (h0 : Heap) (n0 : Nat) (rV : Option Value) (hE : Heap) (LE : List Loc) : Prop := rV = some (.int (1 : Int32)) ∧ Fr n0 LE
set_option maxRecDepth 65536 in
set_option maxHeartbeats 40000000 in
theorem rm0 (l : Launch) (Z : State) (a0 : Array Value) (hw : ∀ d ∈ tables_1, d.before a0 Z = true) (ws : List Jvm.Cond) (fl : Int32) (sa : Int32) (aa : Int32) (ca : Int32) (h0 : Heap) (n0 : Nat) (Z0 : n0 ≤ h0.size) :
    MetFree l x (head1 (Jvm.Cond.code x code maxLocals ret :: ws) room_1) (fun aA UA => aA = #[(.int fl), (.int sa), (.int aa), (.int ca)] ∧ Z.Warmed39 UA.vm ∧ UA.heap = h0) (fun _ _ _ _ _ => True) (fun _ UA oA UB => ∃ rV LE, oA = .returned rV ∧ Qrm0 Z fl sa aa ca h0 n0 rV UB.heap LE ∧ FrameEnd UA oA UB LE room_1.cells room_1.slots) := by
  refine MetFree.of_bodySF (plainFor_of_name pn_2) hisR ?_
  intro p e s m args below meth c s₁ Bd hml0 hP hK
  obtain ⟨rfl, hZ, hh⟩ := hP
  have hx := Bd.exec
  have hby := Bd.bytes
  have hml : c.maxLocals = 14 := hml0
  have hown : s.vm.findClass "kasane/service/PlacementCopiesPinLaw" = some m.cls := findClass_of_methodNamed Bd.named
  have hnm := (name_of_methodNamed Bd.named Bd.method).1
  have hlk := Bd.notSynchronized
  have X0 : Stand p l e room_1 s m #[(.int fl), (.int sa), (.int aa), (.int ca)] below meth c s₁ [] 0 0 := Stand.of_body Bd
  have e0 : s₁.heap = h0 := by rw [← hh, Bd.state]; rfl
  have N0 := Fr.nil n0
  show Go p e below s (Qrm0 Z fl sa aa ca h0 n0) room_1.cells room_1.slots s₁ (entryFrame m #[(.int fl), (.int sa), (.int aa), (.int ca)] maxLocals)
  refine Go.eq (ef_rm0 m fl sa aa ca) ?_
  show Go p e below s _ _ _ s₁ (mkF m 0 #[.val (.int fl), .val (.int sa), .val (.int aa), .val (.int ca), .unset, .unset, .unset, .unset, .unset, .unset, .unset, .unset, .unset, .unset] [])
  refine Go.st (fun _ => XS.iloadN X0.here hx rfl (hb hby at_0) rfl) ?_
  show Go p e below s _ _ _ s₁ (mkF m 1 #[.val (.int fl), .val (.int sa), .val (.int aa), .val (.int ca), .unset, .unset, .unset, .unset, .unset, .unset, .unset, .unset, .unset, .unset] [(.int fl)])
  refine Go.st (fun _ => XS.iconst X0.here hx rfl (hb hby at_1)) ?_
  show Go p e below s _ _ _ s₁ (mkF m 2 #[.val (.int fl), .val (.int sa), .val (.int aa), .val (.int ca), .unset, .unset, .unset, .unset, .unset, .unset, .unset, .unset, .unset, .unset] [(.int (1 : Int32)), (.int fl)])
  refine Go.st (fun _ => XS.iand X0.here hx rfl (hb hby at_2) rfl) ?_
  show Go p e below s _ _ _ s₁ (mkF m 3 #[.val (.int fl), .val (.int sa), .val (.int aa), .val (.int ca), .unset, .unset, .unset, .unset, .unset, .unset, .unset, .unset, .unset, .unset] [(.int (fl &&& (1 : Int32)))])
  by_cases hc1 : (fl &&& (1 : Int32)) = (0 : Int32)
  · refine Go.st (fun _ => XS.ifYes X0.here hx rfl (pc0 := 3) (pc' := 10) rfl (hb hby at_3) rfl ((if0 _ _).trans (teq hc1).1) (by decide) (by decide)) ?_
    show Go p e below s _ _ _ s₁ (mkF m 10 #[.val (.int fl), .val (.int sa), .val (.int aa), .val (.int ca), .unset, .unset, .unset, .unset, .unset, .unset, .unset, .unset, .unset, .unset] [])
    refine Go.st (fun _ => XS.iconst X0.here hx rfl (hb hby at_10)) ?_
    show Go p e below s _ _ _ s₁ (mkF m 11 #[.val (.int fl), .val (.int sa), .val (.int aa), .val (.int ca), .unset, .unset, .unset, .unset, .unset, .unset, .unset, .unset, .unset, .unset] [(.int (0 : Int32))])
    refine Go.st (fun _ => XS.istore X0.here hx rfl (hb hby at_11) rfl (l' := #[.val (.int fl), .val (.int sa), .val (.int aa), .val (.int ca), .val (.int (0 : Int32)), .unset, .unset, .unset, .unset, .unset, .unset, .unset, .unset, .unset]) rfl) ?_
    show Go p e below s _ _ _ s₁ (mkF m 13 #[.val (.int fl), .val (.int sa), .val (.int aa), .val (.int ca), .val (.int (0 : Int32)), .unset, .unset, .unset, .unset, .unset, .unset, .unset, .unset, .unset] [])
    refine Go.st (fun _ => XS.iloadN X0.here hx rfl (hb hby at_13) rfl) ?_
    show Go p e below s _ _ _ s₁ (mkF m 14 #[.val (.int fl), .val (.int sa), .val (.int aa), .val (.int ca), .val (.int (0 : Int32)), .unset, .unset, .unset, .unset, .unset, .unset, .unset, .unset, .unset] [(.int sa)])
    refine Go.st (fun tG => X0.ldcInt hx hown (mvT hZ (hw _ (List.mem_of_getElem? (i := 0) rfl))) (g := (mkF m 14 #[.val (.int fl), .val (.int sa), .val (.int aa), .val (.int ca), .val (.int (0 : Int32)), .unset, .unset, .unset, .unset, .unset, .unset, .unset, .unset, .unset] [(.int sa)])) rfl (hb hby at_14) tG) ?_
    show Go p e below s _ _ _ s₁ (mkF m 16 #[.val (.int fl), .val (.int sa), .val (.int aa), .val (.int ca), .val (.int (0 : Int32)), .unset, .unset, .unset, .unset, .unset, .unset, .unset, .unset, .unset] [(.int (65535 : Int32)), (.int sa)])
    refine Go.st (fun _ => XS.iand X0.here hx rfl (hb hby at_16) rfl) ?_
    show Go p e below s _ _ _ s₁ (mkF m 17 #[.val (.int fl), .val (.int sa), .val (.int aa), .val (.int ca), .val (.int (0 : Int32)), .unset, .unset, .unset, .unset, .unset, .unset, .unset, .unset, .unset] [(.int (sa &&& (65535 : Int32)))])
    refine Go.st (fun _ => XS.istore X0.here hx rfl (hb hby at_17) rfl (l' := #[.val (.int fl), .val (.int sa), .val (.int aa), .val (.int ca), .val (.int (0 : Int32)), .val (.int (sa &&& (65535 : Int32))), .unset, .unset, .unset, .unset, .unset, .unset, .unset, .unset]) rfl) ?_
    show Go p e below s _ _ _ s₁ (mkF m 19 #[.val (.int fl), .val (.int sa), .val (.int aa), .val (.int ca), .val (.int (0 : Int32)), .val (.int (sa &&& (65535 : Int32))), .unset, .unset, .unset, .unset, .unset, .unset, .unset, .unset] [])
    obtain ⟨vx2, hvx2⟩ : ∃ z, z = (sa &&& (65535 : Int32)) := ⟨_, rfl⟩
    rw [← hvx2]
    show Go p e below s _ _ _ s₁ (mkF m 19 #[.val (.int fl), .val (.int sa), .val (.int aa), .val (.int ca), .val (.int (0 : Int32)), .val (.int vx2), .unset, .unset, .unset, .unset, .unset, .unset, .unset, .unset] [])
    have hs := own_s sa
    rw [← hvx2] at hs
    refine Go.st (fun _ => XS.iloadN X0.here hx rfl (hb hby at_19) rfl) ?_
    show Go p e below s _ _ _ s₁ (mkF m 20 #[.val (.int fl), .val (.int sa), .val (.int aa), .val (.int ca), .val (.int (0 : Int32)), .val (.int vx2), .unset, .unset, .unset, .unset, .unset, .unset, .unset, .unset] [(.int aa)])
    refine Go.st (fun tG => X0.ldcInt hx hown (mvT hZ (hw _ (List.mem_of_getElem? (i := 1) rfl))) (g := (mkF m 20 #[.val (.int fl), .val (.int sa), .val (.int aa), .val (.int ca), .val (.int (0 : Int32)), .val (.int vx2), .unset, .unset, .unset, .unset, .unset, .unset, .unset, .unset] [(.int aa)])) rfl (hb hby at_20) tG) ?_
    show Go p e below s _ _ _ s₁ (mkF m 22 #[.val (.int fl), .val (.int sa), .val (.int aa), .val (.int ca), .val (.int (0 : Int32)), .val (.int vx2), .unset, .unset, .unset, .unset, .unset, .unset, .unset, .unset] [(.int (2147483647 : Int32)), (.int aa)])
    refine Go.st (fun _ => XS.iand X0.here hx rfl (hb hby at_22) rfl) ?_
    show Go p e below s _ _ _ s₁ (mkF m 23 #[.val (.int fl), .val (.int sa), .val (.int aa), .val (.int ca), .val (.int (0 : Int32)), .val (.int vx2), .unset, .unset, .unset, .unset, .unset, .unset, .unset, .unset] [(.int (aa &&& (2147483647 : Int32)))])
    refine Go.st (fun _ => XS.iload X0.here hx rfl (hb hby at_23) rfl) ?_
    show Go p e below s _ _ _ s₁ (mkF m 25 #[.val (.int fl), .val (.int sa), .val (.int aa), .val (.int ca), .val (.int (0 : Int32)), .val (.int vx2), .unset, .unset, .unset, .unset, .unset, .unset, .unset, .unset] [(.int vx2), (.int (aa &&& (2147483647 : Int32)))])
    refine Go.st (fun _ => XS.iconst X0.here hx rfl (hb hby at_25)) ?_
    show Go p e below s _ _ _ s₁ (mkF m 26 #[.val (.int fl), .val (.int sa), .val (.int aa), .val (.int ca), .val (.int (0 : Int32)), .val (.int vx2), .unset, .unset, .unset, .unset, .unset, .unset, .unset, .unset] [(.int (1 : Int32)), (.int vx2), (.int (aa &&& (2147483647 : Int32)))])
    refine Go.st (fun _ => XS.iadd X0.here hx rfl (hb hby at_26) rfl) ?_
    show Go p e below s _ _ _ s₁ (mkF m 27 #[.val (.int fl), .val (.int sa), .val (.int aa), .val (.int ca), .val (.int (0 : Int32)), .val (.int vx2), .unset, .unset, .unset, .unset, .unset, .unset, .unset, .unset] [(.int (vx2 + (1 : Int32))), (.int (aa &&& (2147483647 : Int32)))])
    refine Go.st (fun _ => iremM X0 hx rfl (hb hby at_27) rfl (own_nz hs)) ?_
    show Go p e below s _ _ _ s₁ (mkF m 28 #[.val (.int fl), .val (.int sa), .val (.int aa), .val (.int ca), .val (.int (0 : Int32)), .val (.int vx2), .unset, .unset, .unset, .unset, .unset, .unset, .unset, .unset] [(.int ((aa &&& (2147483647 : Int32)) % (vx2 + (1 : Int32))))])
    refine Go.st (fun _ => XS.istore X0.here hx rfl (hb hby at_28) rfl (l' := #[.val (.int fl), .val (.int sa), .val (.int aa), .val (.int ca), .val (.int (0 : Int32)), .val (.int vx2), .val (.int ((aa &&& (2147483647 : Int32)) % (vx2 + (1 : Int32)))), .unset, .unset, .unset, .unset, .unset, .unset, .unset]) rfl) ?_
    show Go p e below s _ _ _ s₁ (mkF m 30 #[.val (.int fl), .val (.int sa), .val (.int aa), .val (.int ca), .val (.int (0 : Int32)), .val (.int vx2), .val (.int ((aa &&& (2147483647 : Int32)) % (vx2 + (1 : Int32)))), .unset, .unset, .unset, .unset, .unset, .unset, .unset] [])
    obtain ⟨vx3, hvx3⟩ : ∃ z, z = ((aa &&& (2147483647 : Int32)) % (vx2 + (1 : Int32))) := ⟨_, rfl⟩
    rw [← hvx3]
    show Go p e below s _ _ _ s₁ (mkF m 30 #[.val (.int fl), .val (.int sa), .val (.int aa), .val (.int ca), .val (.int (0 : Int32)), .val (.int vx2), .val (.int vx3), .unset, .unset, .unset, .unset, .unset, .unset, .unset] [])
    have hk := own_k aa hs
    rw [← hvx3] at hk
    refine Go.st (fun _ => XS.iloadN X0.here hx rfl (hb hby at_30) rfl) ?_
    show Go p e below s _ _ _ s₁ (mkF m 31 #[.val (.int fl), .val (.int sa), .val (.int aa), .val (.int ca), .val (.int (0 : Int32)), .val (.int vx2), .val (.int vx3), .unset, .unset, .unset, .unset, .unset, .unset, .unset] [(.int ca)])
    refine Go.st (fun tG => X0.ldcInt hx hown (mvT hZ (hw _ (List.mem_of_getElem? (i := 1) rfl))) (g := (mkF m 31 #[.val (.int fl), .val (.int sa), .val (.int aa), .val (.int ca), .val (.int (0 : Int32)), .val (.int vx2), .val (.int vx3), .unset, .unset, .unset, .unset, .unset, .unset, .unset] [(.int ca)])) rfl (hb hby at_31) tG) ?_
    show Go p e below s _ _ _ s₁ (mkF m 33 #[.val (.int fl), .val (.int sa), .val (.int aa), .val (.int ca), .val (.int (0 : Int32)), .val (.int vx2), .val (.int vx3), .unset, .unset, .unset, .unset, .unset, .unset, .unset] [(.int (2147483647 : Int32)), (.int ca)])
    refine Go.st (fun _ => XS.iand X0.here hx rfl (hb hby at_33) rfl) ?_
    show Go p e below s _ _ _ s₁ (mkF m 34 #[.val (.int fl), .val (.int sa), .val (.int aa), .val (.int ca), .val (.int (0 : Int32)), .val (.int vx2), .val (.int vx3), .unset, .unset, .unset, .unset, .unset, .unset, .unset] [(.int (ca &&& (2147483647 : Int32)))])
    refine Go.st (fun _ => XS.iload X0.here hx rfl (hb hby at_34) rfl) ?_
    show Go p e below s _ _ _ s₁ (mkF m 36 #[.val (.int fl), .val (.int sa), .val (.int aa), .val (.int ca), .val (.int (0 : Int32)), .val (.int vx2), .val (.int vx3), .unset, .unset, .unset, .unset, .unset, .unset, .unset] [(.int vx2), (.int (ca &&& (2147483647 : Int32)))])
    refine Go.st (fun _ => XS.iload X0.here hx rfl (hb hby at_36) rfl) ?_
    show Go p e below s _ _ _ s₁ (mkF m 38 #[.val (.int fl), .val (.int sa), .val (.int aa), .val (.int ca), .val (.int (0 : Int32)), .val (.int vx2), .val (.int vx3), .unset, .unset, .unset, .unset, .unset, .unset, .unset] [(.int vx3), (.int vx2), (.int (ca &&& (2147483647 : Int32)))])
    refine Go.st (fun _ => XS.isub X0.here hx rfl (hb hby at_38) rfl) ?_
    show Go p e below s _ _ _ s₁ (mkF m 39 #[.val (.int fl), .val (.int sa), .val (.int aa), .val (.int ca), .val (.int (0 : Int32)), .val (.int vx2), .val (.int vx3), .unset, .unset, .unset, .unset, .unset, .unset, .unset] [(.int (vx2 - vx3)), (.int (ca &&& (2147483647 : Int32)))])
    refine Go.st (fun _ => XS.iconst X0.here hx rfl (hb hby at_39)) ?_
    show Go p e below s _ _ _ s₁ (mkF m 40 #[.val (.int fl), .val (.int sa), .val (.int aa), .val (.int ca), .val (.int (0 : Int32)), .val (.int vx2), .val (.int vx3), .unset, .unset, .unset, .unset, .unset, .unset, .unset] [(.int (1 : Int32)), (.int (vx2 - vx3)), (.int (ca &&& (2147483647 : Int32)))])
    refine Go.st (fun _ => XS.iadd X0.here hx rfl (hb hby at_40) rfl) ?_
    show Go p e below s _ _ _ s₁ (mkF m 41 #[.val (.int fl), .val (.int sa), .val (.int aa), .val (.int ca), .val (.int (0 : Int32)), .val (.int vx2), .val (.int vx3), .unset, .unset, .unset, .unset, .unset, .unset, .unset] [(.int ((vx2 - vx3) + (1 : Int32))), (.int (ca &&& (2147483647 : Int32)))])
    refine Go.st (fun _ => iremM X0 hx rfl (hb hby at_41) rfl (own_nz2 hs hk)) ?_
    show Go p e below s _ _ _ s₁ (mkF m 42 #[.val (.int fl), .val (.int sa), .val (.int aa), .val (.int ca), .val (.int (0 : Int32)), .val (.int vx2), .val (.int vx3), .unset, .unset, .unset, .unset, .unset, .unset, .unset] [(.int ((ca &&& (2147483647 : Int32)) % ((vx2 - vx3) + (1 : Int32))))])
    refine Go.st (fun _ => XS.istore X0.here hx rfl (hb hby at_42) rfl (l' := #[.val (.int fl), .val (.int sa), .val (.int aa), .val (.int ca), .val (.int (0 : Int32)), .val (.int vx2), .val (.int vx3), .val (.int ((ca &&& (2147483647 : Int32)) % ((vx2 - vx3) + (1 : Int32)))), .unset, .unset, .unset, .unset, .unset, .unset]) rfl) ?_
    show Go p e below s _ _ _ s₁ (mkF m 44 #[.val (.int fl), .val (.int sa), .val (.int aa), .val (.int ca), .val (.int (0 : Int32)), .val (.int vx2), .val (.int vx3), .val (.int ((ca &&& (2147483647 : Int32)) % ((vx2 - vx3) + (1 : Int32)))), .unset, .unset, .unset, .unset, .unset, .unset] [])
    obtain ⟨vx4, hvx4⟩ : ∃ z, z = ((ca &&& (2147483647 : Int32)) % ((vx2 - vx3) + (1 : Int32))) := ⟨_, rfl⟩
    rw [← hvx4]
    show Go p e below s _ _ _ s₁ (mkF m 44 #[.val (.int fl), .val (.int sa), .val (.int aa), .val (.int ca), .val (.int (0 : Int32)), .val (.int vx2), .val (.int vx3), .val (.int vx4), .unset, .unset, .unset, .unset, .unset, .unset] [])
    obtain ⟨T5, h5, X5, e5, E5, A5, D5, -, st5⟩ := newO X0 hx hZ hown (hw _ (List.mem_of_getElem? (i := 2) rfl)) (hw _ (List.mem_of_getElem? (i := 3) rfl)) (hw _ (List.mem_of_getElem? (i := 4) rfl)) e0 (g := (mkF m 44 #[.val (.int fl), .val (.int sa), .val (.int aa), .val (.int ca), .val (.int (0 : Int32)), .val (.int vx2), .val (.int vx3), .val (.int vx4), .unset, .unset, .unset, .unset, .unset, .unset] [])) rfl (hb hby at_44) (by decide) (by decide)
    obtain ⟨b5, g5⟩ : ∃ z, z = h0.size := ⟨_, rfl⟩
    rw [← g5] at A5 D5 st5
    refine Go.st st5 ?_
    have gg5 : n0 ≤ b5 := Nat.le_trans Z0 (Nat.le_of_eq g5.symm)
    have z5 : n0 ≤ h5.size := Nat.le_trans Z0 E5.1
    have F_here_b5 : Fld Z h5 b5 "kasane/service/Storage$Placement" "here" "Z" (.int (0 : Int32)) := D5 (Or.inr (hw _ (List.mem_of_getElem? (i := 17) rfl))) (ty := .boolean) (by decide)
    have F_sent_b5 : Fld Z h5 b5 "kasane/service/Storage$Placement" "sent" "I" (.int (0 : Int32)) := D5 (Or.inr (hw _ (List.mem_of_getElem? (i := 19) rfl))) (ty := .int) (by decide)
    have F_acknowledged_b5 : Fld Z h5 b5 "kasane/service/Storage$Placement" "acknowledged" "I" (.int (0 : Int32)) := D5 (Or.inr (hw _ (List.mem_of_getElem? (i := 21) rfl))) (ty := .int) (by decide)
    have F_superseded_b5 : Fld Z h5 b5 "kasane/service/Storage$Placement" "superseded" "I" (.int (0 : Int32)) := D5 (Or.inr (hw _ (List.mem_of_getElem? (i := 23) rfl))) (ty := .int) (by decide)
    show Go p e below s _ _ _ T5 (mkF m 47 #[.val (.int fl), .val (.int sa), .val (.int aa), .val (.int ca), .val (.int (0 : Int32)), .val (.int vx2), .val (.int vx3), .val (.int vx4), .unset, .unset, .unset, .unset, .unset, .unset] [(.ref b5)])
    refine Go.st (fun _ => XS.dup X5.here hx rfl (hb hby at_47) rfl rfl) ?_
    show Go p e below s _ _ _ T5 (mkF m 48 #[.val (.int fl), .val (.int sa), .val (.int aa), .val (.int ca), .val (.int (0 : Int32)), .val (.int vx2), .val (.int vx3), .val (.int vx4), .unset, .unset, .unset, .unset, .unset, .unset] [(.ref b5), (.ref b5)])
    refine Go.st (fun _ => XS.iload X5.here hx rfl (hb hby at_48) rfl) ?_
    show Go p e below s _ _ _ T5 (mkF m 50 #[.val (.int fl), .val (.int sa), .val (.int aa), .val (.int ca), .val (.int (0 : Int32)), .val (.int vx2), .val (.int vx3), .val (.int vx4), .unset, .unset, .unset, .unset, .unset, .unset] [(.int (0 : Int32)), (.ref b5), (.ref b5)])
    refine Go.st (fun _ => XS.iload X5.here hx rfl (hb hby at_50) rfl) ?_
    show Go p e below s _ _ _ T5 (mkF m 52 #[.val (.int fl), .val (.int sa), .val (.int aa), .val (.int ca), .val (.int (0 : Int32)), .val (.int vx2), .val (.int vx3), .val (.int vx4), .unset, .unset, .unset, .unset, .unset, .unset] [(.int vx2), (.int (0 : Int32)), (.ref b5), (.ref b5)])
    refine Go.st (fun _ => XS.iload X5.here hx rfl (hb hby at_52) rfl) ?_
    show Go p e below s _ _ _ T5 (mkF m 54 #[.val (.int fl), .val (.int sa), .val (.int aa), .val (.int ca), .val (.int (0 : Int32)), .val (.int vx2), .val (.int vx3), .val (.int vx4), .unset, .unset, .unset, .unset, .unset, .unset] [(.int vx3), (.int vx2), (.int (0 : Int32)), (.ref b5), (.ref b5)])
    refine Go.st (fun _ => XS.iload X5.here hx rfl (hb hby at_54) rfl) ?_
    show Go p e below s _ _ _ T5 (mkF m 56 #[.val (.int fl), .val (.int sa), .val (.int aa), .val (.int ca), .val (.int (0 : Int32)), .val (.int vx2), .val (.int vx3), .val (.int vx4), .unset, .unset, .unset, .unset, .unset, .unset] [(.int vx4), (.int vx3), (.int vx2), (.int (0 : Int32)), (.ref b5), (.ref b5)])
    obtain ⟨_, _, ⟨T6, L6, kc6, nc6⟩, -, X6, ⟨Lc6, hQ6, l6, y6, z6⟩, st6⟩ := X5.specialBack hx (y := (⟨"kasane/service/Storage$Placement", "<init>", "(ZIII)V"⟩ : MethodName)) rfl hown (mvT hZ (hw _ (List.mem_of_getElem? (i := 5) rfl))) (mvT hZ (hw _ (List.mem_of_getElem? (i := 6) rfl))) (mvT hZ (hw _ (List.mem_of_getElem? (i := 7) rfl))) (by decide) (backOf (W := 1) (rm1 l Z a0 hw [] b5 (0 : Int32) vx2 vx3 vx4 h5 n0 z5 A5 F_here_b5 F_sent_b5 F_acknowledged_b5 F_superseded_b5 gg5) hZ (hw _ (List.mem_of_getElem? (i := 7) rfl)) (hw _ (List.mem_of_getElem? (i := 4) rfl)) (by decide) (by decide)) (g := (mkF m 56 #[.val (.int fl), .val (.int sa), .val (.int aa), .val (.int ca), .val (.int (0 : Int32)), .val (.int vx2), .val (.int vx3), .val (.int vx4), .unset, .unset, .unset, .unset, .unset, .unset] [(.int vx4), (.int vx3), (.int vx2), (.int (0 : Int32)), (.ref b5), (.ref b5)])) rfl (by rw [hml]; rfl) (Steps.refl _) (a := b5) (argsL := [(.int (0 : Int32)), (.int vx2), (.int vx3), (.int vx4)]) (rest := [(.ref b5)]) (lenOf pd_1 rfl) rfl (by show 2 * 0 + _ ≤ _; exact Nat.le_of_eq rfl) (hb hby at_56) (fun _ _ => ⟨rfl, e5, (by decide : 1 + 0 ≤ _), (by decide : 4 + 0 ≤ _)⟩)
    dsimp only [Pt.U, Pt.locs, Pt.cells, Pt.slots] at X6 l6 y6 z6 st6 hQ6
    subst l6 y6 z6
    obtain ⟨h6, e6⟩ : ∃ hh, T6.heap = hh := ⟨_, rfl⟩
    rw [e6] at hQ6
    obtain ⟨rfl, N6q, K6, p6_0, p6_1, p6_2⟩ := hQ6
    have N6 := Fr.app N0 N6q
    refine Go.st (fun _ kk => st6.trans kk) ?_
    have z6q : n0 ≤ h6.size := Nat.le_trans z5 K6.1
    rw [show (nar .boolean (0 : Int32)) = (0 : Int32) from by decide] at p6_1
    show Go p e below s _ _ _ T6 (mkF m 59 #[.val (.int fl), .val (.int sa), .val (.int aa), .val (.int ca), .val (.int (0 : Int32)), .val (.int vx2), .val (.int vx3), .val (.int vx4), .unset, .unset, .unset, .unset, .unset, .unset] [(.ref b5)])
    refine Go.st (fun _ => XS.astore X6.here hx rfl (hb hby at_59) rfl rfl (l' := #[.val (.int fl), .val (.int sa), .val (.int aa), .val (.int ca), .val (.int (0 : Int32)), .val (.int vx2), .val (.int vx3), .val (.int vx4), .val (.ref b5), .unset, .unset, .unset, .unset, .unset]) rfl) ?_
    show Go p e below s _ _ _ T6 (mkF m 61 #[.val (.int fl), .val (.int sa), .val (.int aa), .val (.int ca), .val (.int (0 : Int32)), .val (.int vx2), .val (.int vx3), .val (.int vx4), .val (.ref b5), .unset, .unset, .unset, .unset, .unset] [])
    refine Go.st (fun _ => XS.aload X6.here hx rfl (hb hby at_61) rfl rfl) ?_
    show Go p e below s _ _ _ T6 (mkF m 63 #[.val (.int fl), .val (.int sa), .val (.int aa), .val (.int ca), .val (.int (0 : Int32)), .val (.int vx2), .val (.int vx3), .val (.int vx4), .val (.ref b5), .unset, .unset, .unset, .unset, .unset] [(.ref b5)])
    obtain ⟨cq7, kq7, q7a, q7b, q7c⟩ := isOf hZ e6 p6_0
    obtain ⟨_, _, ⟨T7, L7, kc7, nc7⟩, -, X7, ⟨Lc7, hQ7, l7, y7, z7⟩, st7⟩ := X6.virtualBack hx (y := (⟨"kasane/service/Storage$Placement", "copies", "()I"⟩ : MethodName)) (z := (⟨"kasane/service/Storage$Placement", "copies", "()I"⟩ : MethodName)) hown (mvT hZ (hw _ (List.mem_of_getElem? (i := 24) rfl))) (mvT hZ (hw _ (List.mem_of_getElem? (i := 25) rfl))) (notFace_of_selects (args := #[]) (mvT hZ (hw _ (List.mem_of_getElem? (i := 27) rfl)))) (mvT hZ (hw _ (List.mem_of_getElem? (i := 27) rfl))) (mvT hZ (hw _ (List.mem_of_getElem? (i := 26) rfl))) (by decide) (backOf (W := 0) (rm4 l Z a0 hw [] b5 (0 : Int32) vx3 h6 n0 z6q p6_1 p6_2 (by decide)) hZ (hw _ (List.mem_of_getElem? (i := 28) rfl)) (hw _ (List.mem_of_getElem? (i := 4) rfl)) (by decide) (by decide)) q7a q7c (g := (mkF m 63 #[.val (.int fl), .val (.int sa), .val (.int aa), .val (.int ca), .val (.int (0 : Int32)), .val (.int vx2), .val (.int vx3), .val (.int vx4), .val (.ref b5), .unset, .unset, .unset, .unset, .unset] [(.ref b5)])) rfl (by rw [hml]; rfl) (Steps.refl _) (argsL := []) (rest := []) (lenOf pd_2 rfl) rfl (by show 2 * 0 + _ ≤ _; exact Nat.le_of_eq rfl) (hb hby at_63) (fun _ _ => ⟨rfl, e6, (by decide : 1 + 0 ≤ _), (by decide : 4 + 0 ≤ _)⟩)
    dsimp only [Pt.U, Pt.locs, Pt.cells, Pt.slots] at X7 l7 y7 z7 st7 hQ7
    subst l7 y7 z7
    obtain ⟨h7, e7⟩ : ∃ hh, T7.heap = hh := ⟨_, rfl⟩
    rw [e7] at hQ7
    obtain ⟨rfl, N7q, sm7⟩ := hQ7
    have N7 := Fr.app N6 N7q
    refine Go.st (fun _ kk => st7.trans kk) ?_
    rw [sm7] at e7
    show Go p e below s _ _ _ T7 (mkF m 66 #[.val (.int fl), .val (.int sa), .val (.int aa), .val (.int ca), .val (.int (0 : Int32)), .val (.int vx2), .val (.int vx3), .val (.int vx4), .val (.ref b5), .unset, .unset, .unset, .unset, .unset] [(.int (vx3 + (0 : Int32)))])
    rw [show (vx3 + (0 : Int32)) = vx3 from Int32.add_zero _]
    show Go p e below s _ _ _ T7 (mkF m 66 #[.val (.int fl), .val (.int sa), .val (.int aa), .val (.int ca), .val (.int (0 : Int32)), .val (.int vx2), .val (.int vx3), .val (.int vx4), .val (.ref b5), .unset, .unset, .unset, .unset, .unset] [(.int vx3)])
    have hk8 : ¬ (vx3 < (0 : Int32)) := own_b0 hs hk
    have hk9 : ¬ ((vx2 + (1 : Int32)) < vx3) := own_b1 hs hk
    refine Go.st (fun _ => XS.istore X7.here hx rfl (hb hby at_66) rfl (l' := #[.val (.int fl), .val (.int sa), .val (.int aa), .val (.int ca), .val (.int (0 : Int32)), .val (.int vx2), .val (.int vx3), .val (.int vx4), .val (.ref b5), .val (.int vx3), .unset, .unset, .unset, .unset]) rfl) ?_
    show Go p e below s _ _ _ T7 (mkF m 68 #[.val (.int fl), .val (.int sa), .val (.int aa), .val (.int ca), .val (.int (0 : Int32)), .val (.int vx2), .val (.int vx3), .val (.int vx4), .val (.ref b5), .val (.int vx3), .unset, .unset, .unset, .unset] [])
    refine Go.st (fun _ => XS.iload X7.here hx rfl (hb hby at_68) rfl) ?_
    show Go p e below s _ _ _ T7 (mkF m 70 #[.val (.int fl), .val (.int sa), .val (.int aa), .val (.int ca), .val (.int (0 : Int32)), .val (.int vx2), .val (.int vx3), .val (.int vx4), .val (.ref b5), .val (.int vx3), .unset, .unset, .unset, .unset] [(.int (0 : Int32))])
    refine Go.st (fun _ => XS.ifYes X7.here hx rfl (pc0 := 70) (pc' := 82) rfl (hb hby at_70) rfl ((if0 _ _).trans (teq (by decide : (0 : Int32) = (0 : Int32))).1) (by decide) (by decide)) ?_
    show Go p e below s _ _ _ T7 (mkF m 82 #[.val (.int fl), .val (.int sa), .val (.int aa), .val (.int ca), .val (.int (0 : Int32)), .val (.int vx2), .val (.int vx3), .val (.int vx4), .val (.ref b5), .val (.int vx3), .unset, .unset, .unset, .unset] [])
    refine Go.st (fun _ => XS.iload X7.here hx rfl (hb hby at_82) rfl) ?_
    show Go p e below s _ _ _ T7 (mkF m 84 #[.val (.int fl), .val (.int sa), .val (.int aa), .val (.int ca), .val (.int (0 : Int32)), .val (.int vx2), .val (.int vx3), .val (.int vx4), .val (.ref b5), .val (.int vx3), .unset, .unset, .unset, .unset] [(.int vx3)])
    refine Go.st (fun _ => XS.istore X7.here hx rfl (hb hby at_84) rfl (l' := #[.val (.int fl), .val (.int sa), .val (.int aa), .val (.int ca), .val (.int (0 : Int32)), .val (.int vx2), .val (.int vx3), .val (.int vx4), .val (.ref b5), .val (.int vx3), .val (.int vx3), .unset, .unset, .unset]) rfl) ?_
    show Go p e below s _ _ _ T7 (mkF m 86 #[.val (.int fl), .val (.int sa), .val (.int aa), .val (.int ca), .val (.int (0 : Int32)), .val (.int vx2), .val (.int vx3), .val (.int vx4), .val (.ref b5), .val (.int vx3), .val (.int vx3), .unset, .unset, .unset] [])
    refine Go.st (fun _ => XS.iload X7.here hx rfl (hb hby at_86) rfl) ?_
    show Go p e below s _ _ _ T7 (mkF m 88 #[.val (.int fl), .val (.int sa), .val (.int aa), .val (.int ca), .val (.int (0 : Int32)), .val (.int vx2), .val (.int vx3), .val (.int vx4), .val (.ref b5), .val (.int vx3), .val (.int vx3), .unset, .unset, .unset] [(.int vx3)])
    refine Go.st (fun _ => XS.iload X7.here hx rfl (hb hby at_88) rfl) ?_
    show Go p e below s _ _ _ T7 (mkF m 90 #[.val (.int fl), .val (.int sa), .val (.int aa), .val (.int ca), .val (.int (0 : Int32)), .val (.int vx2), .val (.int vx3), .val (.int vx4), .val (.ref b5), .val (.int vx3), .val (.int vx3), .unset, .unset, .unset] [(.int vx3), (.int vx3)])
    refine Go.st (fun _ => XS.icmpNo X7.here hx rfl (hb hby at_90) rfl (teq (rfl : vx3 = vx3)).2) ?_
    show Go p e below s _ _ _ T7 (mkF m 93 #[.val (.int fl), .val (.int sa), .val (.int aa), .val (.int ca), .val (.int (0 : Int32)), .val (.int vx2), .val (.int vx3), .val (.int vx4), .val (.ref b5), .val (.int vx3), .val (.int vx3), .unset, .unset, .unset] [])
    refine Go.st (fun _ => XS.iconst X7.here hx rfl (hb hby at_93)) ?_
    show Go p e below s _ _ _ T7 (mkF m 94 #[.val (.int fl), .val (.int sa), .val (.int aa), .val (.int ca), .val (.int (0 : Int32)), .val (.int vx2), .val (.int vx3), .val (.int vx4), .val (.ref b5), .val (.int vx3), .val (.int vx3), .unset, .unset, .unset] [(.int (1 : Int32))])
    refine Go.st (fun _ => XS.goto X7.here hx rfl (pc0 := 94) (pc' := 98) rfl (hb hby at_94) (by decide) (by decide)) ?_
    show Go p e below s _ _ _ T7 (mkF m 98 #[.val (.int fl), .val (.int sa), .val (.int aa), .val (.int ca), .val (.int (0 : Int32)), .val (.int vx2), .val (.int vx3), .val (.int vx4), .val (.ref b5), .val (.int vx3), .val (.int vx3), .unset, .unset, .unset] [(.int (1 : Int32))])
    refine Go.st (fun _ => XS.istore X7.here hx rfl (hb hby at_98) rfl (l' := #[.val (.int fl), .val (.int sa), .val (.int aa), .val (.int ca), .val (.int (0 : Int32)), .val (.int vx2), .val (.int vx3), .val (.int vx4), .val (.ref b5), .val (.int vx3), .val (.int vx3), .val (.int (1 : Int32)), .unset, .unset]) rfl) ?_
    show Go p e below s _ _ _ T7 (mkF m 100 #[.val (.int fl), .val (.int sa), .val (.int aa), .val (.int ca), .val (.int (0 : Int32)), .val (.int vx2), .val (.int vx3), .val (.int vx4), .val (.ref b5), .val (.int vx3), .val (.int vx3), .val (.int (1 : Int32)), .unset, .unset] [])
    refine Go.st (fun _ => XS.iload X7.here hx rfl (hb hby at_100) rfl) ?_
    show Go p e below s _ _ _ T7 (mkF m 102 #[.val (.int fl), .val (.int sa), .val (.int aa), .val (.int ca), .val (.int (0 : Int32)), .val (.int vx2), .val (.int vx3), .val (.int vx4), .val (.ref b5), .val (.int vx3), .val (.int vx3), .val (.int (1 : Int32)), .unset, .unset] [(.int vx3)])
    refine Go.st (fun _ => XS.ifNo X7.here hx rfl (hb hby at_102) rfl ((if0 _ _).trans (flt hk8).1)) ?_
    show Go p e below s _ _ _ T7 (mkF m 105 #[.val (.int fl), .val (.int sa), .val (.int aa), .val (.int ca), .val (.int (0 : Int32)), .val (.int vx2), .val (.int vx3), .val (.int vx4), .val (.ref b5), .val (.int vx3), .val (.int vx3), .val (.int (1 : Int32)), .unset, .unset] [])
    refine Go.st (fun _ => XS.iload X7.here hx rfl (hb hby at_105) rfl) ?_
    show Go p e below s _ _ _ T7 (mkF m 107 #[.val (.int fl), .val (.int sa), .val (.int aa), .val (.int ca), .val (.int (0 : Int32)), .val (.int vx2), .val (.int vx3), .val (.int vx4), .val (.ref b5), .val (.int vx3), .val (.int vx3), .val (.int (1 : Int32)), .unset, .unset] [(.int vx3)])
    refine Go.st (fun _ => XS.iload X7.here hx rfl (hb hby at_107) rfl) ?_
    show Go p e below s _ _ _ T7 (mkF m 109 #[.val (.int fl), .val (.int sa), .val (.int aa), .val (.int ca), .val (.int (0 : Int32)), .val (.int vx2), .val (.int vx3), .val (.int vx4), .val (.ref b5), .val (.int vx3), .val (.int vx3), .val (.int (1 : Int32)), .unset, .unset] [(.int vx2), (.int vx3)])
    refine Go.st (fun _ => XS.iconst X7.here hx rfl (hb hby at_109)) ?_
    show Go p e below s _ _ _ T7 (mkF m 110 #[.val (.int fl), .val (.int sa), .val (.int aa), .val (.int ca), .val (.int (0 : Int32)), .val (.int vx2), .val (.int vx3), .val (.int vx4), .val (.ref b5), .val (.int vx3), .val (.int vx3), .val (.int (1 : Int32)), .unset, .unset] [(.int (1 : Int32)), (.int vx2), (.int vx3)])
    refine Go.st (fun _ => XS.iadd X7.here hx rfl (hb hby at_110) rfl) ?_
    show Go p e below s _ _ _ T7 (mkF m 111 #[.val (.int fl), .val (.int sa), .val (.int aa), .val (.int ca), .val (.int (0 : Int32)), .val (.int vx2), .val (.int vx3), .val (.int vx4), .val (.ref b5), .val (.int vx3), .val (.int vx3), .val (.int (1 : Int32)), .unset, .unset] [(.int (vx2 + (1 : Int32))), (.int vx3)])
    refine Go.st (fun _ => XS.icmpNo X7.here hx rfl (hb hby at_111) rfl (flt hk9).2.2.1) ?_
    show Go p e below s _ _ _ T7 (mkF m 114 #[.val (.int fl), .val (.int sa), .val (.int aa), .val (.int ca), .val (.int (0 : Int32)), .val (.int vx2), .val (.int vx3), .val (.int vx4), .val (.ref b5), .val (.int vx3), .val (.int vx3), .val (.int (1 : Int32)), .unset, .unset] [])
    refine Go.st (fun _ => XS.iconst X7.here hx rfl (hb hby at_114)) ?_
    show Go p e below s _ _ _ T7 (mkF m 115 #[.val (.int fl), .val (.int sa), .val (.int aa), .val (.int ca), .val (.int (0 : Int32)), .val (.int vx2), .val (.int vx3), .val (.int vx4), .val (.ref b5), .val (.int vx3), .val (.int vx3), .val (.int (1 : Int32)), .unset, .unset] [(.int (1 : Int32))])
    refine Go.st (fun _ => XS.goto X7.here hx rfl (pc0 := 115) (pc' := 119) rfl (hb hby at_115) (by decide) (by decide)) ?_
    show Go p e below s _ _ _ T7 (mkF m 119 #[.val (.int fl), .val (.int sa), .val (.int aa), .val (.int ca), .val (.int (0 : Int32)), .val (.int vx2), .val (.int vx3), .val (.int vx4), .val (.ref b5), .val (.int vx3), .val (.int vx3), .val (.int (1 : Int32)), .unset, .unset] [(.int (1 : Int32))])
    refine Go.st (fun _ => XS.istore X7.here hx rfl (hb hby at_119) rfl (l' := #[.val (.int fl), .val (.int sa), .val (.int aa), .val (.int ca), .val (.int (0 : Int32)), .val (.int vx2), .val (.int vx3), .val (.int vx4), .val (.ref b5), .val (.int vx3), .val (.int vx3), .val (.int (1 : Int32)), .val (.int (1 : Int32)), .unset]) rfl) ?_
    show Go p e below s _ _ _ T7 (mkF m 121 #[.val (.int fl), .val (.int sa), .val (.int aa), .val (.int ca), .val (.int (0 : Int32)), .val (.int vx2), .val (.int vx3), .val (.int vx4), .val (.ref b5), .val (.int vx3), .val (.int vx3), .val (.int (1 : Int32)), .val (.int (1 : Int32)), .unset] [])
    refine Go.st (fun _ => XS.iload X7.here hx rfl (hb hby at_121) rfl) ?_
    show Go p e below s _ _ _ T7 (mkF m 123 #[.val (.int fl), .val (.int sa), .val (.int aa), .val (.int ca), .val (.int (0 : Int32)), .val (.int vx2), .val (.int vx3), .val (.int vx4), .val (.ref b5), .val (.int vx3), .val (.int vx3), .val (.int (1 : Int32)), .val (.int (1 : Int32)), .unset] [(.int (0 : Int32))])
    refine Go.st (fun _ => XS.ifYes X7.here hx rfl (pc0 := 123) (pc' := 143) rfl (hb hby at_123) rfl ((if0 _ _).trans (teq (by decide : (0 : Int32) = (0 : Int32))).1) (by decide) (by decide)) ?_
    show Go p e below s _ _ _ T7 (mkF m 143 #[.val (.int fl), .val (.int sa), .val (.int aa), .val (.int ca), .val (.int (0 : Int32)), .val (.int vx2), .val (.int vx3), .val (.int vx4), .val (.ref b5), .val (.int vx3), .val (.int vx3), .val (.int (1 : Int32)), .val (.int (1 : Int32)), .unset] [])
    refine Go.st (fun _ => XS.iload X7.here hx rfl (hb hby at_143) rfl) ?_
    show Go p e below s _ _ _ T7 (mkF m 145 #[.val (.int fl), .val (.int sa), .val (.int aa), .val (.int ca), .val (.int (0 : Int32)), .val (.int vx2), .val (.int vx3), .val (.int vx4), .val (.ref b5), .val (.int vx3), .val (.int vx3), .val (.int (1 : Int32)), .val (.int (1 : Int32)), .unset] [(.int vx3)])
    refine Go.st (fun _ => XS.iload X7.here hx rfl (hb hby at_145) rfl) ?_
    show Go p e below s _ _ _ T7 (mkF m 147 #[.val (.int fl), .val (.int sa), .val (.int aa), .val (.int ca), .val (.int (0 : Int32)), .val (.int vx2), .val (.int vx3), .val (.int vx4), .val (.ref b5), .val (.int vx3), .val (.int vx3), .val (.int (1 : Int32)), .val (.int (1 : Int32)), .unset] [(.int vx3), (.int vx3)])
    refine Go.st (fun _ => XS.icmpNo X7.here hx rfl (hb hby at_147) rfl (teq (rfl : vx3 = vx3)).2) ?_
    show Go p e below s _ _ _ T7 (mkF m 150 #[.val (.int fl), .val (.int sa), .val (.int aa), .val (.int ca), .val (.int (0 : Int32)), .val (.int vx2), .val (.int vx3), .val (.int vx4), .val (.ref b5), .val (.int vx3), .val (.int vx3), .val (.int (1 : Int32)), .val (.int (1 : Int32)), .unset] [])
    refine Go.st (fun _ => XS.iconst X7.here hx rfl (hb hby at_150)) ?_
    show Go p e below s _ _ _ T7 (mkF m 151 #[.val (.int fl), .val (.int sa), .val (.int aa), .val (.int ca), .val (.int (0 : Int32)), .val (.int vx2), .val (.int vx3), .val (.int vx4), .val (.ref b5), .val (.int vx3), .val (.int vx3), .val (.int (1 : Int32)), .val (.int (1 : Int32)), .unset] [(.int (1 : Int32))])
    refine Go.st (fun _ => XS.goto X7.here hx rfl (pc0 := 151) (pc' := 155) rfl (hb hby at_151) (by decide) (by decide)) ?_
    show Go p e below s _ _ _ T7 (mkF m 155 #[.val (.int fl), .val (.int sa), .val (.int aa), .val (.int ca), .val (.int (0 : Int32)), .val (.int vx2), .val (.int vx3), .val (.int vx4), .val (.ref b5), .val (.int vx3), .val (.int vx3), .val (.int (1 : Int32)), .val (.int (1 : Int32)), .unset] [(.int (1 : Int32))])
    refine Go.st (fun _ => XS.istore X7.here hx rfl (hb hby at_155) rfl (l' := #[.val (.int fl), .val (.int sa), .val (.int aa), .val (.int ca), .val (.int (0 : Int32)), .val (.int vx2), .val (.int vx3), .val (.int vx4), .val (.ref b5), .val (.int vx3), .val (.int vx3), .val (.int (1 : Int32)), .val (.int (1 : Int32)), .val (.int (1 : Int32))]) rfl) ?_
    show Go p e below s _ _ _ T7 (mkF m 157 #[.val (.int fl), .val (.int sa), .val (.int aa), .val (.int ca), .val (.int (0 : Int32)), .val (.int vx2), .val (.int vx3), .val (.int vx4), .val (.ref b5), .val (.int vx3), .val (.int vx3), .val (.int (1 : Int32)), .val (.int (1 : Int32)), .val (.int (1 : Int32))] [])
    refine Go.st (fun _ => XS.iload X7.here hx rfl (hb hby at_157) rfl) ?_
    show Go p e below s _ _ _ T7 (mkF m 159 #[.val (.int fl), .val (.int sa), .val (.int aa), .val (.int ca), .val (.int (0 : Int32)), .val (.int vx2), .val (.int vx3), .val (.int vx4), .val (.ref b5), .val (.int vx3), .val (.int vx3), .val (.int (1 : Int32)), .val (.int (1 : Int32)), .val (.int (1 : Int32))] [(.int (1 : Int32))])
    refine Go.st (fun _ => XS.ifNo X7.here hx rfl (hb hby at_159) rfl ((if0 _ _).trans (feq (by decide : ¬ ((1 : Int32) = (0 : Int32)))).1)) ?_
    show Go p e below s _ _ _ T7 (mkF m 162 #[.val (.int fl), .val (.int sa), .val (.int aa), .val (.int ca), .val (.int (0 : Int32)), .val (.int vx2), .val (.int vx3), .val (.int vx4), .val (.ref b5), .val (.int vx3), .val (.int vx3), .val (.int (1 : Int32)), .val (.int (1 : Int32)), .val (.int (1 : Int32))] [])
    refine Go.st (fun _ => XS.iload X7.here hx rfl (hb hby at_162) rfl) ?_
    show Go p e below s _ _ _ T7 (mkF m 164 #[.val (.int fl), .val (.int sa), .val (.int aa), .val (.int ca), .val (.int (0 : Int32)), .val (.int vx2), .val (.int vx3), .val (.int vx4), .val (.ref b5), .val (.int vx3), .val (.int vx3), .val (.int (1 : Int32)), .val (.int (1 : Int32)), .val (.int (1 : Int32))] [(.int (1 : Int32))])
    refine Go.st (fun _ => XS.ifNo X7.here hx rfl (hb hby at_164) rfl ((if0 _ _).trans (feq (by decide : ¬ ((1 : Int32) = (0 : Int32)))).1)) ?_
    show Go p e below s _ _ _ T7 (mkF m 167 #[.val (.int fl), .val (.int sa), .val (.int aa), .val (.int ca), .val (.int (0 : Int32)), .val (.int vx2), .val (.int vx3), .val (.int vx4), .val (.ref b5), .val (.int vx3), .val (.int vx3), .val (.int (1 : Int32)), .val (.int (1 : Int32)), .val (.int (1 : Int32))] [])
    refine Go.st (fun _ => XS.iload X7.here hx rfl (hb hby at_167) rfl) ?_
    show Go p e below s _ _ _ T7 (mkF m 169 #[.val (.int fl), .val (.int sa), .val (.int aa), .val (.int ca), .val (.int (0 : Int32)), .val (.int vx2), .val (.int vx3), .val (.int vx4), .val (.ref b5), .val (.int vx3), .val (.int vx3), .val (.int (1 : Int32)), .val (.int (1 : Int32)), .val (.int (1 : Int32))] [(.int (1 : Int32))])
    refine Go.st (fun _ => XS.ifNo X7.here hx rfl (hb hby at_169) rfl ((if0 _ _).trans (feq (by decide : ¬ ((1 : Int32) = (0 : Int32)))).1)) ?_
    show Go p e below s _ _ _ T7 (mkF m 172 #[.val (.int fl), .val (.int sa), .val (.int aa), .val (.int ca), .val (.int (0 : Int32)), .val (.int vx2), .val (.int vx3), .val (.int vx4), .val (.ref b5), .val (.int vx3), .val (.int vx3), .val (.int (1 : Int32)), .val (.int (1 : Int32)), .val (.int (1 : Int32))] [])
    refine Go.st (fun _ => XS.iconst X7.here hx rfl (hb hby at_172)) ?_
    show Go p e below s _ _ _ T7 (mkF m 173 #[.val (.int fl), .val (.int sa), .val (.int aa), .val (.int ca), .val (.int (0 : Int32)), .val (.int vx2), .val (.int vx3), .val (.int vx4), .val (.ref b5), .val (.int vx3), .val (.int vx3), .val (.int (1 : Int32)), .val (.int (1 : Int32)), .val (.int (1 : Int32))] [(.int (1 : Int32))])
    refine Go.st (fun _ => XS.goto X7.here hx rfl (pc0 := 173) (pc' := 177) rfl (hb hby at_173) (by decide) (by decide)) ?_
    show Go p e below s _ _ _ T7 (mkF m 177 #[.val (.int fl), .val (.int sa), .val (.int aa), .val (.int ca), .val (.int (0 : Int32)), .val (.int vx2), .val (.int vx3), .val (.int vx4), .val (.ref b5), .val (.int vx3), .val (.int vx3), .val (.int (1 : Int32)), .val (.int (1 : Int32)), .val (.int (1 : Int32))] [(.int (1 : Int32))])
    exact Go.retZ X7 hx hlk Bd.returns (hb hby at_177) rfl (by rw [e7]; exact ⟨rfl, N7⟩) (by decide) (by decide)
  · refine Go.st (fun _ => XS.ifNo X0.here hx rfl (hb hby at_3) rfl ((if0 _ _).trans (feq hc1).1)) ?_
    show Go p e below s _ _ _ s₁ (mkF m 6 #[.val (.int fl), .val (.int sa), .val (.int aa), .val (.int ca), .unset, .unset, .unset, .unset, .unset, .unset, .unset, .unset, .unset, .unset] [])
    refine Go.st (fun _ => XS.iconst X0.here hx rfl (hb hby at_6)) ?_
    show Go p e below s _ _ _ s₁ (mkF m 7 #[.val (.int fl), .val (.int sa), .val (.int aa), .val (.int ca), .unset, .unset, .unset, .unset, .unset, .unset, .unset, .unset, .unset, .unset] [(.int (1 : Int32))])
    refine Go.st (fun _ => XS.goto X0.here hx rfl (pc0 := 7) (pc' := 11) rfl (hb hby at_7) (by decide) (by decide)) ?_
    show Go p e below s _ _ _ s₁ (mkF m 11 #[.val (.int fl), .val (.int sa), .val (.int aa), .val (.int ca), .unset, .unset, .unset, .unset, .unset, .unset, .unset, .unset, .unset, .unset] [(.int (1 : Int32))])
    refine Go.st (fun _ => XS.istore X0.here hx rfl (hb hby at_11) rfl (l' := #[.val (.int fl), .val (.int sa), .val (.int aa), .val (.int ca), .val (.int (1 : Int32)), .unset, .unset, .unset, .unset, .unset, .unset, .unset, .unset, .unset]) rfl) ?_
    show Go p e below s _ _ _ s₁ (mkF m 13 #[.val (.int fl), .val (.int sa), .val (.int aa), .val (.int ca), .val (.int (1 : Int32)), .unset, .unset, .unset, .unset, .unset, .unset, .unset, .unset, .unset] [])
    refine Go.st (fun _ => XS.iloadN X0.here hx rfl (hb hby at_13) rfl) ?_
    show Go p e below s _ _ _ s₁ (mkF m 14 #[.val (.int fl), .val (.int sa), .val (.int aa), .val (.int ca), .val (.int (1 : Int32)), .unset, .unset, .unset, .unset, .unset, .unset, .unset, .unset, .unset] [(.int sa)])
    refine Go.st (fun tG => X0.ldcInt hx hown (mvT hZ (hw _ (List.mem_of_getElem? (i := 0) rfl))) (g := (mkF m 14 #[.val (.int fl), .val (.int sa), .val (.int aa), .val (.int ca), .val (.int (1 : Int32)), .unset, .unset, .unset, .unset, .unset, .unset, .unset, .unset, .unset] [(.int sa)])) rfl (hb hby at_14) tG) ?_
    show Go p e below s _ _ _ s₁ (mkF m 16 #[.val (.int fl), .val (.int sa), .val (.int aa), .val (.int ca), .val (.int (1 : Int32)), .unset, .unset, .unset, .unset, .unset, .unset, .unset, .unset, .unset] [(.int (65535 : Int32)), (.int sa)])
    refine Go.st (fun _ => XS.iand X0.here hx rfl (hb hby at_16) rfl) ?_
    show Go p e below s _ _ _ s₁ (mkF m 17 #[.val (.int fl), .val (.int sa), .val (.int aa), .val (.int ca), .val (.int (1 : Int32)), .unset, .unset, .unset, .unset, .unset, .unset, .unset, .unset, .unset] [(.int (sa &&& (65535 : Int32)))])
    refine Go.st (fun _ => XS.istore X0.here hx rfl (hb hby at_17) rfl (l' := #[.val (.int fl), .val (.int sa), .val (.int aa), .val (.int ca), .val (.int (1 : Int32)), .val (.int (sa &&& (65535 : Int32))), .unset, .unset, .unset, .unset, .unset, .unset, .unset, .unset]) rfl) ?_
    show Go p e below s _ _ _ s₁ (mkF m 19 #[.val (.int fl), .val (.int sa), .val (.int aa), .val (.int ca), .val (.int (1 : Int32)), .val (.int (sa &&& (65535 : Int32))), .unset, .unset, .unset, .unset, .unset, .unset, .unset, .unset] [])
    obtain ⟨vx10, hvx10⟩ : ∃ z, z = (sa &&& (65535 : Int32)) := ⟨_, rfl⟩
    rw [← hvx10]
    show Go p e below s _ _ _ s₁ (mkF m 19 #[.val (.int fl), .val (.int sa), .val (.int aa), .val (.int ca), .val (.int (1 : Int32)), .val (.int vx10), .unset, .unset, .unset, .unset, .unset, .unset, .unset, .unset] [])
    have hs := own_s sa
    rw [← hvx10] at hs
    refine Go.st (fun _ => XS.iloadN X0.here hx rfl (hb hby at_19) rfl) ?_
    show Go p e below s _ _ _ s₁ (mkF m 20 #[.val (.int fl), .val (.int sa), .val (.int aa), .val (.int ca), .val (.int (1 : Int32)), .val (.int vx10), .unset, .unset, .unset, .unset, .unset, .unset, .unset, .unset] [(.int aa)])
    refine Go.st (fun tG => X0.ldcInt hx hown (mvT hZ (hw _ (List.mem_of_getElem? (i := 1) rfl))) (g := (mkF m 20 #[.val (.int fl), .val (.int sa), .val (.int aa), .val (.int ca), .val (.int (1 : Int32)), .val (.int vx10), .unset, .unset, .unset, .unset, .unset, .unset, .unset, .unset] [(.int aa)])) rfl (hb hby at_20) tG) ?_
    show Go p e below s _ _ _ s₁ (mkF m 22 #[.val (.int fl), .val (.int sa), .val (.int aa), .val (.int ca), .val (.int (1 : Int32)), .val (.int vx10), .unset, .unset, .unset, .unset, .unset, .unset, .unset, .unset] [(.int (2147483647 : Int32)), (.int aa)])
    refine Go.st (fun _ => XS.iand X0.here hx rfl (hb hby at_22) rfl) ?_
    show Go p e below s _ _ _ s₁ (mkF m 23 #[.val (.int fl), .val (.int sa), .val (.int aa), .val (.int ca), .val (.int (1 : Int32)), .val (.int vx10), .unset, .unset, .unset, .unset, .unset, .unset, .unset, .unset] [(.int (aa &&& (2147483647 : Int32)))])
    refine Go.st (fun _ => XS.iload X0.here hx rfl (hb hby at_23) rfl) ?_
    show Go p e below s _ _ _ s₁ (mkF m 25 #[.val (.int fl), .val (.int sa), .val (.int aa), .val (.int ca), .val (.int (1 : Int32)), .val (.int vx10), .unset, .unset, .unset, .unset, .unset, .unset, .unset, .unset] [(.int vx10), (.int (aa &&& (2147483647 : Int32)))])
    refine Go.st (fun _ => XS.iconst X0.here hx rfl (hb hby at_25)) ?_
    show Go p e below s _ _ _ s₁ (mkF m 26 #[.val (.int fl), .val (.int sa), .val (.int aa), .val (.int ca), .val (.int (1 : Int32)), .val (.int vx10), .unset, .unset, .unset, .unset, .unset, .unset, .unset, .unset] [(.int (1 : Int32)), (.int vx10), (.int (aa &&& (2147483647 : Int32)))])
    refine Go.st (fun _ => XS.iadd X0.here hx rfl (hb hby at_26) rfl) ?_
    show Go p e below s _ _ _ s₁ (mkF m 27 #[.val (.int fl), .val (.int sa), .val (.int aa), .val (.int ca), .val (.int (1 : Int32)), .val (.int vx10), .unset, .unset, .unset, .unset, .unset, .unset, .unset, .unset] [(.int (vx10 + (1 : Int32))), (.int (aa &&& (2147483647 : Int32)))])
    refine Go.st (fun _ => iremM X0 hx rfl (hb hby at_27) rfl (own_nz hs)) ?_
    show Go p e below s _ _ _ s₁ (mkF m 28 #[.val (.int fl), .val (.int sa), .val (.int aa), .val (.int ca), .val (.int (1 : Int32)), .val (.int vx10), .unset, .unset, .unset, .unset, .unset, .unset, .unset, .unset] [(.int ((aa &&& (2147483647 : Int32)) % (vx10 + (1 : Int32))))])
    refine Go.st (fun _ => XS.istore X0.here hx rfl (hb hby at_28) rfl (l' := #[.val (.int fl), .val (.int sa), .val (.int aa), .val (.int ca), .val (.int (1 : Int32)), .val (.int vx10), .val (.int ((aa &&& (2147483647 : Int32)) % (vx10 + (1 : Int32)))), .unset, .unset, .unset, .unset, .unset, .unset, .unset]) rfl) ?_
    show Go p e below s _ _ _ s₁ (mkF m 30 #[.val (.int fl), .val (.int sa), .val (.int aa), .val (.int ca), .val (.int (1 : Int32)), .val (.int vx10), .val (.int ((aa &&& (2147483647 : Int32)) % (vx10 + (1 : Int32)))), .unset, .unset, .unset, .unset, .unset, .unset, .unset] [])
    obtain ⟨vx11, hvx11⟩ : ∃ z, z = ((aa &&& (2147483647 : Int32)) % (vx10 + (1 : Int32))) := ⟨_, rfl⟩
    rw [← hvx11]
    show Go p e below s _ _ _ s₁ (mkF m 30 #[.val (.int fl), .val (.int sa), .val (.int aa), .val (.int ca), .val (.int (1 : Int32)), .val (.int vx10), .val (.int vx11), .unset, .unset, .unset, .unset, .unset, .unset, .unset] [])
    have hk := own_k aa hs
    rw [← hvx11] at hk
    refine Go.st (fun _ => XS.iloadN X0.here hx rfl (hb hby at_30) rfl) ?_
    show Go p e below s _ _ _ s₁ (mkF m 31 #[.val (.int fl), .val (.int sa), .val (.int aa), .val (.int ca), .val (.int (1 : Int32)), .val (.int vx10), .val (.int vx11), .unset, .unset, .unset, .unset, .unset, .unset, .unset] [(.int ca)])
    refine Go.st (fun tG => X0.ldcInt hx hown (mvT hZ (hw _ (List.mem_of_getElem? (i := 1) rfl))) (g := (mkF m 31 #[.val (.int fl), .val (.int sa), .val (.int aa), .val (.int ca), .val (.int (1 : Int32)), .val (.int vx10), .val (.int vx11), .unset, .unset, .unset, .unset, .unset, .unset, .unset] [(.int ca)])) rfl (hb hby at_31) tG) ?_
    show Go p e below s _ _ _ s₁ (mkF m 33 #[.val (.int fl), .val (.int sa), .val (.int aa), .val (.int ca), .val (.int (1 : Int32)), .val (.int vx10), .val (.int vx11), .unset, .unset, .unset, .unset, .unset, .unset, .unset] [(.int (2147483647 : Int32)), (.int ca)])
    refine Go.st (fun _ => XS.iand X0.here hx rfl (hb hby at_33) rfl) ?_
    show Go p e below s _ _ _ s₁ (mkF m 34 #[.val (.int fl), .val (.int sa), .val (.int aa), .val (.int ca), .val (.int (1 : Int32)), .val (.int vx10), .val (.int vx11), .unset, .unset, .unset, .unset, .unset, .unset, .unset] [(.int (ca &&& (2147483647 : Int32)))])
    refine Go.st (fun _ => XS.iload X0.here hx rfl (hb hby at_34) rfl) ?_
    show Go p e below s _ _ _ s₁ (mkF m 36 #[.val (.int fl), .val (.int sa), .val (.int aa), .val (.int ca), .val (.int (1 : Int32)), .val (.int vx10), .val (.int vx11), .unset, .unset, .unset, .unset, .unset, .unset, .unset] [(.int vx10), (.int (ca &&& (2147483647 : Int32)))])
    refine Go.st (fun _ => XS.iload X0.here hx rfl (hb hby at_36) rfl) ?_
    show Go p e below s _ _ _ s₁ (mkF m 38 #[.val (.int fl), .val (.int sa), .val (.int aa), .val (.int ca), .val (.int (1 : Int32)), .val (.int vx10), .val (.int vx11), .unset, .unset, .unset, .unset, .unset, .unset, .unset] [(.int vx11), (.int vx10), (.int (ca &&& (2147483647 : Int32)))])
    refine Go.st (fun _ => XS.isub X0.here hx rfl (hb hby at_38) rfl) ?_
    show Go p e below s _ _ _ s₁ (mkF m 39 #[.val (.int fl), .val (.int sa), .val (.int aa), .val (.int ca), .val (.int (1 : Int32)), .val (.int vx10), .val (.int vx11), .unset, .unset, .unset, .unset, .unset, .unset, .unset] [(.int (vx10 - vx11)), (.int (ca &&& (2147483647 : Int32)))])
    refine Go.st (fun _ => XS.iconst X0.here hx rfl (hb hby at_39)) ?_
    show Go p e below s _ _ _ s₁ (mkF m 40 #[.val (.int fl), .val (.int sa), .val (.int aa), .val (.int ca), .val (.int (1 : Int32)), .val (.int vx10), .val (.int vx11), .unset, .unset, .unset, .unset, .unset, .unset, .unset] [(.int (1 : Int32)), (.int (vx10 - vx11)), (.int (ca &&& (2147483647 : Int32)))])
    refine Go.st (fun _ => XS.iadd X0.here hx rfl (hb hby at_40) rfl) ?_
    show Go p e below s _ _ _ s₁ (mkF m 41 #[.val (.int fl), .val (.int sa), .val (.int aa), .val (.int ca), .val (.int (1 : Int32)), .val (.int vx10), .val (.int vx11), .unset, .unset, .unset, .unset, .unset, .unset, .unset] [(.int ((vx10 - vx11) + (1 : Int32))), (.int (ca &&& (2147483647 : Int32)))])
    refine Go.st (fun _ => iremM X0 hx rfl (hb hby at_41) rfl (own_nz2 hs hk)) ?_
    show Go p e below s _ _ _ s₁ (mkF m 42 #[.val (.int fl), .val (.int sa), .val (.int aa), .val (.int ca), .val (.int (1 : Int32)), .val (.int vx10), .val (.int vx11), .unset, .unset, .unset, .unset, .unset, .unset, .unset] [(.int ((ca &&& (2147483647 : Int32)) % ((vx10 - vx11) + (1 : Int32))))])
    refine Go.st (fun _ => XS.istore X0.here hx rfl (hb hby at_42) rfl (l' := #[.val (.int fl), .val (.int sa), .val (.int aa), .val (.int ca), .val (.int (1 : Int32)), .val (.int vx10), .val (.int vx11), .val (.int ((ca &&& (2147483647 : Int32)) % ((vx10 - vx11) + (1 : Int32)))), .unset, .unset, .unset, .unset, .unset, .unset]) rfl) ?_
    show Go p e below s _ _ _ s₁ (mkF m 44 #[.val (.int fl), .val (.int sa), .val (.int aa), .val (.int ca), .val (.int (1 : Int32)), .val (.int vx10), .val (.int vx11), .val (.int ((ca &&& (2147483647 : Int32)) % ((vx10 - vx11) + (1 : Int32)))), .unset, .unset, .unset, .unset, .unset, .unset] [])
    obtain ⟨vx12, hvx12⟩ : ∃ z, z = ((ca &&& (2147483647 : Int32)) % ((vx10 - vx11) + (1 : Int32))) := ⟨_, rfl⟩
    rw [← hvx12]
    show Go p e below s _ _ _ s₁ (mkF m 44 #[.val (.int fl), .val (.int sa), .val (.int aa), .val (.int ca), .val (.int (1 : Int32)), .val (.int vx10), .val (.int vx11), .val (.int vx12), .unset, .unset, .unset, .unset, .unset, .unset] [])
    obtain ⟨T13, h13, X13, e13, E13, A13, D13, -, st13⟩ := newO X0 hx hZ hown (hw _ (List.mem_of_getElem? (i := 2) rfl)) (hw _ (List.mem_of_getElem? (i := 3) rfl)) (hw _ (List.mem_of_getElem? (i := 4) rfl)) e0 (g := (mkF m 44 #[.val (.int fl), .val (.int sa), .val (.int aa), .val (.int ca), .val (.int (1 : Int32)), .val (.int vx10), .val (.int vx11), .val (.int vx12), .unset, .unset, .unset, .unset, .unset, .unset] [])) rfl (hb hby at_44) (by decide) (by decide)
    obtain ⟨b13, g13⟩ : ∃ z, z = h0.size := ⟨_, rfl⟩
    rw [← g13] at A13 D13 st13
    refine Go.st st13 ?_
    have gg13 : n0 ≤ b13 := Nat.le_trans Z0 (Nat.le_of_eq g13.symm)
    have z13 : n0 ≤ h13.size := Nat.le_trans Z0 E13.1
    have F_here_b13 : Fld Z h13 b13 "kasane/service/Storage$Placement" "here" "Z" (.int (0 : Int32)) := D13 (Or.inr (hw _ (List.mem_of_getElem? (i := 17) rfl))) (ty := .boolean) (by decide)
    have F_sent_b13 : Fld Z h13 b13 "kasane/service/Storage$Placement" "sent" "I" (.int (0 : Int32)) := D13 (Or.inr (hw _ (List.mem_of_getElem? (i := 19) rfl))) (ty := .int) (by decide)
    have F_acknowledged_b13 : Fld Z h13 b13 "kasane/service/Storage$Placement" "acknowledged" "I" (.int (0 : Int32)) := D13 (Or.inr (hw _ (List.mem_of_getElem? (i := 21) rfl))) (ty := .int) (by decide)
    have F_superseded_b13 : Fld Z h13 b13 "kasane/service/Storage$Placement" "superseded" "I" (.int (0 : Int32)) := D13 (Or.inr (hw _ (List.mem_of_getElem? (i := 23) rfl))) (ty := .int) (by decide)
    show Go p e below s _ _ _ T13 (mkF m 47 #[.val (.int fl), .val (.int sa), .val (.int aa), .val (.int ca), .val (.int (1 : Int32)), .val (.int vx10), .val (.int vx11), .val (.int vx12), .unset, .unset, .unset, .unset, .unset, .unset] [(.ref b13)])
    refine Go.st (fun _ => XS.dup X13.here hx rfl (hb hby at_47) rfl rfl) ?_
    show Go p e below s _ _ _ T13 (mkF m 48 #[.val (.int fl), .val (.int sa), .val (.int aa), .val (.int ca), .val (.int (1 : Int32)), .val (.int vx10), .val (.int vx11), .val (.int vx12), .unset, .unset, .unset, .unset, .unset, .unset] [(.ref b13), (.ref b13)])
    refine Go.st (fun _ => XS.iload X13.here hx rfl (hb hby at_48) rfl) ?_
    show Go p e below s _ _ _ T13 (mkF m 50 #[.val (.int fl), .val (.int sa), .val (.int aa), .val (.int ca), .val (.int (1 : Int32)), .val (.int vx10), .val (.int vx11), .val (.int vx12), .unset, .unset, .unset, .unset, .unset, .unset] [(.int (1 : Int32)), (.ref b13), (.ref b13)])
    refine Go.st (fun _ => XS.iload X13.here hx rfl (hb hby at_50) rfl) ?_
    show Go p e below s _ _ _ T13 (mkF m 52 #[.val (.int fl), .val (.int sa), .val (.int aa), .val (.int ca), .val (.int (1 : Int32)), .val (.int vx10), .val (.int vx11), .val (.int vx12), .unset, .unset, .unset, .unset, .unset, .unset] [(.int vx10), (.int (1 : Int32)), (.ref b13), (.ref b13)])
    refine Go.st (fun _ => XS.iload X13.here hx rfl (hb hby at_52) rfl) ?_
    show Go p e below s _ _ _ T13 (mkF m 54 #[.val (.int fl), .val (.int sa), .val (.int aa), .val (.int ca), .val (.int (1 : Int32)), .val (.int vx10), .val (.int vx11), .val (.int vx12), .unset, .unset, .unset, .unset, .unset, .unset] [(.int vx11), (.int vx10), (.int (1 : Int32)), (.ref b13), (.ref b13)])
    refine Go.st (fun _ => XS.iload X13.here hx rfl (hb hby at_54) rfl) ?_
    show Go p e below s _ _ _ T13 (mkF m 56 #[.val (.int fl), .val (.int sa), .val (.int aa), .val (.int ca), .val (.int (1 : Int32)), .val (.int vx10), .val (.int vx11), .val (.int vx12), .unset, .unset, .unset, .unset, .unset, .unset] [(.int vx12), (.int vx11), (.int vx10), (.int (1 : Int32)), (.ref b13), (.ref b13)])
    obtain ⟨_, _, ⟨T14, L14, kc14, nc14⟩, -, X14, ⟨Lc14, hQ14, l14, y14, z14⟩, st14⟩ := X13.specialBack hx (y := (⟨"kasane/service/Storage$Placement", "<init>", "(ZIII)V"⟩ : MethodName)) rfl hown (mvT hZ (hw _ (List.mem_of_getElem? (i := 5) rfl))) (mvT hZ (hw _ (List.mem_of_getElem? (i := 6) rfl))) (mvT hZ (hw _ (List.mem_of_getElem? (i := 7) rfl))) (by decide) (backOf (W := 1) (rm1 l Z a0 hw [] b13 (1 : Int32) vx10 vx11 vx12 h13 n0 z13 A13 F_here_b13 F_sent_b13 F_acknowledged_b13 F_superseded_b13 gg13) hZ (hw _ (List.mem_of_getElem? (i := 7) rfl)) (hw _ (List.mem_of_getElem? (i := 4) rfl)) (by decide) (by decide)) (g := (mkF m 56 #[.val (.int fl), .val (.int sa), .val (.int aa), .val (.int ca), .val (.int (1 : Int32)), .val (.int vx10), .val (.int vx11), .val (.int vx12), .unset, .unset, .unset, .unset, .unset, .unset] [(.int vx12), (.int vx11), (.int vx10), (.int (1 : Int32)), (.ref b13), (.ref b13)])) rfl (by rw [hml]; rfl) (Steps.refl _) (a := b13) (argsL := [(.int (1 : Int32)), (.int vx10), (.int vx11), (.int vx12)]) (rest := [(.ref b13)]) (lenOf pd_1 rfl) rfl (by show 2 * 0 + _ ≤ _; exact Nat.le_of_eq rfl) (hb hby at_56) (fun _ _ => ⟨rfl, e13, (by decide : 1 + 0 ≤ _), (by decide : 4 + 0 ≤ _)⟩)
    dsimp only [Pt.U, Pt.locs, Pt.cells, Pt.slots] at X14 l14 y14 z14 st14 hQ14
    subst l14 y14 z14
    obtain ⟨h14, e14⟩ : ∃ hh, T14.heap = hh := ⟨_, rfl⟩
    rw [e14] at hQ14
    obtain ⟨rfl, N14q, K14, p14_0, p14_1, p14_2⟩ := hQ14
    have N14 := Fr.app N0 N14q
    refine Go.st (fun _ kk => st14.trans kk) ?_
    have z14q : n0 ≤ h14.size := Nat.le_trans z13 K14.1
    rw [show (nar .boolean (1 : Int32)) = (1 : Int32) from by decide] at p14_1
    show Go p e below s _ _ _ T14 (mkF m 59 #[.val (.int fl), .val (.int sa), .val (.int aa), .val (.int ca), .val (.int (1 : Int32)), .val (.int vx10), .val (.int vx11), .val (.int vx12), .unset, .unset, .unset, .unset, .unset, .unset] [(.ref b13)])
    refine Go.st (fun _ => XS.astore X14.here hx rfl (hb hby at_59) rfl rfl (l' := #[.val (.int fl), .val (.int sa), .val (.int aa), .val (.int ca), .val (.int (1 : Int32)), .val (.int vx10), .val (.int vx11), .val (.int vx12), .val (.ref b13), .unset, .unset, .unset, .unset, .unset]) rfl) ?_
    show Go p e below s _ _ _ T14 (mkF m 61 #[.val (.int fl), .val (.int sa), .val (.int aa), .val (.int ca), .val (.int (1 : Int32)), .val (.int vx10), .val (.int vx11), .val (.int vx12), .val (.ref b13), .unset, .unset, .unset, .unset, .unset] [])
    refine Go.st (fun _ => XS.aload X14.here hx rfl (hb hby at_61) rfl rfl) ?_
    show Go p e below s _ _ _ T14 (mkF m 63 #[.val (.int fl), .val (.int sa), .val (.int aa), .val (.int ca), .val (.int (1 : Int32)), .val (.int vx10), .val (.int vx11), .val (.int vx12), .val (.ref b13), .unset, .unset, .unset, .unset, .unset] [(.ref b13)])
    obtain ⟨cq15, kq15, q15a, q15b, q15c⟩ := isOf hZ e14 p14_0
    obtain ⟨_, _, ⟨T15, L15, kc15, nc15⟩, -, X15, ⟨Lc15, hQ15, l15, y15, z15⟩, st15⟩ := X14.virtualBack hx (y := (⟨"kasane/service/Storage$Placement", "copies", "()I"⟩ : MethodName)) (z := (⟨"kasane/service/Storage$Placement", "copies", "()I"⟩ : MethodName)) hown (mvT hZ (hw _ (List.mem_of_getElem? (i := 24) rfl))) (mvT hZ (hw _ (List.mem_of_getElem? (i := 25) rfl))) (notFace_of_selects (args := #[]) (mvT hZ (hw _ (List.mem_of_getElem? (i := 27) rfl)))) (mvT hZ (hw _ (List.mem_of_getElem? (i := 27) rfl))) (mvT hZ (hw _ (List.mem_of_getElem? (i := 26) rfl))) (by decide) (backOf (W := 0) (rm4 l Z a0 hw [] b13 (1 : Int32) vx11 h14 n0 z14q p14_1 p14_2 (by decide)) hZ (hw _ (List.mem_of_getElem? (i := 28) rfl)) (hw _ (List.mem_of_getElem? (i := 4) rfl)) (by decide) (by decide)) q15a q15c (g := (mkF m 63 #[.val (.int fl), .val (.int sa), .val (.int aa), .val (.int ca), .val (.int (1 : Int32)), .val (.int vx10), .val (.int vx11), .val (.int vx12), .val (.ref b13), .unset, .unset, .unset, .unset, .unset] [(.ref b13)])) rfl (by rw [hml]; rfl) (Steps.refl _) (argsL := []) (rest := []) (lenOf pd_2 rfl) rfl (by show 2 * 0 + _ ≤ _; exact Nat.le_of_eq rfl) (hb hby at_63) (fun _ _ => ⟨rfl, e14, (by decide : 1 + 0 ≤ _), (by decide : 4 + 0 ≤ _)⟩)
    dsimp only [Pt.U, Pt.locs, Pt.cells, Pt.slots] at X15 l15 y15 z15 st15 hQ15
    subst l15 y15 z15
    obtain ⟨h15, e15⟩ : ∃ hh, T15.heap = hh := ⟨_, rfl⟩
    rw [e15] at hQ15
    obtain ⟨rfl, N15q, sm15⟩ := hQ15
    have N15 := Fr.app N14 N15q
    refine Go.st (fun _ kk => st15.trans kk) ?_
    rw [sm15] at e15
    show Go p e below s _ _ _ T15 (mkF m 66 #[.val (.int fl), .val (.int sa), .val (.int aa), .val (.int ca), .val (.int (1 : Int32)), .val (.int vx10), .val (.int vx11), .val (.int vx12), .val (.ref b13), .unset, .unset, .unset, .unset, .unset] [(.int (vx11 + (1 : Int32)))])
    have hk16 : ¬ ((vx11 + (1 : Int32)) < (0 : Int32)) := own_b2 hs hk
    have hk17 : ¬ ((vx10 + (1 : Int32)) < (vx11 + (1 : Int32))) := own_b3 hs hk
    refine Go.st (fun _ => XS.istore X15.here hx rfl (hb hby at_66) rfl (l' := #[.val (.int fl), .val (.int sa), .val (.int aa), .val (.int ca), .val (.int (1 : Int32)), .val (.int vx10), .val (.int vx11), .val (.int vx12), .val (.ref b13), .val (.int (vx11 + (1 : Int32))), .unset, .unset, .unset, .unset]) rfl) ?_
    show Go p e below s _ _ _ T15 (mkF m 68 #[.val (.int fl), .val (.int sa), .val (.int aa), .val (.int ca), .val (.int (1 : Int32)), .val (.int vx10), .val (.int vx11), .val (.int vx12), .val (.ref b13), .val (.int (vx11 + (1 : Int32))), .unset, .unset, .unset, .unset] [])
    refine Go.st (fun _ => XS.iload X15.here hx rfl (hb hby at_68) rfl) ?_
    show Go p e below s _ _ _ T15 (mkF m 70 #[.val (.int fl), .val (.int sa), .val (.int aa), .val (.int ca), .val (.int (1 : Int32)), .val (.int vx10), .val (.int vx11), .val (.int vx12), .val (.ref b13), .val (.int (vx11 + (1 : Int32))), .unset, .unset, .unset, .unset] [(.int (1 : Int32))])
    refine Go.st (fun _ => XS.ifNo X15.here hx rfl (hb hby at_70) rfl ((if0 _ _).trans (feq (by decide : ¬ ((1 : Int32) = (0 : Int32)))).1)) ?_
    show Go p e below s _ _ _ T15 (mkF m 73 #[.val (.int fl), .val (.int sa), .val (.int aa), .val (.int ca), .val (.int (1 : Int32)), .val (.int vx10), .val (.int vx11), .val (.int vx12), .val (.ref b13), .val (.int (vx11 + (1 : Int32))), .unset, .unset, .unset, .unset] [])
    refine Go.st (fun _ => XS.iload X15.here hx rfl (hb hby at_73) rfl) ?_
    show Go p e below s _ _ _ T15 (mkF m 75 #[.val (.int fl), .val (.int sa), .val (.int aa), .val (.int ca), .val (.int (1 : Int32)), .val (.int vx10), .val (.int vx11), .val (.int vx12), .val (.ref b13), .val (.int (vx11 + (1 : Int32))), .unset, .unset, .unset, .unset] [(.int vx11)])
    refine Go.st (fun _ => XS.iconst X15.here hx rfl (hb hby at_75)) ?_
    show Go p e below s _ _ _ T15 (mkF m 76 #[.val (.int fl), .val (.int sa), .val (.int aa), .val (.int ca), .val (.int (1 : Int32)), .val (.int vx10), .val (.int vx11), .val (.int vx12), .val (.ref b13), .val (.int (vx11 + (1 : Int32))), .unset, .unset, .unset, .unset] [(.int (1 : Int32)), (.int vx11)])
    refine Go.st (fun _ => XS.iadd X15.here hx rfl (hb hby at_76) rfl) ?_
    show Go p e below s _ _ _ T15 (mkF m 77 #[.val (.int fl), .val (.int sa), .val (.int aa), .val (.int ca), .val (.int (1 : Int32)), .val (.int vx10), .val (.int vx11), .val (.int vx12), .val (.ref b13), .val (.int (vx11 + (1 : Int32))), .unset, .unset, .unset, .unset] [(.int (vx11 + (1 : Int32)))])
    refine Go.st (fun _ => XS.istore X15.here hx rfl (hb hby at_77) rfl (l' := #[.val (.int fl), .val (.int sa), .val (.int aa), .val (.int ca), .val (.int (1 : Int32)), .val (.int vx10), .val (.int vx11), .val (.int vx12), .val (.ref b13), .val (.int (vx11 + (1 : Int32))), .val (.int (vx11 + (1 : Int32))), .unset, .unset, .unset]) rfl) ?_
    show Go p e below s _ _ _ T15 (mkF m 79 #[.val (.int fl), .val (.int sa), .val (.int aa), .val (.int ca), .val (.int (1 : Int32)), .val (.int vx10), .val (.int vx11), .val (.int vx12), .val (.ref b13), .val (.int (vx11 + (1 : Int32))), .val (.int (vx11 + (1 : Int32))), .unset, .unset, .unset] [])
    refine Go.st (fun _ => XS.goto X15.here hx rfl (pc0 := 79) (pc' := 86) rfl (hb hby at_79) (by decide) (by decide)) ?_
    show Go p e below s _ _ _ T15 (mkF m 86 #[.val (.int fl), .val (.int sa), .val (.int aa), .val (.int ca), .val (.int (1 : Int32)), .val (.int vx10), .val (.int vx11), .val (.int vx12), .val (.ref b13), .val (.int (vx11 + (1 : Int32))), .val (.int (vx11 + (1 : Int32))), .unset, .unset, .unset] [])
    refine Go.st (fun _ => XS.iload X15.here hx rfl (hb hby at_86) rfl) ?_
    show Go p e below s _ _ _ T15 (mkF m 88 #[.val (.int fl), .val (.int sa), .val (.int aa), .val (.int ca), .val (.int (1 : Int32)), .val (.int vx10), .val (.int vx11), .val (.int vx12), .val (.ref b13), .val (.int (vx11 + (1 : Int32))), .val (.int (vx11 + (1 : Int32))), .unset, .unset, .unset] [(.int (vx11 + (1 : Int32)))])
    refine Go.st (fun _ => XS.iload X15.here hx rfl (hb hby at_88) rfl) ?_
    show Go p e below s _ _ _ T15 (mkF m 90 #[.val (.int fl), .val (.int sa), .val (.int aa), .val (.int ca), .val (.int (1 : Int32)), .val (.int vx10), .val (.int vx11), .val (.int vx12), .val (.ref b13), .val (.int (vx11 + (1 : Int32))), .val (.int (vx11 + (1 : Int32))), .unset, .unset, .unset] [(.int (vx11 + (1 : Int32))), (.int (vx11 + (1 : Int32)))])
    refine Go.st (fun _ => XS.icmpNo X15.here hx rfl (hb hby at_90) rfl (teq (rfl : (vx11 + (1 : Int32)) = (vx11 + (1 : Int32)))).2) ?_
    show Go p e below s _ _ _ T15 (mkF m 93 #[.val (.int fl), .val (.int sa), .val (.int aa), .val (.int ca), .val (.int (1 : Int32)), .val (.int vx10), .val (.int vx11), .val (.int vx12), .val (.ref b13), .val (.int (vx11 + (1 : Int32))), .val (.int (vx11 + (1 : Int32))), .unset, .unset, .unset] [])
    refine Go.st (fun _ => XS.iconst X15.here hx rfl (hb hby at_93)) ?_
    show Go p e below s _ _ _ T15 (mkF m 94 #[.val (.int fl), .val (.int sa), .val (.int aa), .val (.int ca), .val (.int (1 : Int32)), .val (.int vx10), .val (.int vx11), .val (.int vx12), .val (.ref b13), .val (.int (vx11 + (1 : Int32))), .val (.int (vx11 + (1 : Int32))), .unset, .unset, .unset] [(.int (1 : Int32))])
    refine Go.st (fun _ => XS.goto X15.here hx rfl (pc0 := 94) (pc' := 98) rfl (hb hby at_94) (by decide) (by decide)) ?_
    show Go p e below s _ _ _ T15 (mkF m 98 #[.val (.int fl), .val (.int sa), .val (.int aa), .val (.int ca), .val (.int (1 : Int32)), .val (.int vx10), .val (.int vx11), .val (.int vx12), .val (.ref b13), .val (.int (vx11 + (1 : Int32))), .val (.int (vx11 + (1 : Int32))), .unset, .unset, .unset] [(.int (1 : Int32))])
    refine Go.st (fun _ => XS.istore X15.here hx rfl (hb hby at_98) rfl (l' := #[.val (.int fl), .val (.int sa), .val (.int aa), .val (.int ca), .val (.int (1 : Int32)), .val (.int vx10), .val (.int vx11), .val (.int vx12), .val (.ref b13), .val (.int (vx11 + (1 : Int32))), .val (.int (vx11 + (1 : Int32))), .val (.int (1 : Int32)), .unset, .unset]) rfl) ?_
    show Go p e below s _ _ _ T15 (mkF m 100 #[.val (.int fl), .val (.int sa), .val (.int aa), .val (.int ca), .val (.int (1 : Int32)), .val (.int vx10), .val (.int vx11), .val (.int vx12), .val (.ref b13), .val (.int (vx11 + (1 : Int32))), .val (.int (vx11 + (1 : Int32))), .val (.int (1 : Int32)), .unset, .unset] [])
    refine Go.st (fun _ => XS.iload X15.here hx rfl (hb hby at_100) rfl) ?_
    show Go p e below s _ _ _ T15 (mkF m 102 #[.val (.int fl), .val (.int sa), .val (.int aa), .val (.int ca), .val (.int (1 : Int32)), .val (.int vx10), .val (.int vx11), .val (.int vx12), .val (.ref b13), .val (.int (vx11 + (1 : Int32))), .val (.int (vx11 + (1 : Int32))), .val (.int (1 : Int32)), .unset, .unset] [(.int (vx11 + (1 : Int32)))])
    refine Go.st (fun _ => XS.ifNo X15.here hx rfl (hb hby at_102) rfl ((if0 _ _).trans (flt hk16).1)) ?_
    show Go p e below s _ _ _ T15 (mkF m 105 #[.val (.int fl), .val (.int sa), .val (.int aa), .val (.int ca), .val (.int (1 : Int32)), .val (.int vx10), .val (.int vx11), .val (.int vx12), .val (.ref b13), .val (.int (vx11 + (1 : Int32))), .val (.int (vx11 + (1 : Int32))), .val (.int (1 : Int32)), .unset, .unset] [])
    refine Go.st (fun _ => XS.iload X15.here hx rfl (hb hby at_105) rfl) ?_
    show Go p e below s _ _ _ T15 (mkF m 107 #[.val (.int fl), .val (.int sa), .val (.int aa), .val (.int ca), .val (.int (1 : Int32)), .val (.int vx10), .val (.int vx11), .val (.int vx12), .val (.ref b13), .val (.int (vx11 + (1 : Int32))), .val (.int (vx11 + (1 : Int32))), .val (.int (1 : Int32)), .unset, .unset] [(.int (vx11 + (1 : Int32)))])
    refine Go.st (fun _ => XS.iload X15.here hx rfl (hb hby at_107) rfl) ?_
    show Go p e below s _ _ _ T15 (mkF m 109 #[.val (.int fl), .val (.int sa), .val (.int aa), .val (.int ca), .val (.int (1 : Int32)), .val (.int vx10), .val (.int vx11), .val (.int vx12), .val (.ref b13), .val (.int (vx11 + (1 : Int32))), .val (.int (vx11 + (1 : Int32))), .val (.int (1 : Int32)), .unset, .unset] [(.int vx10), (.int (vx11 + (1 : Int32)))])
    refine Go.st (fun _ => XS.iconst X15.here hx rfl (hb hby at_109)) ?_
    show Go p e below s _ _ _ T15 (mkF m 110 #[.val (.int fl), .val (.int sa), .val (.int aa), .val (.int ca), .val (.int (1 : Int32)), .val (.int vx10), .val (.int vx11), .val (.int vx12), .val (.ref b13), .val (.int (vx11 + (1 : Int32))), .val (.int (vx11 + (1 : Int32))), .val (.int (1 : Int32)), .unset, .unset] [(.int (1 : Int32)), (.int vx10), (.int (vx11 + (1 : Int32)))])
    refine Go.st (fun _ => XS.iadd X15.here hx rfl (hb hby at_110) rfl) ?_
    show Go p e below s _ _ _ T15 (mkF m 111 #[.val (.int fl), .val (.int sa), .val (.int aa), .val (.int ca), .val (.int (1 : Int32)), .val (.int vx10), .val (.int vx11), .val (.int vx12), .val (.ref b13), .val (.int (vx11 + (1 : Int32))), .val (.int (vx11 + (1 : Int32))), .val (.int (1 : Int32)), .unset, .unset] [(.int (vx10 + (1 : Int32))), (.int (vx11 + (1 : Int32)))])
    refine Go.st (fun _ => XS.icmpNo X15.here hx rfl (hb hby at_111) rfl (flt hk17).2.2.1) ?_
    show Go p e below s _ _ _ T15 (mkF m 114 #[.val (.int fl), .val (.int sa), .val (.int aa), .val (.int ca), .val (.int (1 : Int32)), .val (.int vx10), .val (.int vx11), .val (.int vx12), .val (.ref b13), .val (.int (vx11 + (1 : Int32))), .val (.int (vx11 + (1 : Int32))), .val (.int (1 : Int32)), .unset, .unset] [])
    refine Go.st (fun _ => XS.iconst X15.here hx rfl (hb hby at_114)) ?_
    show Go p e below s _ _ _ T15 (mkF m 115 #[.val (.int fl), .val (.int sa), .val (.int aa), .val (.int ca), .val (.int (1 : Int32)), .val (.int vx10), .val (.int vx11), .val (.int vx12), .val (.ref b13), .val (.int (vx11 + (1 : Int32))), .val (.int (vx11 + (1 : Int32))), .val (.int (1 : Int32)), .unset, .unset] [(.int (1 : Int32))])
    refine Go.st (fun _ => XS.goto X15.here hx rfl (pc0 := 115) (pc' := 119) rfl (hb hby at_115) (by decide) (by decide)) ?_
    show Go p e below s _ _ _ T15 (mkF m 119 #[.val (.int fl), .val (.int sa), .val (.int aa), .val (.int ca), .val (.int (1 : Int32)), .val (.int vx10), .val (.int vx11), .val (.int vx12), .val (.ref b13), .val (.int (vx11 + (1 : Int32))), .val (.int (vx11 + (1 : Int32))), .val (.int (1 : Int32)), .unset, .unset] [(.int (1 : Int32))])
    refine Go.st (fun _ => XS.istore X15.here hx rfl (hb hby at_119) rfl (l' := #[.val (.int fl), .val (.int sa), .val (.int aa), .val (.int ca), .val (.int (1 : Int32)), .val (.int vx10), .val (.int vx11), .val (.int vx12), .val (.ref b13), .val (.int (vx11 + (1 : Int32))), .val (.int (vx11 + (1 : Int32))), .val (.int (1 : Int32)), .val (.int (1 : Int32)), .unset]) rfl) ?_
    show Go p e below s _ _ _ T15 (mkF m 121 #[.val (.int fl), .val (.int sa), .val (.int aa), .val (.int ca), .val (.int (1 : Int32)), .val (.int vx10), .val (.int vx11), .val (.int vx12), .val (.ref b13), .val (.int (vx11 + (1 : Int32))), .val (.int (vx11 + (1 : Int32))), .val (.int (1 : Int32)), .val (.int (1 : Int32)), .unset] [])
    refine Go.st (fun _ => XS.iload X15.here hx rfl (hb hby at_121) rfl) ?_
    show Go p e below s _ _ _ T15 (mkF m 123 #[.val (.int fl), .val (.int sa), .val (.int aa), .val (.int ca), .val (.int (1 : Int32)), .val (.int vx10), .val (.int vx11), .val (.int vx12), .val (.ref b13), .val (.int (vx11 + (1 : Int32))), .val (.int (vx11 + (1 : Int32))), .val (.int (1 : Int32)), .val (.int (1 : Int32)), .unset] [(.int (1 : Int32))])
    refine Go.st (fun _ => XS.ifNo X15.here hx rfl (hb hby at_123) rfl ((if0 _ _).trans (feq (by decide : ¬ ((1 : Int32) = (0 : Int32)))).1)) ?_
    show Go p e below s _ _ _ T15 (mkF m 126 #[.val (.int fl), .val (.int sa), .val (.int aa), .val (.int ca), .val (.int (1 : Int32)), .val (.int vx10), .val (.int vx11), .val (.int vx12), .val (.ref b13), .val (.int (vx11 + (1 : Int32))), .val (.int (vx11 + (1 : Int32))), .val (.int (1 : Int32)), .val (.int (1 : Int32)), .unset] [])
    refine Go.st (fun _ => XS.iload X15.here hx rfl (hb hby at_126) rfl) ?_
    show Go p e below s _ _ _ T15 (mkF m 128 #[.val (.int fl), .val (.int sa), .val (.int aa), .val (.int ca), .val (.int (1 : Int32)), .val (.int vx10), .val (.int vx11), .val (.int vx12), .val (.ref b13), .val (.int (vx11 + (1 : Int32))), .val (.int (vx11 + (1 : Int32))), .val (.int (1 : Int32)), .val (.int (1 : Int32)), .unset] [(.int (vx11 + (1 : Int32)))])
    refine Go.st (fun _ => XS.iload X15.here hx rfl (hb hby at_128) rfl) ?_
    show Go p e below s _ _ _ T15 (mkF m 130 #[.val (.int fl), .val (.int sa), .val (.int aa), .val (.int ca), .val (.int (1 : Int32)), .val (.int vx10), .val (.int vx11), .val (.int vx12), .val (.ref b13), .val (.int (vx11 + (1 : Int32))), .val (.int (vx11 + (1 : Int32))), .val (.int (1 : Int32)), .val (.int (1 : Int32)), .unset] [(.int vx11), (.int (vx11 + (1 : Int32)))])
    refine Go.st (fun _ => XS.iconst X15.here hx rfl (hb hby at_130)) ?_
    show Go p e below s _ _ _ T15 (mkF m 131 #[.val (.int fl), .val (.int sa), .val (.int aa), .val (.int ca), .val (.int (1 : Int32)), .val (.int vx10), .val (.int vx11), .val (.int vx12), .val (.ref b13), .val (.int (vx11 + (1 : Int32))), .val (.int (vx11 + (1 : Int32))), .val (.int (1 : Int32)), .val (.int (1 : Int32)), .unset] [(.int (1 : Int32)), (.int vx11), (.int (vx11 + (1 : Int32)))])
    refine Go.st (fun _ => XS.iadd X15.here hx rfl (hb hby at_131) rfl) ?_
    show Go p e below s _ _ _ T15 (mkF m 132 #[.val (.int fl), .val (.int sa), .val (.int aa), .val (.int ca), .val (.int (1 : Int32)), .val (.int vx10), .val (.int vx11), .val (.int vx12), .val (.ref b13), .val (.int (vx11 + (1 : Int32))), .val (.int (vx11 + (1 : Int32))), .val (.int (1 : Int32)), .val (.int (1 : Int32)), .unset] [(.int (vx11 + (1 : Int32))), (.int (vx11 + (1 : Int32)))])
    refine Go.st (fun _ => XS.icmpNo X15.here hx rfl (hb hby at_132) rfl (teq (rfl : (vx11 + (1 : Int32)) = (vx11 + (1 : Int32)))).2) ?_
    show Go p e below s _ _ _ T15 (mkF m 135 #[.val (.int fl), .val (.int sa), .val (.int aa), .val (.int ca), .val (.int (1 : Int32)), .val (.int vx10), .val (.int vx11), .val (.int vx12), .val (.ref b13), .val (.int (vx11 + (1 : Int32))), .val (.int (vx11 + (1 : Int32))), .val (.int (1 : Int32)), .val (.int (1 : Int32)), .unset] [])
    refine Go.st (fun _ => XS.iconst X15.here hx rfl (hb hby at_135)) ?_
    show Go p e below s _ _ _ T15 (mkF m 136 #[.val (.int fl), .val (.int sa), .val (.int aa), .val (.int ca), .val (.int (1 : Int32)), .val (.int vx10), .val (.int vx11), .val (.int vx12), .val (.ref b13), .val (.int (vx11 + (1 : Int32))), .val (.int (vx11 + (1 : Int32))), .val (.int (1 : Int32)), .val (.int (1 : Int32)), .unset] [(.int (1 : Int32))])
    refine Go.st (fun _ => XS.goto X15.here hx rfl (pc0 := 136) (pc' := 155) rfl (hb hby at_136) (by decide) (by decide)) ?_
    show Go p e below s _ _ _ T15 (mkF m 155 #[.val (.int fl), .val (.int sa), .val (.int aa), .val (.int ca), .val (.int (1 : Int32)), .val (.int vx10), .val (.int vx11), .val (.int vx12), .val (.ref b13), .val (.int (vx11 + (1 : Int32))), .val (.int (vx11 + (1 : Int32))), .val (.int (1 : Int32)), .val (.int (1 : Int32)), .unset] [(.int (1 : Int32))])
    refine Go.st (fun _ => XS.istore X15.here hx rfl (hb hby at_155) rfl (l' := #[.val (.int fl), .val (.int sa), .val (.int aa), .val (.int ca), .val (.int (1 : Int32)), .val (.int vx10), .val (.int vx11), .val (.int vx12), .val (.ref b13), .val (.int (vx11 + (1 : Int32))), .val (.int (vx11 + (1 : Int32))), .val (.int (1 : Int32)), .val (.int (1 : Int32)), .val (.int (1 : Int32))]) rfl) ?_
    show Go p e below s _ _ _ T15 (mkF m 157 #[.val (.int fl), .val (.int sa), .val (.int aa), .val (.int ca), .val (.int (1 : Int32)), .val (.int vx10), .val (.int vx11), .val (.int vx12), .val (.ref b13), .val (.int (vx11 + (1 : Int32))), .val (.int (vx11 + (1 : Int32))), .val (.int (1 : Int32)), .val (.int (1 : Int32)), .val (.int (1 : Int32))] [])
    refine Go.st (fun _ => XS.iload X15.here hx rfl (hb hby at_157) rfl) ?_
    show Go p e below s _ _ _ T15 (mkF m 159 #[.val (.int fl), .val (.int sa), .val (.int aa), .val (.int ca), .val (.int (1 : Int32)), .val (.int vx10), .val (.int vx11), .val (.int vx12), .val (.ref b13), .val (.int (vx11 + (1 : Int32))), .val (.int (vx11 + (1 : Int32))), .val (.int (1 : Int32)), .val (.int (1 : Int32)), .val (.int (1 : Int32))] [(.int (1 : Int32))])
    refine Go.st (fun _ => XS.ifNo X15.here hx rfl (hb hby at_159) rfl ((if0 _ _).trans (feq (by decide : ¬ ((1 : Int32) = (0 : Int32)))).1)) ?_
    show Go p e below s _ _ _ T15 (mkF m 162 #[.val (.int fl), .val (.int sa), .val (.int aa), .val (.int ca), .val (.int (1 : Int32)), .val (.int vx10), .val (.int vx11), .val (.int vx12), .val (.ref b13), .val (.int (vx11 + (1 : Int32))), .val (.int (vx11 + (1 : Int32))), .val (.int (1 : Int32)), .val (.int (1 : Int32)), .val (.int (1 : Int32))] [])
    refine Go.st (fun _ => XS.iload X15.here hx rfl (hb hby at_162) rfl) ?_
    show Go p e below s _ _ _ T15 (mkF m 164 #[.val (.int fl), .val (.int sa), .val (.int aa), .val (.int ca), .val (.int (1 : Int32)), .val (.int vx10), .val (.int vx11), .val (.int vx12), .val (.ref b13), .val (.int (vx11 + (1 : Int32))), .val (.int (vx11 + (1 : Int32))), .val (.int (1 : Int32)), .val (.int (1 : Int32)), .val (.int (1 : Int32))] [(.int (1 : Int32))])
    refine Go.st (fun _ => XS.ifNo X15.here hx rfl (hb hby at_164) rfl ((if0 _ _).trans (feq (by decide : ¬ ((1 : Int32) = (0 : Int32)))).1)) ?_
    show Go p e below s _ _ _ T15 (mkF m 167 #[.val (.int fl), .val (.int sa), .val (.int aa), .val (.int ca), .val (.int (1 : Int32)), .val (.int vx10), .val (.int vx11), .val (.int vx12), .val (.ref b13), .val (.int (vx11 + (1 : Int32))), .val (.int (vx11 + (1 : Int32))), .val (.int (1 : Int32)), .val (.int (1 : Int32)), .val (.int (1 : Int32))] [])
    refine Go.st (fun _ => XS.iload X15.here hx rfl (hb hby at_167) rfl) ?_
    show Go p e below s _ _ _ T15 (mkF m 169 #[.val (.int fl), .val (.int sa), .val (.int aa), .val (.int ca), .val (.int (1 : Int32)), .val (.int vx10), .val (.int vx11), .val (.int vx12), .val (.ref b13), .val (.int (vx11 + (1 : Int32))), .val (.int (vx11 + (1 : Int32))), .val (.int (1 : Int32)), .val (.int (1 : Int32)), .val (.int (1 : Int32))] [(.int (1 : Int32))])
    refine Go.st (fun _ => XS.ifNo X15.here hx rfl (hb hby at_169) rfl ((if0 _ _).trans (feq (by decide : ¬ ((1 : Int32) = (0 : Int32)))).1)) ?_
    show Go p e below s _ _ _ T15 (mkF m 172 #[.val (.int fl), .val (.int sa), .val (.int aa), .val (.int ca), .val (.int (1 : Int32)), .val (.int vx10), .val (.int vx11), .val (.int vx12), .val (.ref b13), .val (.int (vx11 + (1 : Int32))), .val (.int (vx11 + (1 : Int32))), .val (.int (1 : Int32)), .val (.int (1 : Int32)), .val (.int (1 : Int32))] [])
    refine Go.st (fun _ => XS.iconst X15.here hx rfl (hb hby at_172)) ?_
    show Go p e below s _ _ _ T15 (mkF m 173 #[.val (.int fl), .val (.int sa), .val (.int aa), .val (.int ca), .val (.int (1 : Int32)), .val (.int vx10), .val (.int vx11), .val (.int vx12), .val (.ref b13), .val (.int (vx11 + (1 : Int32))), .val (.int (vx11 + (1 : Int32))), .val (.int (1 : Int32)), .val (.int (1 : Int32)), .val (.int (1 : Int32))] [(.int (1 : Int32))])
    refine Go.st (fun _ => XS.goto X15.here hx rfl (pc0 := 173) (pc' := 177) rfl (hb hby at_173) (by decide) (by decide)) ?_
    show Go p e below s _ _ _ T15 (mkF m 177 #[.val (.int fl), .val (.int sa), .val (.int aa), .val (.int ca), .val (.int (1 : Int32)), .val (.int vx10), .val (.int vx11), .val (.int vx12), .val (.ref b13), .val (.int (vx11 + (1 : Int32))), .val (.int (vx11 + (1 : Int32))), .val (.int (1 : Int32)), .val (.int (1 : Int32)), .val (.int (1 : Int32))] [(.int (1 : Int32))])
    exact Go.retZ X15 hx hlk Bd.returns (hb hby at_177) rfl (by rw [e15]; exact ⟨rfl, N15⟩) (by decide) (by decide)
set_option maxRecDepth 65536 in
set_option maxHeartbeats 40000000 in
theorem comes_1 {Post : Tables → Env → Array Value → State → Outcome → State → Prop} (hpost : ∀ tb e args s v u, (limb_1_1.after args s (.returned v) u = true ∧ limb_1_2.after args s (.returned v) u = true ∧ True) → FrameEnd s (.returned v) u (Jvm.fieldLocs frame_1_writes args s ++ Jvm.arrayLocs frame_1_arrays args s ++ Jvm.staticLocs frame_1_statics s) 16 128 → Post tb e args s (.returned v) u) :
    ArmFor flags0 classFile x code maxLocals ret World_1 tables_1 room_1 Calls_1 rest_1 Pre_1 Post := by
  intro l hfl _ _ p e ha hc hk s m args below hf hA hF happ hP
  obtain ⟨hcalls, hrest, hpre⟩ := hP
  obtain ⟨-, -, -, hnamed, -, -, -, hat⟩ := (Spec.applies_iff hf).mp happ
  obtain ⟨hg, hn⟩ := and_e (Cond.before_iff.mp (show (Jvm.Cond.and given_1 narrow_1).before args s = true from hpre))
  obtain ⟨g1, g2⟩ := and_e hg
  obtain ⟨g3, g4⟩ := and_e g2
  obtain ⟨g5, g6⟩ := and_e g4
  obtain ⟨g7, g8⟩ := and_e g6
  obtain ⟨w0, w1, w2, w3, rfl⟩ : ∃ w0 w1 w2 w3 : Value, args = #[w0, w1, w2, w3] := by
    have hs : args.size = 4 := by simpa [Cond.value, given_1] using g1
    obtain ⟨L⟩ := args
    match L, hs with
    | [w0, w1, w2, w3], _ => exact ⟨w0, w1, w2, w3, rfl⟩
  have hw := fun d (hd : d ∈ tables_1) => atoms_spec (ws := Jvm.Cond.code x code maxLocals ret :: tables_1) hat d (List.mem_cons_of_mem _ hd)
  have hfit : Fit s := fun {y c} hc i hi => by
    obtain ⟨ha, rfl⟩ := Array.getElem?_eq_some_iff.mp hc
    have q := List.all_eq_true.mp ((Array.all_eq_true_iff_forall_mem.mp hF) _ (Array.getElem_mem ha)) i (List.mem_range.mpr hi)
    simpa [Array.getElem?_eq_getElem hi] using q
  obtain ⟨i0, ei0⟩ := is_v g3
  obtain rfl : w0 = (.int i0) := Option.some.inj ei0
  obtain ⟨i1, ei1⟩ := is_v g5
  obtain rfl : w1 = (.int i1) := Option.some.inj ei1
  obtain ⟨i2, ei2⟩ := is_v g7
  obtain rfl : w2 = (.int i2) := Option.some.inj ei2
  obtain ⟨i3, ei3⟩ := is_v g8
  obtain rfl : w3 = (.int i3) := Option.some.inj ei3
  obtain ⟨n, o, h1, h2, h3, _, L, rfl, ⟨rfl, N⟩, hq⟩ := rm0 l s _ hw tables_1 i0 i1 i2 i3 s.heap s.heap.size (Nat.le_refl _)  p e ha hc hk s m _ below hf ((Spec.applies_iff_loose hf).mp happ).1 ⟨rfl, State.Warmed39.refl s, rfl⟩ trivial
  refine ⟨n, _, h1, h2, h3, hpost _ _ _ _ _ _ ⟨Cond.after_iff.mpr rfl, Cond.after_iff.mpr (eq_i res_at (Term.int_eval (1)) rfl), trivial⟩ ⟨hq.1, hq.2.1, (hq.2.2.sift fun y hy => Or.inr (N y hy)).mono (by decide) (by decide)⟩⟩
theorem main_1_1 : Claimed_1_1 := comes_1 fun _ _ _ _ _ _ h hF => ⟨h.1, hF⟩
theorem main_1_2 : Claimed_1_2 := comes_1 fun _ _ _ _ _ _ h hF => ⟨h.2.1, hF⟩
end Jvm.Pilot.@@N@@
namespace Jvm.Pilot.@@N@@
open Jvm Jvm.ClassFile Sem Op Lib Jvm.Free Jvm.Stand Jvm.Pilot.@@N@@.Jvm.D
/-! MADE BY PROGRAM (witnessworld.py) out of the Statement's table words and the real class files: 10 classes; the members and pool entries that the words name. The judged class is class 1, her method 1. -/
namespace start1
open Jvm.ClassFile
def u (s : String) : CpInfo := .utf8 (stringToUtf16 s)
/-- a pool by its gaps: so many unusable entries, then the entry; so many at the end -/
def gap : Nat → List CpInfo → List CpInfo
  | 0, r => r
  | n + 1, r => .unusable :: gap n r
def poolList (es : List (Nat × CpInfo)) (last : Nat) : List CpInfo := es.foldr (fun e r => gap e.1 (e.2 :: r)) (gap last [])
def pool (es : List (Nat × CpInfo)) (last : Nat) : Array CpInfo := ⟨poolList es last⟩
def fileOf (pool : Array CpInfo) (this : Nat) (attrs : Array Attribute := #[]) (ms : Array MethodInfo := #[]) (fl : Nat := 33) (sup : Nat := 0) (ifs : Array Nat := #[]) (fds : Array FieldInfo := #[]) : ClassFile where
  minorVersion := 0
  majorVersion := 65
  constantPool := pool
  accessFlags := fl
  thisClass := this
  superClass := sup
  interfaces := ifs
  fields := fds
  methods := ms
  attributes := attrs
def plain (name : String) (sup : Option ClassId) : Class where
  name := name
  kind := .ordinary
  loader := none
  accessFlags := 33
  super := sup
  interfaces := #[]
  cf := none
  fields := #[]
  methods := #[]
  instanceTypes := #[]
  staticTypes := #[]
  resolved := #[]
  callSites := []
  init := .initialized
  statics := none
  mirror := none

def pool0 : Array CpInfo := pool [(5, u "<init>"), (0, u "()V"), (1, .class_ 10), (1, u "java/lang/Object")] 113

def k0c0 : Code := { maxStack := 0, maxLocals := 1, code := object_method_1_code, exceptionTable := #[], attributes := #[] }
def k0m0 : Method := { name := "<init>", desc := "()V", sig := { parameters := [], returnType := none }, accessFlags := 1, code := some k0c0 }
/-- java/lang/Object -/
def k0 : Class := { plain "java/lang/Object" none with
  accessFlags := 33
  interfaces := #[]
  cf := some (fileOf pool0 8 #[] #[{ accessFlags := 1, nameIndex := 5, descriptorIndex := 6, attributes := #[] }] 33 0 #[] #[])
  fields := #[]
  methods := #[k0m0]
  instanceTypes := #[]
  staticTypes := #[]
  resolved := Array.replicate 124 none
  statics := none }

def pool1 : Array CpInfo := pool [(2, .class_ 4), (1, u "java/lang/Object"), (0, u "<init>"), (0, u "()V"), (0, .integer 65535), (0, .integer 2147483647), (0, .class_ 10), (0, u "kasane/service/Storage$Placement"), (0, .methodref 9 12), (0, .nameAndType 5 13), (0, u "(ZIII)V"), (0, .methodref 9 15), (0, .nameAndType 16 17), (0, u "copies"), (0, u "()I"), (0, .class_ 19), (0, u "kasane/service/PlacementCopiesPinLaw"), (2, u "law"), (0, u "(IIII)Z")] 7

def k1m0 : Method := { name := "<init>", desc := "()V", sig := { parameters := [], returnType := none }, accessFlags := 1, code := none }
def k1c1 : Code := { maxStack := 6, maxLocals := 14, code := code, exceptionTable := #[], attributes := #[] }
def k1m1 : Method := { name := "law", desc := "(IIII)Z", sig := { parameters := [.int, .int, .int, .int], returnType := some .boolean }, accessFlags := 9, code := some k1c1 }
/-- kasane/service/PlacementCopiesPinLaw -/
def k1 : Class := { plain "kasane/service/PlacementCopiesPinLaw" (some 0) with
  accessFlags := 49
  interfaces := #[]
  cf := some (fileOf pool1 18 #[] #[{ accessFlags := 1, nameIndex := 5, descriptorIndex := 6, attributes := #[] }, { accessFlags := 9, nameIndex := 22, descriptorIndex := 23, attributes := #[] }] 49 2 #[] #[])
  fields := #[]
  methods := #[k1m0, k1m1]
  instanceTypes := #[]
  staticTypes := #[]
  resolved := Array.replicate 31 none
  statics := none }

def pool2 : Array CpInfo := pool [(1, .methodref 2 3), (0, .class_ 4), (0, .nameAndType 5 6), (0, u "java/lang/Object"), (0, u "<init>"), (0, u "()V"), (0, .class_ 8), (0, u "java/lang/Record")] 13

def k2c0 : Code := { maxStack := 1, maxLocals := 1, code := jdk_30_method_1_code, exceptionTable := #[], attributes := #[] }
def k2m0 : Method := { name := "<init>", desc := "()V", sig := { parameters := [], returnType := none }, accessFlags := 4, code := some k2c0 }
/-- java/lang/Record -/
def k2 : Class := { plain "java/lang/Record" (some 0) with
  accessFlags := 1057
  interfaces := #[]
  cf := some (fileOf pool2 7 #[] #[{ accessFlags := 4, nameIndex := 5, descriptorIndex := 6, attributes := #[] }] 1057 2 #[] #[])
  fields := #[]
  methods := #[k2m0]
  instanceTypes := #[]
  staticTypes := #[]
  resolved := Array.replicate 22 none
  statics := none }

def pool3 : Array CpInfo := pool [(1, .methodref 2 3), (0, .class_ 4), (0, .nameAndType 5 6), (0, u "java/lang/Record"), (0, u "<init>"), (0, u "()V"), (0, .fieldref 8 9), (0, .class_ 10), (0, .nameAndType 11 12), (0, u "kasane/service/Storage$Placement"), (0, u "here"), (0, u "Z"), (0, .fieldref 8 14), (0, .nameAndType 15 16), (0, u "sent"), (0, u "I"), (0, .fieldref 8 18), (0, .nameAndType 19 16), (0, u "acknowledged"), (0, .fieldref 8 21), (0, .nameAndType 22 16), (0, u "superseded"), (12, u "(ZIII)V"), (3, u "copies"), (0, u "()I"), (7, .class_ 49), (0, u "kasane/service/Storage")] 22

def k3c0 : Code := { maxStack := 2, maxLocals := 5, code := prog_181_method_1_code, exceptionTable := #[], attributes := #[] }
def k3m0 : Method := { name := "<init>", desc := "(ZIII)V", sig := { parameters := [.boolean, .int, .int, .int], returnType := none }, accessFlags := 0, code := some k3c0 }
def k3c1 : Code := { maxStack := 2, maxLocals := 1, code := prog_181_method_2_code, exceptionTable := #[], attributes := #[] }
def k3m1 : Method := { name := "copies", desc := "()I", sig := { parameters := [], returnType := some .int }, accessFlags := 0, code := some k3c1 }
/-- kasane/service/Storage$Placement -/
def k3 : Class := { plain "kasane/service/Storage$Placement" (some 2) with
  accessFlags := 48
  interfaces := #[]
  cf := some (fileOf pool3 8 #[.nestHost 48] #[{ accessFlags := 0, nameIndex := 5, descriptorIndex := 35, attributes := #[] }, { accessFlags := 0, nameIndex := 39, descriptorIndex := 40, attributes := #[] }] 48 2 #[] #[{ accessFlags := 18, nameIndex := 11, descriptorIndex := 12, attributes := #[] }, { accessFlags := 18, nameIndex := 15, descriptorIndex := 16, attributes := #[] }, { accessFlags := 18, nameIndex := 19, descriptorIndex := 16, attributes := #[] }, { accessFlags := 18, nameIndex := 22, descriptorIndex := 16, attributes := #[] }])
  fields := #[{ name := "here", type := .boolean, accessFlags := 18, slot := 0, constantValue := 0 }, { name := "sent", type := .int, accessFlags := 18, slot := 1, constantValue := 0 }, { name := "acknowledged", type := .int, accessFlags := 18, slot := 2, constantValue := 0 }, { name := "superseded", type := .int, accessFlags := 18, slot := 3, constantValue := 0 }]
  methods := #[k3m0, k3m1]
  instanceTypes := #[.boolean, .int, .int, .int]
  staticTypes := #[]
  resolved := Array.replicate 72 none
  statics := none }

def pool4 : Array CpInfo := pool [(1, u "java/lang/Cloneable"), (0, .class_ 1), (0, u "java/lang/Object"), (0, .class_ 3)] 3

/-- java/lang/Cloneable -/
def k4 : Class := { plain "java/lang/Cloneable" (some 0) with
  accessFlags := 1537
  interfaces := #[]
  cf := some (fileOf pool4 2 #[] #[] 1537 4 #[] #[])
  fields := #[]
  methods := #[]
  instanceTypes := #[]
  staticTypes := #[]
  resolved := Array.replicate 8 none
  statics := none }

def pool5 : Array CpInfo := pool [(1, u "java/io/Serializable"), (0, .class_ 1), (0, u "java/lang/Object"), (0, .class_ 3)] 3

/-- java/io/Serializable -/
def k5 : Class := { plain "java/io/Serializable" (some 0) with
  accessFlags := 1537
  interfaces := #[]
  cf := some (fileOf pool5 2 #[] #[] 1537 4 #[] #[])
  fields := #[]
  methods := #[]
  instanceTypes := #[]
  staticTypes := #[]
  resolved := Array.replicate 8 none
  statics := none }

/-- the primitive byte -/
def k6 : Class := { plain "byte" none with kind := .primitive 'B', accessFlags := 0x411 }
/-- [B -/
def k7 : Class := { plain "[B" (some 0) with kind := .array 6 .byte, interfaces := #[4, 5], accessFlags := 1041 }

/-- the primitive int -/
def k8 : Class := { plain "int" none with kind := .primitive 'I', accessFlags := 0x411 }
/-- [I -/
def k9 : Class := { plain "[I" (some 0) with kind := .array 8 .int, interfaces := #[4, 5], accessFlags := 1041 }

def heap : Heap := #[]
def classes : Array Class := #[k0, k1, k2, k3, k4, k5, k6, k7, k8, k9]
def interned : List (Array UInt16 × Addr) := []
def slotsUsed : Nat := 0
def theMethod : MethodId := ⟨1, 1⟩
def args0 : Array Value := #[.int 5, .int 6, .int 7, .int 8]
def aboutOver (below : List Frame) : State where
  vm := { classes := classes, interned := interned.toArray }
  heap := heap
  slotsUsed := slotsUsed
  threads := #[{ frames := .invoking theMethod args0 :: below }]
def below0 : List Frame := [.native { method := ⟨0, 0⟩, args := #[] }]
def about1 : State := aboutOver below0
def p0 : Program := .bare "" "" ""
def e0 : Env := launch0.env 0 0 0
theorem w_frames : about1.frames = Frame.invoking theMethod args0 :: below0 := rfl
set_option maxRecDepth 65536 in
theorem w_args : argsFit about1.vm theMethod args0 = true := by decide +kernel
set_option maxRecDepth 65536 in
theorem w_heap : heapFits about1 = true := by decide +kernel
set_option maxRecDepth 65536 in
theorem w_runnable : about1.curStatus? = some .runnable := by decide +kernel
set_option maxRecDepth 65536 in
theorem w_alone : about1.alone = true := by decide +kernel
set_option maxRecDepth 65536 in
theorem w_named : about1.methodNamed? x = some theMethod := by decide +kernel
set_option maxRecDepth 65536 in
theorem w_hears : about1.hears theMethod below0 = true := by decide +kernel
set_option maxRecDepth 65536 in
theorem w_ripe : about1.ripe theMethod args0 below0 = true := by decide +kernel
theorem w_running : about1.status = .running := rfl
set_option maxRecDepth 65536 in
theorem w_room : about1.hasRoom e0.platform room_1 = true :=
  launch0.hasRoom_least _ room_1 (by decide +kernel) (by decide +kernel) (by decide +kernel) (by decide +kernel) (by decide +kernel) (by decide +kernel)
theorem allAtoms_all (ts : List Jvm.Cond) (a : Array Jvm.Value) (st : Jvm.State) : (allAtoms ts).before a st = ts.all (fun c => c.before a st) := by
  induction ts with
  | nil => rfl
  | cons c t ih =>
    show (Jvm.Cond.and c (allAtoms t)).before a st = _
    rw [Jvm.Cond.before_and, ih, List.all_cons]
def words1 : List Jvm.Cond := Jvm.Cond.code x code maxLocals ret :: tables_1
/-- a 'code' word, met by the world's own term for the bytes: nothing is compared byte by byte -/
theorem code_word {y : MethodName} {bytes : ByteArray} {mx : Nat} {rt : Option FieldType} {a : Array Value} {s : State} {m : MethodId} {meth : Method} {c : Code} (h1 : s.methodNamed? y = some m) (h2 : s.vm.method? m = some meth) (h3 : meth.code = some c) (h4 : c.code = bytes)
    (h5 : (c.maxLocals == mx && c.exceptionTable.isEmpty && decide (c.maxStack ≤ mostOperands) && decide (meth.sig.returnType = rt) && !meth.locks && decide (parseMethodDescriptor y.desc = some meth.sig)) = true) : (Jvm.Cond.code y bytes mx rt).before a s = true := by
  simp only [Bool.and_eq_true, beq_iff_eq, Bool.not_eq_true', decide_eq_true_eq] at h5
  obtain ⟨⟨⟨⟨⟨g1, g2⟩, g3⟩, g4⟩, g5⟩, g6⟩ := h5
  simp [Cond.before, Cond.holds, Cond.value, h1, h2, h3, h4, g1, g2, g3, g4, g5, g6]
def isCode : Jvm.Cond → Bool
  | .code _ _ _ _ => true
  | _ => false
theorem all_split {L : List Jvm.Cond} {P : Jvm.Cond → Bool} (h1 : L.all (fun c => isCode c || P c) = true) (h2 : ∀ c ∈ L.filter isCode, P c = true) : L.all P = true := by
  refine List.all_eq_true.mpr fun c hc => ?_
  have h := List.all_eq_true.mp h1 c hc
  rcases Bool.eq_false_or_eq_true (isCode c) with hi | hi
  · exact h2 c (List.mem_filter.mpr ⟨hc, hi⟩)
  · simpa [hi] using h
set_option maxRecDepth 65536 in
theorem w_c0 : (Jvm.Cond.code x code maxLocals ret).before args0 about1 = true := code_word (m := ⟨1, 1⟩) (meth := k1m1) (c := k1c1) (by decide +kernel) rfl rfl rfl (by decide +kernel)
set_option maxRecDepth 65536 in
theorem w_c1 : (Jvm.Cond.code ({ cls := "kasane/service/Storage$Placement", name := "<init>", desc := "(ZIII)V" } : Jvm.MethodName) prog_181_method_1_code (5 : Nat) (Option.none : Option Jvm.ClassFile.FieldType)).before args0 about1 = true := code_word (m := ⟨3, 0⟩) (meth := k3m0) (c := k3c0) (by decide +kernel) rfl rfl rfl (by decide +kernel)
set_option maxRecDepth 65536 in
theorem w_c2 : (Jvm.Cond.code ({ cls := "java/lang/Record", name := "<init>", desc := "()V" } : Jvm.MethodName) jdk_30_method_1_code (1 : Nat) (Option.none : Option Jvm.ClassFile.FieldType)).before args0 about1 = true := code_word (m := ⟨2, 0⟩) (meth := k2m0) (c := k2c0) (by decide +kernel) rfl rfl rfl (by decide +kernel)
set_option maxRecDepth 65536 in
theorem w_c3 : (Jvm.Cond.code ({ cls := "java/lang/Object", name := "<init>", desc := "()V" } : Jvm.MethodName) object_method_1_code (1 : Nat) (Option.none : Option Jvm.ClassFile.FieldType)).before args0 about1 = true := code_word (m := ⟨0, 0⟩) (meth := k0m0) (c := k0c0) (by decide +kernel) rfl rfl rfl (by decide +kernel)
set_option maxRecDepth 65536 in
theorem w_c4 : (Jvm.Cond.code ({ cls := "kasane/service/Storage$Placement", name := "copies", desc := "()I" } : Jvm.MethodName) prog_181_method_2_code (1 : Nat) (Option.some Jvm.ClassFile.FieldType.int)).before args0 about1 = true := code_word (m := ⟨3, 1⟩) (meth := k3m1) (c := k3c1) (by decide +kernel) rfl rfl rfl (by decide +kernel)
def codes1 : List Jvm.Cond := [Jvm.Cond.code x code maxLocals ret, Jvm.Cond.code ({ cls := "kasane/service/Storage$Placement", name := "<init>", desc := "(ZIII)V" } : Jvm.MethodName) prog_181_method_1_code (5 : Nat) (Option.none : Option Jvm.ClassFile.FieldType), Jvm.Cond.code ({ cls := "java/lang/Record", name := "<init>", desc := "()V" } : Jvm.MethodName) jdk_30_method_1_code (1 : Nat) (Option.none : Option Jvm.ClassFile.FieldType), Jvm.Cond.code ({ cls := "java/lang/Object", name := "<init>", desc := "()V" } : Jvm.MethodName) object_method_1_code (1 : Nat) (Option.none : Option Jvm.ClassFile.FieldType), Jvm.Cond.code ({ cls := "kasane/service/Storage$Placement", name := "copies", desc := "()I" } : Jvm.MethodName) prog_181_method_2_code (1 : Nat) (Option.some Jvm.ClassFile.FieldType.int)]
set_option maxRecDepth 65536 in
theorem codes_eq : words1.filter isCode = codes1 := rfl
theorem w_codes : ∀ c ∈ words1.filter isCode, c.before args0 about1 = true := by
  rw [codes_eq]
  intro c hc
  simp only [codes1, List.mem_cons, List.not_mem_nil, or_false] at hc
  rcases hc with rfl | rfl | rfl | rfl | rfl
  · exact w_c0
  · exact w_c1
  · exact w_c2
  · exact w_c3
  · exact w_c4
set_option maxRecDepth 65536 in
theorem w_t1 : (words1.take 24).all (fun c => isCode c || c.before args0 about1) = true := by decide +kernel
set_option maxRecDepth 65536 in
theorem w_t2 : (words1.drop 24).all (fun c => isCode c || c.before args0 about1) = true := by decide +kernel
theorem w_tables : (allAtoms (Jvm.Cond.code x code maxLocals ret :: tables_1)).before args0 about1 = true := by
  rw [allAtoms_all]
  show words1.all (fun c => c.before args0 about1) = true
  refine all_split ?_ w_codes
  rw [← List.take_append_drop 24 words1, List.all_append, w_t1, w_t2]
  rfl
set_option maxRecDepth 65536 in
theorem w_case : (Jvm.Cond.and given_1 narrow_1).before args0 about1 = true := by decide +kernel
theorem w_applies : (headSpec (Jvm.Cond.code x code maxLocals ret :: tables_1) room_1).applies x e0.platform about1 = true :=
  (Spec.applies_iff w_frames).mpr ⟨w_running, w_runnable, w_alone, w_named, w_hears, w_ripe, w_room, w_tables⟩
theorem atStart : AtStart classFile x code maxLocals ret World_1 tables_1 room_1 Calls_1 rest_1 Pre_1 launch0 p0 e0 about1 theMethod args0 below0 :=
  ⟨lists_1, trivial, launch0.admits_env _ _ _, launch0.least_env, fairChoices_fair.cas, fairChoices_fair.clock, w_frames, w_args, w_heap, w_applies, trivial, trivial, w_case⟩
end start1
theorem witness_1 : WitnessClaimed_1 := ⟨start1.p0, start1.e0, start1.about1, start1.theMethod, start1.args0, start1.below0, start1.atStart⟩
end Jvm.Pilot.@@N@@
