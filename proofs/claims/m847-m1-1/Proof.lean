import JvmDerived
import JvmDerived.Pilot.@@N@@Statement
import JvmDerived.Pilot.@@N@@Code
set_option linter.unusedVariables false
set_option linter.unusedSimpArgs false
namespace Jvm.OwnKit
open Sem ClassFile Op Lib Jvm.Stand Jvm.Free Jvm.LawKit Jvm.RoadKit
/-- from the frame g over T the run ends, and what it leaves is Q's -/
def Go (p : Program) (e : Env) (below : List Frame) (s : State) (Q : Option Value → Heap → List Loc → Prop) (C S : Nat) (T : State) (g : JFrame) : Prop :=
  ∃ s₂ o, Steps p.tables e below (T.setTop g) s₂ ∧ s₂.status = .running ∧ Ended s₂ below o ∧ ∃ v L, o = .returned v ∧ Q v s₂.heap L ∧ FrameEnd s o s₂ L C S
section OwnGo
variable {p : Program} {l : Launch} {e : Env} {R : Room} {s : State} {m : MethodId} {args : Array Value} {below : List Frame} {meth : Method} {c : Code} {T T' : State} {locs : List Loc} {cells slots : Nat} {Q : Option Value → Heap → List Loc → Prop} {C S : Nat} {g g' : JFrame}
theorem Go.st (h : ∀ t, Steps p.tables e below (T'.setTop g') t → Steps p.tables e below (T.setTop g) t) (k : Go p e below s Q C S T' g') : Go p e below s Q C S T g := by
  obtain ⟨s₂, o, h1, h2⟩ := k
  exact ⟨s₂, o, h _ h1, h2⟩
theorem Go.eq (q : g = g') (k : Go p e below s Q C S T g') : Go p e below s Q C S T g := q ▸ k
theorem Go.retV (X : Stand p l e R s m args below meth c T locs cells slots) (hx : p.tables.exec = Jvm.exec) (hlk : meth.locks = false) {pc : Nat} {Ls : Array Slot} {w : Value} {t : FieldType} {i : Instr} {rest : List Value} (hret : meth.sig.returnType = some t) (hn : narrow t w = w)
    (hi : (i = .ireturn ∧ (t = .int ∨ t = .boolean ∨ t = .byte ∨ t = .char ∨ t = .short) ∧ ∃ z, w = .int z) ∨ (i = .lreturn ∧ t = .long ∧ ∃ z, w = .long z) ∨ (i = .dreturn ∧ t = .double ∧ ∃ z, w = .double z) ∨ (i = .freturn ∧ t = .float ∧ ∃ z, w = .float z) ∨ (i = .areturn ∧ t.isReference = true ∧ w.isRef = true))
    (hd : decode c.code pc = .ok (i, 1)) (hQ : Q (some w) T.heap locs) (hc : cells ≤ C) (hs : slots ≤ S) : Go p e below s Q C S T (mkF m pc Ls (w :: rest)) := by
  obtain ⟨fs, hr, hrun, hended, hW, hsame⟩ := X.leave (v := some w) (fun h => by rw [hret] at h; cases h) hlk
  exact ⟨_, _, retOut X hx hret hn hi hd hr, hrun, hended, _, _, rfl, hQ, ⟨_, rfl⟩, hW, hsame.mono hc hs⟩
theorem Go.retI (X : Stand p l e R s m args below meth c T locs cells slots) (hx : p.tables.exec = Jvm.exec) (hlk : meth.locks = false) {pc : Nat} {Ls : Array Slot} {z : Int32} {rest : List Value} (hret : meth.sig.returnType = some .int) (hd : decode c.code pc = .ok (.ireturn, 1)) (hQ : Q (some (.int z)) T.heap locs) (hc : cells ≤ C) (hs : slots ≤ S) : Go p e below s Q C S T (mkF m pc Ls (.int z :: rest)) :=
  Go.retV X hx hlk hret rfl (Or.inl ⟨rfl, Or.inl rfl, _, rfl⟩) hd hQ hc hs
theorem Go.retZ (X : Stand p l e R s m args below meth c T locs cells slots) (hx : p.tables.exec = Jvm.exec) (hlk : meth.locks = false) {pc : Nat} {Ls : Array Slot} {z : Int32} {rest : List Value} (hret : meth.sig.returnType = some .boolean) (hd : decode c.code pc = .ok (.ireturn, 1)) (hn : narrow .boolean (.int z) = .int z) (hQ : Q (some (.int z)) T.heap locs) (hc : cells ≤ C) (hs : slots ≤ S) : Go p e below s Q C S T (mkF m pc Ls (.int z :: rest)) :=
  Go.retV X hx hlk hret hn (Or.inl ⟨rfl, Or.inr (Or.inl rfl), _, rfl⟩) hd hQ hc hs
theorem Go.retB (X : Stand p l e R s m args below meth c T locs cells slots) (hx : p.tables.exec = Jvm.exec) (hlk : meth.locks = false) {pc : Nat} {Ls : Array Slot} {z : Int32} {rest : List Value} (hret : meth.sig.returnType = some .byte) (hd : decode c.code pc = .ok (.ireturn, 1)) (hn : narrow .byte (.int z) = .int z) (hQ : Q (some (.int z)) T.heap locs) (hc : cells ≤ C) (hs : slots ≤ S) : Go p e below s Q C S T (mkF m pc Ls (.int z :: rest)) :=
  Go.retV X hx hlk hret hn (Or.inl ⟨rfl, Or.inr (Or.inr (Or.inl rfl)), _, rfl⟩) hd hQ hc hs
theorem Go.retC (X : Stand p l e R s m args below meth c T locs cells slots) (hx : p.tables.exec = Jvm.exec) (hlk : meth.locks = false) {pc : Nat} {Ls : Array Slot} {z : Int32} {rest : List Value} (hret : meth.sig.returnType = some .char) (hd : decode c.code pc = .ok (.ireturn, 1)) (hn : narrow .char (.int z) = .int z) (hQ : Q (some (.int z)) T.heap locs) (hc : cells ≤ C) (hs : slots ≤ S) : Go p e below s Q C S T (mkF m pc Ls (.int z :: rest)) :=
  Go.retV X hx hlk hret hn (Or.inl ⟨rfl, Or.inr (Or.inr (Or.inr (Or.inl rfl))), _, rfl⟩) hd hQ hc hs
theorem Go.retJ (X : Stand p l e R s m args below meth c T locs cells slots) (hx : p.tables.exec = Jvm.exec) (hlk : meth.locks = false) {pc : Nat} {Ls : Array Slot} {z : Int64} {rest : List Value} (hret : meth.sig.returnType = some .long) (hd : decode c.code pc = .ok (.lreturn, 1)) (hQ : Q (some (.long z)) T.heap locs) (hc : cells ≤ C) (hs : slots ≤ S) : Go p e below s Q C S T (mkF m pc Ls (.long z :: rest)) :=
  Go.retV X hx hlk hret rfl (Or.inr (Or.inl ⟨rfl, rfl, _, rfl⟩)) hd hQ hc hs
theorem own_nar_ref {t : FieldType} {w : Value} (hw : w.isRef = true) : narrow t w = w := by
  rcases ref_cases hw with rfl | ⟨_, rfl⟩ <;> cases t <;> rfl
theorem Go.retA (X : Stand p l e R s m args below meth c T locs cells slots) (hx : p.tables.exec = Jvm.exec) (hlk : meth.locks = false) {pc : Nat} {Ls : Array Slot} {w : Value} {t : FieldType} {rest : List Value} (hret : meth.sig.returnType = some t) (ht : t.isReference = true) (hw : w.isRef = true) (hd : decode c.code pc = .ok (.areturn, 1)) (hQ : Q (some w) T.heap locs) (hc : cells ≤ C) (hs : slots ≤ S) : Go p e below s Q C S T (mkF m pc Ls (w :: rest)) :=
  Go.retV X hx hlk hret (own_nar_ref hw) (Or.inr (Or.inr (Or.inr (Or.inr ⟨rfl, ht, hw⟩)))) hd hQ hc hs
theorem Go.ret0 (X : Stand p l e R s m args below meth c T locs cells slots) (hx : p.tables.exec = Jvm.exec) (hlk : meth.locks = false) {pc : Nat} {Ls : Array Slot} (hret : meth.sig.returnType = none) (hd : decode c.code pc = .ok (.return_, 1)) (hQ : Q none T.heap locs) (hc : cells ≤ C) (hs : slots ≤ S) : Go p e below s Q C S T (mkF m pc Ls []) := by
  obtain ⟨fs, hr, hrun, hended, hW, hsame⟩ := X.leave (v := none) (fun _ => rfl) hlk
  exact ⟨_, _, X.returnOut hx hret hd hr, hrun, hended, _, _, rfl, hQ, ⟨_, rfl⟩, hW, hsame.mono hc hs⟩
end OwnGo
/-- a proposition as Java's boolean -/
def b2i (P : Prop) [Decidable P] : Int32 := if P then 1 else 0
theorem b2i_pos {P : Prop} [Decidable P] (h : P) : b2i P = 1 := if_pos h
theorem b2i_neg {P : Prop} [Decidable P] (h : ¬ P) : b2i P = 0 := if_neg h
theorem b2i_ne {P : Prop} [Decidable P] (h : P) : ¬ b2i P = 0 := by rw [b2i_pos h]; decide
theorem b2i_zero {P : Prop} [Decidable P] (h : ¬ P) : b2i P = 0 := b2i_neg h
theorem own_b2i_t {P : Prop} [Decidable P] (h : P) : some (Value.int 1) = some (Value.int (b2i P)) := by rw [b2i_pos h]
theorem own_b2i_f {P : Prop} [Decidable P] (h : ¬ P) : some (Value.int 0) = some (Value.int (b2i P)) := by rw [b2i_neg h]
theorem own_nb (y : Int32) : nar .byte (y.toInt8.toInt32) = y.toInt8.toInt32 := by
  show y.toInt8.toInt32.toInt8.toInt32 = y.toInt8.toInt32
  simp
theorem own_nc (y : Int32) : nar .char (y.toUInt32.toUInt16.toUInt32.toInt32) = y.toUInt32.toUInt16.toUInt32.toInt32 := by
  show (y.toUInt32.toUInt16.toUInt32.toInt32).toUInt32.toUInt16.toUInt32.toInt32 = y.toUInt32.toUInt16.toUInt32.toInt32
  rw [UInt32.toUInt32_toInt32, UInt16.toUInt16_toUInt32]
theorem own_nbv (y : Int32) : narrow .byte (.int (y.toInt8.toInt32)) = .int (y.toInt8.toInt32) := congrArg Value.int (own_nb y)
theorem own_and1 (a : Int32) : a &&& (1 : Int32) = (0 : Int32) ∨ a &&& (1 : Int32) = (1 : Int32) := and_one a
theorem own_and3 (a : Int32) : a &&& (3 : Int32) = (0 : Int32) ∨ a &&& (3 : Int32) = (1 : Int32) ∨ a &&& (3 : Int32) = (2 : Int32) ∨ a &&& (3 : Int32) = (3 : Int32) := by
  have e := c_mask a 3 2 (by decide) (by decide)
  have h : (a &&& (3 : Int32)).toInt = 0 ∨ (a &&& (3 : Int32)).toInt = 1 ∨ (a &&& (3 : Int32)).toInt = 2 ∨ (a &&& (3 : Int32)).toInt = 3 := by omega
  rcases h with h | h | h | h
  · exact Or.inl (Int32.toInt_inj.mp (h.trans (by decide)))
  · exact Or.inr (Or.inl (Int32.toInt_inj.mp (h.trans (by decide))))
  · exact Or.inr (Or.inr (Or.inl (Int32.toInt_inj.mp (h.trans (by decide)))))
  · exact Or.inr (Or.inr (Or.inr (Int32.toInt_inj.mp (h.trans (by decide)))))
theorem own_ord {s : State} {args : Array Value} {t : Term} {a : Addr} {C n d : String} {k : Int32} (ev : t.eval args s none [] s = some (.ref a)) (h : (Jvm.Cond.eq (Term.field t C n d) (Term.int k)).value args s none s [] = some true) : Fld s s.heap a C n d (.int k) := by
  obtain ⟨u, w, hu, hw, k1, k2⟩ := cmp_v (Or.inl h)
  have hw' : (Term.int k).eval args s none [] s = some (.int k) := Term.int_eval k
  cases hw.symm.trans hw'
  obtain ⟨z, rfl⟩ : ∃ z, u = .int z := k2
  have hz : z = k := gotT (Cond.eq_ints hu hw') h
  subst hz
  exact Fld.start ((fld_at ev).symm.trans hu)
section OwnBounds
variable {c a b : Int32} {n : Int}
theorem own_i1 (h : c < a) (q : a.toInt ≤ b.toInt) : c < b := by rw [Int32.lt_iff_toInt_lt] at *; omega
theorem own_i2 (h : ¬ a < c) (q : a.toInt < b.toInt) : c < b := by rw [Int32.lt_iff_toInt_lt] at *; omega
theorem own_i3 (h : ¬ c < a) (q : b.toInt ≤ a.toInt) : ¬ c < b := by rw [Int32.lt_iff_toInt_lt] at *; omega
theorem own_i4 (h : a < c) (q : b.toInt ≤ a.toInt + 1) : ¬ c < b := by rw [Int32.lt_iff_toInt_lt] at *; omega
theorem own_j1 (h : c < a) (q : a.toInt ≤ b.toInt + 1) : ¬ b < c := by rw [Int32.lt_iff_toInt_lt] at *; omega
theorem own_j2 (h : ¬ a < c) (q : a.toInt ≤ b.toInt) : ¬ b < c := by rw [Int32.lt_iff_toInt_lt] at *; omega
theorem own_j3 (h : ¬ c < a) (q : b.toInt < a.toInt) : b < c := by rw [Int32.lt_iff_toInt_lt] at *; omega
theorem own_j4 (h : a < c) (q : b.toInt ≤ a.toInt) : b < c := by rw [Int32.lt_iff_toInt_lt] at *; omega
theorem own_k1 (h : c < a) (q : a.toInt ≤ b.toInt) : ¬ c = b := fun e => by rw [e, Int32.lt_iff_toInt_lt] at h; omega
theorem own_k2 (h : ¬ a < c) (q : a.toInt < b.toInt) : ¬ c = b := fun e => by rw [e, Int32.lt_iff_toInt_lt] at h; omega
theorem own_k3 (h : ¬ c < a) (q : b.toInt < a.toInt) : ¬ c = b := fun e => by rw [e, Int32.lt_iff_toInt_lt] at h; omega
theorem own_k4 (h : a < c) (q : b.toInt ≤ a.toInt) : ¬ c = b := fun e => by rw [e, Int32.lt_iff_toInt_lt] at h; omega
theorem own_c1 (h : c < a) (q : a.toInt = n) : c.toInt < n := by rw [Int32.lt_iff_toInt_lt] at h; omega
theorem own_c2 (h : ¬ a < c) (q : a.toInt = n) : c.toInt ≤ n := by rw [Int32.lt_iff_toInt_lt] at h; omega
theorem own_c3 (h : ¬ c < a) (q : a.toInt = n) : n ≤ c.toInt := by rw [Int32.lt_iff_toInt_lt] at h; omega
theorem own_c4 (h : a < c) (q : a.toInt = n) : n < c.toInt := by rw [Int32.lt_iff_toInt_lt] at h; omega
theorem own_c5 (h : c = a) (q : a.toInt = n) : c.toInt = n := by rw [h]; exact q
theorem own_c6 (h : ¬ c = a) (q : a.toInt = n) : ¬ c.toInt = n := fun e => h (Int32.toInt_inj.mp (e.trans q.symm))
end OwnBounds
theorem own_addc {a b c d : Int32} (h : b + c = d) : (a + b) + c = a + d := by rw [Int32.add_assoc, h]
theorem own_byte_of {v : Value} (h : fits .byte v = true) : ∃ w, v = .int w ∧ narrow .byte (.int w) = .int w := by
  cases v with
  | int w =>
    refine ⟨w, rfl, ?_⟩
    obtain ⟨h1, h2⟩ := rng_byte h
    have e := c_i2b w
    have e1 : (-128 : Int32).toInt = -128 := by decide
    have e2 : (127 : Int32).toInt = 127 := by decide
    rw [Int32.lt_iff_toInt_lt, e1] at h1
    rw [Int32.lt_iff_toInt_lt, e2] at h2
    have e3 : w.toInt8.toInt32 = w := Int32.toInt_inj.mp (by omega)
    exact congrArg Value.int e3
  | _ => simp [fits] at h
theorem own_arv_nostat {Z : State} {h : Heap} {a : Addr} {k : ClassId} {ty : FieldType} {z : Int32} {vs : List Value} {dv : Value} (F : Arv Z h a k ty z vs dv) : ∀ cell : Cell, h[a]? = some cell → cell.vm.isStatics = false := by
  obtain ⟨c, A, -⟩ := F
  intro cell hc
  cases A.1.symm.trans hc
  exact A.plain
theorem own_selP {s : State} {args : Array Value} {y y' : MethodName} (hsel : (Jvm.Cond.selects y'.cls y' y').before args s = true) (he : y.cls = y'.cls) (hp : s.PrivateAt y) (hi : (Jvm.Cond.instanceMethod y).before args s = true) (hy : y.cls ≠ "java/lang/invoke/MethodHandle" ∧ y.cls ≠ "java/lang/invoke/VarHandle") : (Jvm.Cond.selects y.cls y y).before args s = true := by
  obtain ⟨c2, r2, m2, -, -, q3, -, kP, hkP, hkPi⟩ := Cond.selects_spec hsel
  exact Jvm.Stand.selects_self_of_private (by rw [he]; exact findClass_of_methodNamed q3) hkP hkPi hp hi hy
theorem own_irr {a : Int32} : ¬ (a < a) := Int32.lt_irrefl
theorem own_irrL {a : Int64} : ¬ (a < a) := Int64.lt_irrefl
theorem own_sta_keep {Z : State} {h h' : Heap} {C n d : String} {v : Value} {ws : List Addr} (F : Sta Z h C n d v) (K : Keep h h' ws) (q : ∀ x ∈ ws, ∀ cell : Cell, h[x]? = some cell → cell.vm.isStatics = false) : Sta Z h' C n d v := by
  obtain ⟨cf, i, k, f, st, cell, h1, h2, h3, h4, h5, h6, h7⟩ := F
  refine ⟨cf, i, k, f, st, cell, h1, h2, h3, h4, K.2.1 _ _ h5 (fun hm => ?_), h6, h7⟩
  have := q _ hm _ h5
  rw [h6] at this
  cases this
end Jvm.OwnKit
namespace Jvm.Pilot.@@N@@
open Jvm Jvm.ClassFile Sem Op Lib Jvm.Free Jvm.Stand Jvm.LawKit Jvm.RoadKit Jvm.OwnKit Bundle Jvm.Pilot.@@N@@.Jvm.D
def own_ns (n : Int) : Bool := decide ((65 ≤ n ∧ n ≤ 90) ∨ (95 ≤ n ∧ n ≤ 95) ∨ (97 ≤ n ∧ n ≤ 122) ∨ (192 ≤ n ∧ n ≤ 214) ∨ (216 ≤ n ∧ n ≤ 246) ∨ (248 ≤ n ∧ n ≤ 767) ∨ (880 ≤ n ∧ n ≤ 893) ∨ (895 ≤ n ∧ n ≤ 8191) ∨ (8204 ≤ n ∧ n ≤ 8205) ∨ (8304 ≤ n ∧ n ≤ 8591) ∨ (11264 ≤ n ∧ n ≤ 12271) ∨ (12289 ≤ n ∧ n ≤ 55295) ∨ (63744 ≤ n ∧ n ≤ 64975) ∨ (65008 ≤ n ∧ n ≤ 65533) ∨ (65536 ≤ n ∧ n ≤ 983039) ∨ (55296 ≤ n ∧ n ≤ 56191))
def own_gap (n : Int) : Bool := decide (n < 65 ∨ (91 ≤ n ∧ n ≤ 94) ∨ (96 ≤ n ∧ n ≤ 96) ∨ (123 ≤ n ∧ n ≤ 191) ∨ (215 ≤ n ∧ n ≤ 215) ∨ (247 ≤ n ∧ n ≤ 247) ∨ (768 ≤ n ∧ n ≤ 879) ∨ (894 ≤ n ∧ n ≤ 894) ∨ (8192 ≤ n ∧ n ≤ 8203) ∨ (8206 ≤ n ∧ n ≤ 8303) ∨ (8592 ≤ n ∧ n ≤ 11263) ∨ (12272 ≤ n ∧ n ≤ 12288) ∨ (56192 ≤ n ∧ n ≤ 63743) ∨ (64976 ≤ n ∧ n ≤ 65007) ∨ (65534 ≤ n ∧ n ≤ 65535) ∨ 983039 < n)
theorem own_ns_t {n : Int} (h : (65 ≤ n ∧ n ≤ 90) ∨ (95 ≤ n ∧ n ≤ 95) ∨ (97 ≤ n ∧ n ≤ 122) ∨ (192 ≤ n ∧ n ≤ 214) ∨ (216 ≤ n ∧ n ≤ 246) ∨ (248 ≤ n ∧ n ≤ 767) ∨ (880 ≤ n ∧ n ≤ 893) ∨ (895 ≤ n ∧ n ≤ 8191) ∨ (8204 ≤ n ∧ n ≤ 8205) ∨ (8304 ≤ n ∧ n ≤ 8591) ∨ (11264 ≤ n ∧ n ≤ 12271) ∨ (12289 ≤ n ∧ n ≤ 55295) ∨ (63744 ≤ n ∧ n ≤ 64975) ∨ (65008 ≤ n ∧ n ≤ 65533) ∨ (65536 ≤ n ∧ n ≤ 983039) ∨ (55296 ≤ n ∧ n ≤ 56191)) : own_ns n = true := decide_eq_true h
theorem own_ns_f {n : Int} (h : ¬ ((65 ≤ n ∧ n ≤ 90) ∨ (95 ≤ n ∧ n ≤ 95) ∨ (97 ≤ n ∧ n ≤ 122) ∨ (192 ≤ n ∧ n ≤ 214) ∨ (216 ≤ n ∧ n ≤ 246) ∨ (248 ≤ n ∧ n ≤ 767) ∨ (880 ≤ n ∧ n ≤ 893) ∨ (895 ≤ n ∧ n ≤ 8191) ∨ (8204 ≤ n ∧ n ≤ 8205) ∨ (8304 ≤ n ∧ n ≤ 8591) ∨ (11264 ≤ n ∧ n ≤ 12271) ∨ (12289 ≤ n ∧ n ≤ 55295) ∨ (63744 ≤ n ∧ n ≤ 64975) ∨ (65008 ≤ n ∧ n ≤ 65533) ∨ (65536 ≤ n ∧ n ≤ 983039) ∨ (55296 ≤ n ∧ n ≤ 56191))) : ¬ own_ns n = true := fun q => h (of_decide_eq_true q)
theorem own_gap_t {n : Int} (h : n < 65 ∨ (91 ≤ n ∧ n ≤ 94) ∨ (96 ≤ n ∧ n ≤ 96) ∨ (123 ≤ n ∧ n ≤ 191) ∨ (215 ≤ n ∧ n ≤ 215) ∨ (247 ≤ n ∧ n ≤ 247) ∨ (768 ≤ n ∧ n ≤ 879) ∨ (894 ≤ n ∧ n ≤ 894) ∨ (8192 ≤ n ∧ n ≤ 8203) ∨ (8206 ≤ n ∧ n ≤ 8303) ∨ (8592 ≤ n ∧ n ≤ 11263) ∨ (12272 ≤ n ∧ n ≤ 12288) ∨ (56192 ≤ n ∧ n ≤ 63743) ∨ (64976 ≤ n ∧ n ≤ 65007) ∨ (65534 ≤ n ∧ n ≤ 65535) ∨ 983039 < n) : own_gap n = true := decide_eq_true h
theorem own_gap_f {n : Int} (h : ¬ (n < 65 ∨ (91 ≤ n ∧ n ≤ 94) ∨ (96 ≤ n ∧ n ≤ 96) ∨ (123 ≤ n ∧ n ≤ 191) ∨ (215 ≤ n ∧ n ≤ 215) ∨ (247 ≤ n ∧ n ≤ 247) ∨ (768 ≤ n ∧ n ≤ 879) ∨ (894 ≤ n ∧ n ≤ 894) ∨ (8192 ≤ n ∧ n ≤ 8203) ∨ (8206 ≤ n ∧ n ≤ 8303) ∨ (8592 ≤ n ∧ n ≤ 11263) ∨ (12272 ≤ n ∧ n ≤ 12288) ∨ (56192 ≤ n ∧ n ≤ 63743) ∨ (64976 ≤ n ∧ n ≤ 65007) ∨ (65534 ≤ n ∧ n ≤ 65535) ∨ 983039 < n)) : ¬ own_gap n = true := fun q => h (of_decide_eq_true q)
theorem own_no {n : Int} (h : own_ns n = true) : ¬ own_gap n = true := by
  have h1 := of_decide_eq_true h
  refine own_gap_f ?_
  rcases h1 with h1 | h1 | h1 | h1 | h1 | h1 | h1 | h1 | h1 | h1 | h1 | h1 | h1 | h1 | h1 | h1 <;> omega
theorem own_yes {n : Int} (h : ¬ own_ns n = true) : own_gap n = true := by
  refine own_gap_t ?_
  have h1 : ¬ ((65 ≤ n ∧ n ≤ 90) ∨ (95 ≤ n ∧ n ≤ 95) ∨ (97 ≤ n ∧ n ≤ 122) ∨ (192 ≤ n ∧ n ≤ 214) ∨ (216 ≤ n ∧ n ≤ 246) ∨ (248 ≤ n ∧ n ≤ 767) ∨ (880 ≤ n ∧ n ≤ 893) ∨ (895 ≤ n ∧ n ≤ 8191) ∨ (8204 ≤ n ∧ n ≤ 8205) ∨ (8304 ≤ n ∧ n ≤ 8591) ∨ (11264 ≤ n ∧ n ≤ 12271) ∨ (12289 ≤ n ∧ n ≤ 55295) ∨ (63744 ≤ n ∧ n ≤ 64975) ∨ (65008 ≤ n ∧ n ≤ 65533) ∨ (65536 ≤ n ∧ n ≤ 983039) ∨ (55296 ≤ n ∧ n ≤ 56191)) := fun q => h (own_ns_t q)
  omega
def own_isI : Value → Bool
  | .int _ => true
  | _ => false
theorem own_getint : ∀ (vs : List Value), vs.all own_isI = true → ∀ j : Nat, ∃ w, vs.getD j (.int (0 : Int32)) = .int w
  | [], _, j => ⟨0, by simp⟩
  | v :: vs, h, 0 => by
    simp only [List.all_cons, Bool.and_eq_true] at h
    cases v <;> first | exact ⟨_, rfl⟩ | (have := h.1; simp [own_isI] at this)
  | v :: vs, h, j + 1 => by
    simp only [List.all_cons, Bool.and_eq_true] at h
    obtain ⟨w, hw⟩ := own_getint vs h.2 j
    exact ⟨w, by simpa using hw⟩
theorem own_mod (a : Int32) : ¬ ((a &&& (2147483647 : Int32)) % (34 : Int32)) < 0 ∧ ((a &&& (2147483647 : Int32)) % (34 : Int32)) < (34 : Int32) := by
  have e1 := c_mask a 2147483647 31 (by decide) (by decide)
  have e2 := (c_irem (a &&& (2147483647 : Int32)) (34 : Int32) 34 (by decide)).1 (by rw [e1]; omega)
  have h1 : (34 : Int32).toInt = 34 := by decide
  have h0 : (0 : Int32).toInt = 0 := by decide
  rw [Int32.lt_iff_toInt_lt, Int32.lt_iff_toInt_lt, h0, h1]
  omega
theorem d1_0 : decode prog_57_method_3_code 0 = .ok (.iload_n 0, 1) := by decide +kernel
theorem d1_1 : decode prog_57_method_3_code 1 = .ok (.bipush 65, 2) := by decide +kernel
theorem d1_3 : decode prog_57_method_3_code 3 = .ok (.if_icmp .lt 9, 3) := by decide +kernel
theorem d1_12 : decode prog_57_method_3_code 12 = .ok (.iload_n 0, 1) := by decide +kernel
theorem d1_13 : decode prog_57_method_3_code 13 = .ok (.bipush 95, 2) := by decide +kernel
theorem d1_15 : decode prog_57_method_3_code 15 = .ok (.if_icmp .eq 188, 3) := by decide +kernel
theorem d1_18 : decode prog_57_method_3_code 18 = .ok (.iload_n 0, 1) := by decide +kernel
theorem d1_19 : decode prog_57_method_3_code 19 = .ok (.bipush 97, 2) := by decide +kernel
theorem d1_21 : decode prog_57_method_3_code 21 = .ok (.if_icmp .lt 9, 3) := by decide +kernel
theorem d1_30 : decode prog_57_method_3_code 30 = .ok (.iload_n 0, 1) := by decide +kernel
theorem d1_31 : decode prog_57_method_3_code 31 = .ok (.sipush 192, 3) := by decide +kernel
theorem d1_34 : decode prog_57_method_3_code 34 = .ok (.if_icmp .lt 10, 3) := by decide +kernel
theorem d1_44 : decode prog_57_method_3_code 44 = .ok (.iload_n 0, 1) := by decide +kernel
theorem d1_45 : decode prog_57_method_3_code 45 = .ok (.sipush 216, 3) := by decide +kernel
theorem d1_48 : decode prog_57_method_3_code 48 = .ok (.if_icmp .lt 10, 3) := by decide +kernel
theorem d1_58 : decode prog_57_method_3_code 58 = .ok (.iload_n 0, 1) := by decide +kernel
theorem d1_59 : decode prog_57_method_3_code 59 = .ok (.sipush 248, 3) := by decide +kernel
theorem d1_62 : decode prog_57_method_3_code 62 = .ok (.if_icmp .lt 10, 3) := by decide +kernel
theorem d1_72 : decode prog_57_method_3_code 72 = .ok (.iload_n 0, 1) := by decide +kernel
theorem d1_73 : decode prog_57_method_3_code 73 = .ok (.sipush 880, 3) := by decide +kernel
theorem d1_76 : decode prog_57_method_3_code 76 = .ok (.if_icmp .lt 10, 3) := by decide +kernel
theorem d1_86 : decode prog_57_method_3_code 86 = .ok (.iload_n 0, 1) := by decide +kernel
theorem d1_87 : decode prog_57_method_3_code 87 = .ok (.sipush 895, 3) := by decide +kernel
theorem d1_90 : decode prog_57_method_3_code 90 = .ok (.if_icmp .lt 10, 3) := by decide +kernel
theorem d1_100 : decode prog_57_method_3_code 100 = .ok (.iload_n 0, 1) := by decide +kernel
theorem d1_101 : decode prog_57_method_3_code 101 = .ok (.sipush 8204, 3) := by decide +kernel
theorem d1_104 : decode prog_57_method_3_code 104 = .ok (.if_icmp .lt 10, 3) := by decide +kernel
theorem d1_114 : decode prog_57_method_3_code 114 = .ok (.iload_n 0, 1) := by decide +kernel
theorem d1_115 : decode prog_57_method_3_code 115 = .ok (.sipush 8304, 3) := by decide +kernel
theorem d1_118 : decode prog_57_method_3_code 118 = .ok (.if_icmp .lt 10, 3) := by decide +kernel
theorem d1_128 : decode prog_57_method_3_code 128 = .ok (.iload_n 0, 1) := by decide +kernel
theorem d1_129 : decode prog_57_method_3_code 129 = .ok (.sipush 11264, 3) := by decide +kernel
theorem d1_132 : decode prog_57_method_3_code 132 = .ok (.if_icmp .lt 10, 3) := by decide +kernel
theorem d1_142 : decode prog_57_method_3_code 142 = .ok (.iload_n 0, 1) := by decide +kernel
theorem d1_143 : decode prog_57_method_3_code 143 = .ok (.sipush 12289, 3) := by decide +kernel
theorem d1_146 : decode prog_57_method_3_code 146 = .ok (.if_icmp .lt 9, 3) := by decide +kernel
theorem d1_155 : decode prog_57_method_3_code 155 = .ok (.iload_n 0, 1) := by decide +kernel
theorem d1_156 : decode prog_57_method_3_code 156 = .ok (.ldc 38, 2) := by decide +kernel
theorem d1_158 : decode prog_57_method_3_code 158 = .ok (.if_icmp .lt 9, 3) := by decide +kernel
theorem d1_167 : decode prog_57_method_3_code 167 = .ok (.iload_n 0, 1) := by decide +kernel
theorem d1_168 : decode prog_57_method_3_code 168 = .ok (.ldc 40, 2) := by decide +kernel
theorem d1_170 : decode prog_57_method_3_code 170 = .ok (.if_icmp .lt 9, 3) := by decide +kernel
theorem d1_179 : decode prog_57_method_3_code 179 = .ok (.iload_n 0, 1) := by decide +kernel
theorem d1_180 : decode prog_57_method_3_code 180 = .ok (.ldc 42, 2) := by decide +kernel
theorem d1_182 : decode prog_57_method_3_code 182 = .ok (.if_icmp .lt 9, 3) := by decide +kernel
theorem d1_191 : decode prog_57_method_3_code 191 = .ok (.iload_n 0, 1) := by decide +kernel
theorem d1_192 : decode prog_57_method_3_code 192 = .ok (.ldc 32, 2) := by decide +kernel
theorem d1_194 : decode prog_57_method_3_code 194 = .ok (.if_icmp .lt 13, 3) := by decide +kernel
theorem d1_207 : decode prog_57_method_3_code 207 = .ok (.iconst 0, 1) := by decide +kernel
theorem d1_208 : decode prog_57_method_3_code 208 = .ok (.ireturn, 1) := by decide +kernel
theorem d1_6 : decode prog_57_method_3_code 6 = .ok (.iload_n 0, 1) := by decide +kernel
theorem d1_7 : decode prog_57_method_3_code 7 = .ok (.bipush 90, 2) := by decide +kernel
theorem d1_9 : decode prog_57_method_3_code 9 = .ok (.if_icmp .le 194, 3) := by decide +kernel
theorem d1_203 : decode prog_57_method_3_code 203 = .ok (.iconst 1, 1) := by decide +kernel
theorem d1_204 : decode prog_57_method_3_code 204 = .ok (.goto 4, 3) := by decide +kernel
theorem d1_24 : decode prog_57_method_3_code 24 = .ok (.iload_n 0, 1) := by decide +kernel
theorem d1_25 : decode prog_57_method_3_code 25 = .ok (.bipush 122, 2) := by decide +kernel
theorem d1_27 : decode prog_57_method_3_code 27 = .ok (.if_icmp .le 176, 3) := by decide +kernel
theorem d1_37 : decode prog_57_method_3_code 37 = .ok (.iload_n 0, 1) := by decide +kernel
theorem d1_38 : decode prog_57_method_3_code 38 = .ok (.sipush 214, 3) := by decide +kernel
theorem d1_41 : decode prog_57_method_3_code 41 = .ok (.if_icmp .le 162, 3) := by decide +kernel
theorem d1_51 : decode prog_57_method_3_code 51 = .ok (.iload_n 0, 1) := by decide +kernel
theorem d1_52 : decode prog_57_method_3_code 52 = .ok (.sipush 246, 3) := by decide +kernel
theorem d1_55 : decode prog_57_method_3_code 55 = .ok (.if_icmp .le 148, 3) := by decide +kernel
theorem d1_65 : decode prog_57_method_3_code 65 = .ok (.iload_n 0, 1) := by decide +kernel
theorem d1_66 : decode prog_57_method_3_code 66 = .ok (.sipush 767, 3) := by decide +kernel
theorem d1_69 : decode prog_57_method_3_code 69 = .ok (.if_icmp .le 134, 3) := by decide +kernel
theorem d1_79 : decode prog_57_method_3_code 79 = .ok (.iload_n 0, 1) := by decide +kernel
theorem d1_80 : decode prog_57_method_3_code 80 = .ok (.sipush 893, 3) := by decide +kernel
theorem d1_83 : decode prog_57_method_3_code 83 = .ok (.if_icmp .le 120, 3) := by decide +kernel
theorem d1_93 : decode prog_57_method_3_code 93 = .ok (.iload_n 0, 1) := by decide +kernel
theorem d1_94 : decode prog_57_method_3_code 94 = .ok (.sipush 8191, 3) := by decide +kernel
theorem d1_97 : decode prog_57_method_3_code 97 = .ok (.if_icmp .le 106, 3) := by decide +kernel
theorem d1_107 : decode prog_57_method_3_code 107 = .ok (.iload_n 0, 1) := by decide +kernel
theorem d1_108 : decode prog_57_method_3_code 108 = .ok (.sipush 8205, 3) := by decide +kernel
theorem d1_111 : decode prog_57_method_3_code 111 = .ok (.if_icmp .le 92, 3) := by decide +kernel
theorem d1_121 : decode prog_57_method_3_code 121 = .ok (.iload_n 0, 1) := by decide +kernel
theorem d1_122 : decode prog_57_method_3_code 122 = .ok (.sipush 8591, 3) := by decide +kernel
theorem d1_125 : decode prog_57_method_3_code 125 = .ok (.if_icmp .le 78, 3) := by decide +kernel
theorem d1_135 : decode prog_57_method_3_code 135 = .ok (.iload_n 0, 1) := by decide +kernel
theorem d1_136 : decode prog_57_method_3_code 136 = .ok (.sipush 12271, 3) := by decide +kernel
theorem d1_139 : decode prog_57_method_3_code 139 = .ok (.if_icmp .le 64, 3) := by decide +kernel
theorem d1_149 : decode prog_57_method_3_code 149 = .ok (.iload_n 0, 1) := by decide +kernel
theorem d1_150 : decode prog_57_method_3_code 150 = .ok (.ldc 37, 2) := by decide +kernel
theorem d1_152 : decode prog_57_method_3_code 152 = .ok (.if_icmp .le 51, 3) := by decide +kernel
theorem d1_197 : decode prog_57_method_3_code 197 = .ok (.iload_n 0, 1) := by decide +kernel
theorem d1_198 : decode prog_57_method_3_code 198 = .ok (.ldc 44, 2) := by decide +kernel
theorem d1_200 : decode prog_57_method_3_code 200 = .ok (.if_icmp .gt 7, 3) := by decide +kernel
theorem d1_161 : decode prog_57_method_3_code 161 = .ok (.iload_n 0, 1) := by decide +kernel
theorem d1_162 : decode prog_57_method_3_code 162 = .ok (.ldc 39, 2) := by decide +kernel
theorem d1_164 : decode prog_57_method_3_code 164 = .ok (.if_icmp .le 39, 3) := by decide +kernel
theorem d1_173 : decode prog_57_method_3_code 173 = .ok (.iload_n 0, 1) := by decide +kernel
theorem d1_174 : decode prog_57_method_3_code 174 = .ok (.ldc 41, 2) := by decide +kernel
theorem d1_176 : decode prog_57_method_3_code 176 = .ok (.if_icmp .le 27, 3) := by decide +kernel
theorem d1_185 : decode prog_57_method_3_code 185 = .ok (.iload_n 0, 1) := by decide +kernel
theorem d1_186 : decode prog_57_method_3_code 186 = .ok (.ldc 43, 2) := by decide +kernel
theorem d1_188 : decode prog_57_method_3_code 188 = .ok (.if_icmp .le 15, 3) := by decide +kernel
theorem pn_0 : plainName "com/example/moat/moat/xpath/Names" = true := by first | (simp [plainName, overriddenIn]; done) | decide +kernel
theorem ef_rm1 (m : MethodId) (k : Int32) : entryFrame m #[(.int k)] 1 = mkF m 0 #[.val (.int k)] [] := by first | (simp [entryFrame, mkF, argsToLocals, Value.category]; done) | rfl
def Qrm1 (Z : State) (k : Int32) (h0 : Heap) (n0 : Nat) (rV : Option Value) (hE : Heap) (LE : List Loc) : Prop := rV = some (.int (b2i (own_ns k.toInt = true))) ∧ Fr n0 LE ∧ hE = h0
set_option maxRecDepth 65536 in
set_option maxHeartbeats 40000000 in
theorem rm1 (l : Launch) (Z : State) (a0 : Array Value) (hw : ∀ d ∈ tables_1, d.before a0 Z = true) (ws : List Jvm.Cond) (k : Int32) (h0 : Heap) (n0 : Nat) (Z0 : n0 ≤ h0.size) :
    MetFree l (⟨"com/example/moat/moat/xpath/Names", "isNameStart", "(I)Z"⟩ : MethodName) (head1 (Jvm.Cond.code (⟨"com/example/moat/moat/xpath/Names", "isNameStart", "(I)Z"⟩ : MethodName) prog_57_method_3_code 1 (some .boolean) :: ws) ({ frames := 0, cells := 0, slots := 0, locals := 0 } : Room)) (fun aA UA => aA = #[(.int k)] ∧ Z.Warmed39 UA.vm ∧ UA.heap = h0) (fun _ _ _ _ _ => True) (fun _ UA oA UB => ∃ rV LE, oA = .returned rV ∧ Qrm1 Z k h0 n0 rV UB.heap LE ∧ FrameEnd UA oA UB LE ({ frames := 0, cells := 0, slots := 0, locals := 0 } : Room).cells ({ frames := 0, cells := 0, slots := 0, locals := 0 } : Room).slots) := by
  refine MetFree.of_bodySF (plainFor_of_name pn_0) hisR ?_
  intro p e s m args below meth c s₁ Bd hml0 hP hK
  obtain ⟨rfl, hZ, hh⟩ := hP
  have hx := Bd.exec
  have hby := Bd.bytes
  have hml : c.maxLocals = 1 := hml0
  have hown : s.vm.findClass "com/example/moat/moat/xpath/Names" = some m.cls := findClass_of_methodNamed Bd.named
  have hnm := (name_of_methodNamed Bd.named Bd.method).1
  have hlk := Bd.notSynchronized
  have X0 : Stand p l e ({ frames := 0, cells := 0, slots := 0, locals := 0 } : Room) s m #[(.int k)] below meth c s₁ [] 0 0 := Stand.of_body Bd
  have e0 : s₁.heap = h0 := by rw [← hh, Bd.state]; rfl
  have N0 := Fr.nil n0
  show Go p e below s (Qrm1 Z k h0 n0) ({ frames := 0, cells := 0, slots := 0, locals := 0 } : Room).cells ({ frames := 0, cells := 0, slots := 0, locals := 0 } : Room).slots s₁ (entryFrame m #[(.int k)] 1)
  refine Go.eq (ef_rm1 m k) ?_
  show Go p e below s _ _ _ s₁ (mkF m 0 #[.val (.int k)] [])
  refine Go.st (fun _ => XS.iloadN X0.here hx rfl (hb hby d1_0) rfl) ?_
  show Go p e below s _ _ _ s₁ (mkF m 1 #[.val (.int k)] [(.int k)])
  refine Go.st (fun _ => XS.bipush X0.here hx rfl (hb hby d1_1)) ?_
  show Go p e below s _ _ _ s₁ (mkF m 3 #[.val (.int k)] [(.int (65 : Int32)), (.int k)])
  by_cases hc_1 : k < (65 : Int32)
  · refine Go.st (fun _ => XS.icmpYes X0.here hx rfl (pc0 := 3) (pc' := 12) rfl (hb hby d1_3) rfl (tlt hc_1).1 (by decide) (by decide)) ?_
    show Go p e below s _ _ _ s₁ (mkF m 12 #[.val (.int k)] [])
    refine Go.st (fun _ => XS.iloadN X0.here hx rfl (hb hby d1_12) rfl) ?_
    show Go p e below s _ _ _ s₁ (mkF m 13 #[.val (.int k)] [(.int k)])
    refine Go.st (fun _ => XS.bipush X0.here hx rfl (hb hby d1_13)) ?_
    show Go p e below s _ _ _ s₁ (mkF m 15 #[.val (.int k)] [(.int (95 : Int32)), (.int k)])
    refine Go.st (fun _ => XS.icmpNo X0.here hx rfl (hb hby d1_15) rfl (feq (own_k1 hc_1 (by decide) : ¬ (k = (95 : Int32)))).1) ?_
    show Go p e below s _ _ _ s₁ (mkF m 18 #[.val (.int k)] [])
    refine Go.st (fun _ => XS.iloadN X0.here hx rfl (hb hby d1_18) rfl) ?_
    show Go p e below s _ _ _ s₁ (mkF m 19 #[.val (.int k)] [(.int k)])
    refine Go.st (fun _ => XS.bipush X0.here hx rfl (hb hby d1_19)) ?_
    show Go p e below s _ _ _ s₁ (mkF m 21 #[.val (.int k)] [(.int (97 : Int32)), (.int k)])
    refine Go.st (fun _ => XS.icmpYes X0.here hx rfl (pc0 := 21) (pc' := 30) rfl (hb hby d1_21) rfl (tlt (own_i1 hc_1 (by decide) : k < (97 : Int32))).1 (by decide) (by decide)) ?_
    show Go p e below s _ _ _ s₁ (mkF m 30 #[.val (.int k)] [])
    refine Go.st (fun _ => XS.iloadN X0.here hx rfl (hb hby d1_30) rfl) ?_
    show Go p e below s _ _ _ s₁ (mkF m 31 #[.val (.int k)] [(.int k)])
    refine Go.st (fun _ => XS.sipush X0.here hx rfl (hb hby d1_31)) ?_
    show Go p e below s _ _ _ s₁ (mkF m 34 #[.val (.int k)] [(.int (192 : Int32)), (.int k)])
    refine Go.st (fun _ => XS.icmpYes X0.here hx rfl (pc0 := 34) (pc' := 44) rfl (hb hby d1_34) rfl (tlt (own_i1 hc_1 (by decide) : k < (192 : Int32))).1 (by decide) (by decide)) ?_
    show Go p e below s _ _ _ s₁ (mkF m 44 #[.val (.int k)] [])
    refine Go.st (fun _ => XS.iloadN X0.here hx rfl (hb hby d1_44) rfl) ?_
    show Go p e below s _ _ _ s₁ (mkF m 45 #[.val (.int k)] [(.int k)])
    refine Go.st (fun _ => XS.sipush X0.here hx rfl (hb hby d1_45)) ?_
    show Go p e below s _ _ _ s₁ (mkF m 48 #[.val (.int k)] [(.int (216 : Int32)), (.int k)])
    refine Go.st (fun _ => XS.icmpYes X0.here hx rfl (pc0 := 48) (pc' := 58) rfl (hb hby d1_48) rfl (tlt (own_i1 hc_1 (by decide) : k < (216 : Int32))).1 (by decide) (by decide)) ?_
    show Go p e below s _ _ _ s₁ (mkF m 58 #[.val (.int k)] [])
    refine Go.st (fun _ => XS.iloadN X0.here hx rfl (hb hby d1_58) rfl) ?_
    show Go p e below s _ _ _ s₁ (mkF m 59 #[.val (.int k)] [(.int k)])
    refine Go.st (fun _ => XS.sipush X0.here hx rfl (hb hby d1_59)) ?_
    show Go p e below s _ _ _ s₁ (mkF m 62 #[.val (.int k)] [(.int (248 : Int32)), (.int k)])
    refine Go.st (fun _ => XS.icmpYes X0.here hx rfl (pc0 := 62) (pc' := 72) rfl (hb hby d1_62) rfl (tlt (own_i1 hc_1 (by decide) : k < (248 : Int32))).1 (by decide) (by decide)) ?_
    show Go p e below s _ _ _ s₁ (mkF m 72 #[.val (.int k)] [])
    refine Go.st (fun _ => XS.iloadN X0.here hx rfl (hb hby d1_72) rfl) ?_
    show Go p e below s _ _ _ s₁ (mkF m 73 #[.val (.int k)] [(.int k)])
    refine Go.st (fun _ => XS.sipush X0.here hx rfl (hb hby d1_73)) ?_
    show Go p e below s _ _ _ s₁ (mkF m 76 #[.val (.int k)] [(.int (880 : Int32)), (.int k)])
    refine Go.st (fun _ => XS.icmpYes X0.here hx rfl (pc0 := 76) (pc' := 86) rfl (hb hby d1_76) rfl (tlt (own_i1 hc_1 (by decide) : k < (880 : Int32))).1 (by decide) (by decide)) ?_
    show Go p e below s _ _ _ s₁ (mkF m 86 #[.val (.int k)] [])
    refine Go.st (fun _ => XS.iloadN X0.here hx rfl (hb hby d1_86) rfl) ?_
    show Go p e below s _ _ _ s₁ (mkF m 87 #[.val (.int k)] [(.int k)])
    refine Go.st (fun _ => XS.sipush X0.here hx rfl (hb hby d1_87)) ?_
    show Go p e below s _ _ _ s₁ (mkF m 90 #[.val (.int k)] [(.int (895 : Int32)), (.int k)])
    refine Go.st (fun _ => XS.icmpYes X0.here hx rfl (pc0 := 90) (pc' := 100) rfl (hb hby d1_90) rfl (tlt (own_i1 hc_1 (by decide) : k < (895 : Int32))).1 (by decide) (by decide)) ?_
    show Go p e below s _ _ _ s₁ (mkF m 100 #[.val (.int k)] [])
    refine Go.st (fun _ => XS.iloadN X0.here hx rfl (hb hby d1_100) rfl) ?_
    show Go p e below s _ _ _ s₁ (mkF m 101 #[.val (.int k)] [(.int k)])
    refine Go.st (fun _ => XS.sipush X0.here hx rfl (hb hby d1_101)) ?_
    show Go p e below s _ _ _ s₁ (mkF m 104 #[.val (.int k)] [(.int (8204 : Int32)), (.int k)])
    refine Go.st (fun _ => XS.icmpYes X0.here hx rfl (pc0 := 104) (pc' := 114) rfl (hb hby d1_104) rfl (tlt (own_i1 hc_1 (by decide) : k < (8204 : Int32))).1 (by decide) (by decide)) ?_
    show Go p e below s _ _ _ s₁ (mkF m 114 #[.val (.int k)] [])
    refine Go.st (fun _ => XS.iloadN X0.here hx rfl (hb hby d1_114) rfl) ?_
    show Go p e below s _ _ _ s₁ (mkF m 115 #[.val (.int k)] [(.int k)])
    refine Go.st (fun _ => XS.sipush X0.here hx rfl (hb hby d1_115)) ?_
    show Go p e below s _ _ _ s₁ (mkF m 118 #[.val (.int k)] [(.int (8304 : Int32)), (.int k)])
    refine Go.st (fun _ => XS.icmpYes X0.here hx rfl (pc0 := 118) (pc' := 128) rfl (hb hby d1_118) rfl (tlt (own_i1 hc_1 (by decide) : k < (8304 : Int32))).1 (by decide) (by decide)) ?_
    show Go p e below s _ _ _ s₁ (mkF m 128 #[.val (.int k)] [])
    refine Go.st (fun _ => XS.iloadN X0.here hx rfl (hb hby d1_128) rfl) ?_
    show Go p e below s _ _ _ s₁ (mkF m 129 #[.val (.int k)] [(.int k)])
    refine Go.st (fun _ => XS.sipush X0.here hx rfl (hb hby d1_129)) ?_
    show Go p e below s _ _ _ s₁ (mkF m 132 #[.val (.int k)] [(.int (11264 : Int32)), (.int k)])
    refine Go.st (fun _ => XS.icmpYes X0.here hx rfl (pc0 := 132) (pc' := 142) rfl (hb hby d1_132) rfl (tlt (own_i1 hc_1 (by decide) : k < (11264 : Int32))).1 (by decide) (by decide)) ?_
    show Go p e below s _ _ _ s₁ (mkF m 142 #[.val (.int k)] [])
    refine Go.st (fun _ => XS.iloadN X0.here hx rfl (hb hby d1_142) rfl) ?_
    show Go p e below s _ _ _ s₁ (mkF m 143 #[.val (.int k)] [(.int k)])
    refine Go.st (fun _ => XS.sipush X0.here hx rfl (hb hby d1_143)) ?_
    show Go p e below s _ _ _ s₁ (mkF m 146 #[.val (.int k)] [(.int (12289 : Int32)), (.int k)])
    refine Go.st (fun _ => XS.icmpYes X0.here hx rfl (pc0 := 146) (pc' := 155) rfl (hb hby d1_146) rfl (tlt (own_i1 hc_1 (by decide) : k < (12289 : Int32))).1 (by decide) (by decide)) ?_
    show Go p e below s _ _ _ s₁ (mkF m 155 #[.val (.int k)] [])
    refine Go.st (fun _ => XS.iloadN X0.here hx rfl (hb hby d1_155) rfl) ?_
    show Go p e below s _ _ _ s₁ (mkF m 156 #[.val (.int k)] [(.int k)])
    refine Go.st (fun tG => X0.ldcInt hx hown (mvT hZ (hw _ (List.mem_of_getElem? (i := 16) rfl))) (g := (mkF m 156 #[.val (.int k)] [(.int k)])) rfl (hb hby d1_156) tG) ?_
    show Go p e below s _ _ _ s₁ (mkF m 158 #[.val (.int k)] [(.int (63744 : Int32)), (.int k)])
    refine Go.st (fun _ => XS.icmpYes X0.here hx rfl (pc0 := 158) (pc' := 167) rfl (hb hby d1_158) rfl (tlt (own_i1 hc_1 (by decide) : k < (63744 : Int32))).1 (by decide) (by decide)) ?_
    show Go p e below s _ _ _ s₁ (mkF m 167 #[.val (.int k)] [])
    refine Go.st (fun _ => XS.iloadN X0.here hx rfl (hb hby d1_167) rfl) ?_
    show Go p e below s _ _ _ s₁ (mkF m 168 #[.val (.int k)] [(.int k)])
    refine Go.st (fun tG => X0.ldcInt hx hown (mvT hZ (hw _ (List.mem_of_getElem? (i := 17) rfl))) (g := (mkF m 168 #[.val (.int k)] [(.int k)])) rfl (hb hby d1_168) tG) ?_
    show Go p e below s _ _ _ s₁ (mkF m 170 #[.val (.int k)] [(.int (65008 : Int32)), (.int k)])
    refine Go.st (fun _ => XS.icmpYes X0.here hx rfl (pc0 := 170) (pc' := 179) rfl (hb hby d1_170) rfl (tlt (own_i1 hc_1 (by decide) : k < (65008 : Int32))).1 (by decide) (by decide)) ?_
    show Go p e below s _ _ _ s₁ (mkF m 179 #[.val (.int k)] [])
    refine Go.st (fun _ => XS.iloadN X0.here hx rfl (hb hby d1_179) rfl) ?_
    show Go p e below s _ _ _ s₁ (mkF m 180 #[.val (.int k)] [(.int k)])
    refine Go.st (fun tG => X0.ldcInt hx hown (mvT hZ (hw _ (List.mem_of_getElem? (i := 18) rfl))) (g := (mkF m 180 #[.val (.int k)] [(.int k)])) rfl (hb hby d1_180) tG) ?_
    show Go p e below s _ _ _ s₁ (mkF m 182 #[.val (.int k)] [(.int (65536 : Int32)), (.int k)])
    refine Go.st (fun _ => XS.icmpYes X0.here hx rfl (pc0 := 182) (pc' := 191) rfl (hb hby d1_182) rfl (tlt (own_i1 hc_1 (by decide) : k < (65536 : Int32))).1 (by decide) (by decide)) ?_
    show Go p e below s _ _ _ s₁ (mkF m 191 #[.val (.int k)] [])
    refine Go.st (fun _ => XS.iloadN X0.here hx rfl (hb hby d1_191) rfl) ?_
    show Go p e below s _ _ _ s₁ (mkF m 192 #[.val (.int k)] [(.int k)])
    refine Go.st (fun tG => X0.ldcInt hx hown (mvT hZ (hw _ (List.mem_of_getElem? (i := 19) rfl))) (g := (mkF m 192 #[.val (.int k)] [(.int k)])) rfl (hb hby d1_192) tG) ?_
    show Go p e below s _ _ _ s₁ (mkF m 194 #[.val (.int k)] [(.int (55296 : Int32)), (.int k)])
    refine Go.st (fun _ => XS.icmpYes X0.here hx rfl (pc0 := 194) (pc' := 207) rfl (hb hby d1_194) rfl (tlt (own_i1 hc_1 (by decide) : k < (55296 : Int32))).1 (by decide) (by decide)) ?_
    show Go p e below s _ _ _ s₁ (mkF m 207 #[.val (.int k)] [])
    refine Go.st (fun _ => XS.iconst X0.here hx rfl (hb hby d1_207)) ?_
    show Go p e below s _ _ _ s₁ (mkF m 208 #[.val (.int k)] [(.int (0 : Int32))])
    exact Go.retZ X0 hx hlk Bd.returns (hb hby d1_208) rfl (by rw [e0]; exact ⟨(own_b2i_f (by have := own_c1 hc_1 (by decide : (65 : Int32).toInt = 65); exact own_ns_f (by omega))), N0, rfl⟩) (by decide) (by decide)
  · refine Go.st (fun _ => XS.icmpNo X0.here hx rfl (hb hby d1_3) rfl (flt hc_1).1) ?_
    show Go p e below s _ _ _ s₁ (mkF m 6 #[.val (.int k)] [])
    refine Go.st (fun _ => XS.iloadN X0.here hx rfl (hb hby d1_6) rfl) ?_
    show Go p e below s _ _ _ s₁ (mkF m 7 #[.val (.int k)] [(.int k)])
    refine Go.st (fun _ => XS.bipush X0.here hx rfl (hb hby d1_7)) ?_
    show Go p e below s _ _ _ s₁ (mkF m 9 #[.val (.int k)] [(.int (90 : Int32)), (.int k)])
    by_cases hc_2 : (90 : Int32) < k
    · refine Go.st (fun _ => XS.icmpNo X0.here hx rfl (hb hby d1_9) rfl (tlt hc_2).2.2.2) ?_
      show Go p e below s _ _ _ s₁ (mkF m 12 #[.val (.int k)] [])
      refine Go.st (fun _ => XS.iloadN X0.here hx rfl (hb hby d1_12) rfl) ?_
      show Go p e below s _ _ _ s₁ (mkF m 13 #[.val (.int k)] [(.int k)])
      refine Go.st (fun _ => XS.bipush X0.here hx rfl (hb hby d1_13)) ?_
      show Go p e below s _ _ _ s₁ (mkF m 15 #[.val (.int k)] [(.int (95 : Int32)), (.int k)])
      by_cases hc_3 : k = (95 : Int32)
      · refine Go.st (fun _ => XS.icmpYes X0.here hx rfl (pc0 := 15) (pc' := 203) rfl (hb hby d1_15) rfl (teq hc_3).1 (by decide) (by decide)) ?_
        show Go p e below s _ _ _ s₁ (mkF m 203 #[.val (.int k)] [])
        refine Go.st (fun _ => XS.iconst X0.here hx rfl (hb hby d1_203)) ?_
        show Go p e below s _ _ _ s₁ (mkF m 204 #[.val (.int k)] [(.int (1 : Int32))])
        refine Go.st (fun _ => XS.goto X0.here hx rfl (pc0 := 204) (pc' := 208) rfl (hb hby d1_204) (by decide) (by decide)) ?_
        show Go p e below s _ _ _ s₁ (mkF m 208 #[.val (.int k)] [(.int (1 : Int32))])
        exact Go.retZ X0 hx hlk Bd.returns (hb hby d1_208) rfl (by rw [e0]; exact ⟨(own_b2i_t (by have := own_c4 hc_2 (by decide : (90 : Int32).toInt = 90); have := own_c5 hc_3 (by decide : (95 : Int32).toInt = 95); exact own_ns_t (by omega))), N0, rfl⟩) (by decide) (by decide)
      · refine Go.st (fun _ => XS.icmpNo X0.here hx rfl (hb hby d1_15) rfl (feq hc_3).1) ?_
        show Go p e below s _ _ _ s₁ (mkF m 18 #[.val (.int k)] [])
        refine Go.st (fun _ => XS.iloadN X0.here hx rfl (hb hby d1_18) rfl) ?_
        show Go p e below s _ _ _ s₁ (mkF m 19 #[.val (.int k)] [(.int k)])
        refine Go.st (fun _ => XS.bipush X0.here hx rfl (hb hby d1_19)) ?_
        show Go p e below s _ _ _ s₁ (mkF m 21 #[.val (.int k)] [(.int (97 : Int32)), (.int k)])
        by_cases hc_4 : k < (97 : Int32)
        · refine Go.st (fun _ => XS.icmpYes X0.here hx rfl (pc0 := 21) (pc' := 30) rfl (hb hby d1_21) rfl (tlt hc_4).1 (by decide) (by decide)) ?_
          show Go p e below s _ _ _ s₁ (mkF m 30 #[.val (.int k)] [])
          refine Go.st (fun _ => XS.iloadN X0.here hx rfl (hb hby d1_30) rfl) ?_
          show Go p e below s _ _ _ s₁ (mkF m 31 #[.val (.int k)] [(.int k)])
          refine Go.st (fun _ => XS.sipush X0.here hx rfl (hb hby d1_31)) ?_
          show Go p e below s _ _ _ s₁ (mkF m 34 #[.val (.int k)] [(.int (192 : Int32)), (.int k)])
          refine Go.st (fun _ => XS.icmpYes X0.here hx rfl (pc0 := 34) (pc' := 44) rfl (hb hby d1_34) rfl (tlt (own_i1 hc_4 (by decide) : k < (192 : Int32))).1 (by decide) (by decide)) ?_
          show Go p e below s _ _ _ s₁ (mkF m 44 #[.val (.int k)] [])
          refine Go.st (fun _ => XS.iloadN X0.here hx rfl (hb hby d1_44) rfl) ?_
          show Go p e below s _ _ _ s₁ (mkF m 45 #[.val (.int k)] [(.int k)])
          refine Go.st (fun _ => XS.sipush X0.here hx rfl (hb hby d1_45)) ?_
          show Go p e below s _ _ _ s₁ (mkF m 48 #[.val (.int k)] [(.int (216 : Int32)), (.int k)])
          refine Go.st (fun _ => XS.icmpYes X0.here hx rfl (pc0 := 48) (pc' := 58) rfl (hb hby d1_48) rfl (tlt (own_i1 hc_4 (by decide) : k < (216 : Int32))).1 (by decide) (by decide)) ?_
          show Go p e below s _ _ _ s₁ (mkF m 58 #[.val (.int k)] [])
          refine Go.st (fun _ => XS.iloadN X0.here hx rfl (hb hby d1_58) rfl) ?_
          show Go p e below s _ _ _ s₁ (mkF m 59 #[.val (.int k)] [(.int k)])
          refine Go.st (fun _ => XS.sipush X0.here hx rfl (hb hby d1_59)) ?_
          show Go p e below s _ _ _ s₁ (mkF m 62 #[.val (.int k)] [(.int (248 : Int32)), (.int k)])
          refine Go.st (fun _ => XS.icmpYes X0.here hx rfl (pc0 := 62) (pc' := 72) rfl (hb hby d1_62) rfl (tlt (own_i1 hc_4 (by decide) : k < (248 : Int32))).1 (by decide) (by decide)) ?_
          show Go p e below s _ _ _ s₁ (mkF m 72 #[.val (.int k)] [])
          refine Go.st (fun _ => XS.iloadN X0.here hx rfl (hb hby d1_72) rfl) ?_
          show Go p e below s _ _ _ s₁ (mkF m 73 #[.val (.int k)] [(.int k)])
          refine Go.st (fun _ => XS.sipush X0.here hx rfl (hb hby d1_73)) ?_
          show Go p e below s _ _ _ s₁ (mkF m 76 #[.val (.int k)] [(.int (880 : Int32)), (.int k)])
          refine Go.st (fun _ => XS.icmpYes X0.here hx rfl (pc0 := 76) (pc' := 86) rfl (hb hby d1_76) rfl (tlt (own_i1 hc_4 (by decide) : k < (880 : Int32))).1 (by decide) (by decide)) ?_
          show Go p e below s _ _ _ s₁ (mkF m 86 #[.val (.int k)] [])
          refine Go.st (fun _ => XS.iloadN X0.here hx rfl (hb hby d1_86) rfl) ?_
          show Go p e below s _ _ _ s₁ (mkF m 87 #[.val (.int k)] [(.int k)])
          refine Go.st (fun _ => XS.sipush X0.here hx rfl (hb hby d1_87)) ?_
          show Go p e below s _ _ _ s₁ (mkF m 90 #[.val (.int k)] [(.int (895 : Int32)), (.int k)])
          refine Go.st (fun _ => XS.icmpYes X0.here hx rfl (pc0 := 90) (pc' := 100) rfl (hb hby d1_90) rfl (tlt (own_i1 hc_4 (by decide) : k < (895 : Int32))).1 (by decide) (by decide)) ?_
          show Go p e below s _ _ _ s₁ (mkF m 100 #[.val (.int k)] [])
          refine Go.st (fun _ => XS.iloadN X0.here hx rfl (hb hby d1_100) rfl) ?_
          show Go p e below s _ _ _ s₁ (mkF m 101 #[.val (.int k)] [(.int k)])
          refine Go.st (fun _ => XS.sipush X0.here hx rfl (hb hby d1_101)) ?_
          show Go p e below s _ _ _ s₁ (mkF m 104 #[.val (.int k)] [(.int (8204 : Int32)), (.int k)])
          refine Go.st (fun _ => XS.icmpYes X0.here hx rfl (pc0 := 104) (pc' := 114) rfl (hb hby d1_104) rfl (tlt (own_i1 hc_4 (by decide) : k < (8204 : Int32))).1 (by decide) (by decide)) ?_
          show Go p e below s _ _ _ s₁ (mkF m 114 #[.val (.int k)] [])
          refine Go.st (fun _ => XS.iloadN X0.here hx rfl (hb hby d1_114) rfl) ?_
          show Go p e below s _ _ _ s₁ (mkF m 115 #[.val (.int k)] [(.int k)])
          refine Go.st (fun _ => XS.sipush X0.here hx rfl (hb hby d1_115)) ?_
          show Go p e below s _ _ _ s₁ (mkF m 118 #[.val (.int k)] [(.int (8304 : Int32)), (.int k)])
          refine Go.st (fun _ => XS.icmpYes X0.here hx rfl (pc0 := 118) (pc' := 128) rfl (hb hby d1_118) rfl (tlt (own_i1 hc_4 (by decide) : k < (8304 : Int32))).1 (by decide) (by decide)) ?_
          show Go p e below s _ _ _ s₁ (mkF m 128 #[.val (.int k)] [])
          refine Go.st (fun _ => XS.iloadN X0.here hx rfl (hb hby d1_128) rfl) ?_
          show Go p e below s _ _ _ s₁ (mkF m 129 #[.val (.int k)] [(.int k)])
          refine Go.st (fun _ => XS.sipush X0.here hx rfl (hb hby d1_129)) ?_
          show Go p e below s _ _ _ s₁ (mkF m 132 #[.val (.int k)] [(.int (11264 : Int32)), (.int k)])
          refine Go.st (fun _ => XS.icmpYes X0.here hx rfl (pc0 := 132) (pc' := 142) rfl (hb hby d1_132) rfl (tlt (own_i1 hc_4 (by decide) : k < (11264 : Int32))).1 (by decide) (by decide)) ?_
          show Go p e below s _ _ _ s₁ (mkF m 142 #[.val (.int k)] [])
          refine Go.st (fun _ => XS.iloadN X0.here hx rfl (hb hby d1_142) rfl) ?_
          show Go p e below s _ _ _ s₁ (mkF m 143 #[.val (.int k)] [(.int k)])
          refine Go.st (fun _ => XS.sipush X0.here hx rfl (hb hby d1_143)) ?_
          show Go p e below s _ _ _ s₁ (mkF m 146 #[.val (.int k)] [(.int (12289 : Int32)), (.int k)])
          refine Go.st (fun _ => XS.icmpYes X0.here hx rfl (pc0 := 146) (pc' := 155) rfl (hb hby d1_146) rfl (tlt (own_i1 hc_4 (by decide) : k < (12289 : Int32))).1 (by decide) (by decide)) ?_
          show Go p e below s _ _ _ s₁ (mkF m 155 #[.val (.int k)] [])
          refine Go.st (fun _ => XS.iloadN X0.here hx rfl (hb hby d1_155) rfl) ?_
          show Go p e below s _ _ _ s₁ (mkF m 156 #[.val (.int k)] [(.int k)])
          refine Go.st (fun tG => X0.ldcInt hx hown (mvT hZ (hw _ (List.mem_of_getElem? (i := 16) rfl))) (g := (mkF m 156 #[.val (.int k)] [(.int k)])) rfl (hb hby d1_156) tG) ?_
          show Go p e below s _ _ _ s₁ (mkF m 158 #[.val (.int k)] [(.int (63744 : Int32)), (.int k)])
          refine Go.st (fun _ => XS.icmpYes X0.here hx rfl (pc0 := 158) (pc' := 167) rfl (hb hby d1_158) rfl (tlt (own_i1 hc_4 (by decide) : k < (63744 : Int32))).1 (by decide) (by decide)) ?_
          show Go p e below s _ _ _ s₁ (mkF m 167 #[.val (.int k)] [])
          refine Go.st (fun _ => XS.iloadN X0.here hx rfl (hb hby d1_167) rfl) ?_
          show Go p e below s _ _ _ s₁ (mkF m 168 #[.val (.int k)] [(.int k)])
          refine Go.st (fun tG => X0.ldcInt hx hown (mvT hZ (hw _ (List.mem_of_getElem? (i := 17) rfl))) (g := (mkF m 168 #[.val (.int k)] [(.int k)])) rfl (hb hby d1_168) tG) ?_
          show Go p e below s _ _ _ s₁ (mkF m 170 #[.val (.int k)] [(.int (65008 : Int32)), (.int k)])
          refine Go.st (fun _ => XS.icmpYes X0.here hx rfl (pc0 := 170) (pc' := 179) rfl (hb hby d1_170) rfl (tlt (own_i1 hc_4 (by decide) : k < (65008 : Int32))).1 (by decide) (by decide)) ?_
          show Go p e below s _ _ _ s₁ (mkF m 179 #[.val (.int k)] [])
          refine Go.st (fun _ => XS.iloadN X0.here hx rfl (hb hby d1_179) rfl) ?_
          show Go p e below s _ _ _ s₁ (mkF m 180 #[.val (.int k)] [(.int k)])
          refine Go.st (fun tG => X0.ldcInt hx hown (mvT hZ (hw _ (List.mem_of_getElem? (i := 18) rfl))) (g := (mkF m 180 #[.val (.int k)] [(.int k)])) rfl (hb hby d1_180) tG) ?_
          show Go p e below s _ _ _ s₁ (mkF m 182 #[.val (.int k)] [(.int (65536 : Int32)), (.int k)])
          refine Go.st (fun _ => XS.icmpYes X0.here hx rfl (pc0 := 182) (pc' := 191) rfl (hb hby d1_182) rfl (tlt (own_i1 hc_4 (by decide) : k < (65536 : Int32))).1 (by decide) (by decide)) ?_
          show Go p e below s _ _ _ s₁ (mkF m 191 #[.val (.int k)] [])
          refine Go.st (fun _ => XS.iloadN X0.here hx rfl (hb hby d1_191) rfl) ?_
          show Go p e below s _ _ _ s₁ (mkF m 192 #[.val (.int k)] [(.int k)])
          refine Go.st (fun tG => X0.ldcInt hx hown (mvT hZ (hw _ (List.mem_of_getElem? (i := 19) rfl))) (g := (mkF m 192 #[.val (.int k)] [(.int k)])) rfl (hb hby d1_192) tG) ?_
          show Go p e below s _ _ _ s₁ (mkF m 194 #[.val (.int k)] [(.int (55296 : Int32)), (.int k)])
          refine Go.st (fun _ => XS.icmpYes X0.here hx rfl (pc0 := 194) (pc' := 207) rfl (hb hby d1_194) rfl (tlt (own_i1 hc_4 (by decide) : k < (55296 : Int32))).1 (by decide) (by decide)) ?_
          show Go p e below s _ _ _ s₁ (mkF m 207 #[.val (.int k)] [])
          refine Go.st (fun _ => XS.iconst X0.here hx rfl (hb hby d1_207)) ?_
          show Go p e below s _ _ _ s₁ (mkF m 208 #[.val (.int k)] [(.int (0 : Int32))])
          exact Go.retZ X0 hx hlk Bd.returns (hb hby d1_208) rfl (by rw [e0]; exact ⟨(own_b2i_f (by have := own_c4 hc_2 (by decide : (90 : Int32).toInt = 90); have := own_c1 hc_4 (by decide : (97 : Int32).toInt = 97); have := own_c6 hc_3 (by decide : (95 : Int32).toInt = 95); exact own_ns_f (by omega))), N0, rfl⟩) (by decide) (by decide)
        · refine Go.st (fun _ => XS.icmpNo X0.here hx rfl (hb hby d1_21) rfl (flt hc_4).1) ?_
          show Go p e below s _ _ _ s₁ (mkF m 24 #[.val (.int k)] [])
          refine Go.st (fun _ => XS.iloadN X0.here hx rfl (hb hby d1_24) rfl) ?_
          show Go p e below s _ _ _ s₁ (mkF m 25 #[.val (.int k)] [(.int k)])
          refine Go.st (fun _ => XS.bipush X0.here hx rfl (hb hby d1_25)) ?_
          show Go p e below s _ _ _ s₁ (mkF m 27 #[.val (.int k)] [(.int (122 : Int32)), (.int k)])
          by_cases hc_5 : (122 : Int32) < k
          · refine Go.st (fun _ => XS.icmpNo X0.here hx rfl (hb hby d1_27) rfl (tlt hc_5).2.2.2) ?_
            show Go p e below s _ _ _ s₁ (mkF m 30 #[.val (.int k)] [])
            refine Go.st (fun _ => XS.iloadN X0.here hx rfl (hb hby d1_30) rfl) ?_
            show Go p e below s _ _ _ s₁ (mkF m 31 #[.val (.int k)] [(.int k)])
            refine Go.st (fun _ => XS.sipush X0.here hx rfl (hb hby d1_31)) ?_
            show Go p e below s _ _ _ s₁ (mkF m 34 #[.val (.int k)] [(.int (192 : Int32)), (.int k)])
            by_cases hc_6 : k < (192 : Int32)
            · refine Go.st (fun _ => XS.icmpYes X0.here hx rfl (pc0 := 34) (pc' := 44) rfl (hb hby d1_34) rfl (tlt hc_6).1 (by decide) (by decide)) ?_
              show Go p e below s _ _ _ s₁ (mkF m 44 #[.val (.int k)] [])
              refine Go.st (fun _ => XS.iloadN X0.here hx rfl (hb hby d1_44) rfl) ?_
              show Go p e below s _ _ _ s₁ (mkF m 45 #[.val (.int k)] [(.int k)])
              refine Go.st (fun _ => XS.sipush X0.here hx rfl (hb hby d1_45)) ?_
              show Go p e below s _ _ _ s₁ (mkF m 48 #[.val (.int k)] [(.int (216 : Int32)), (.int k)])
              refine Go.st (fun _ => XS.icmpYes X0.here hx rfl (pc0 := 48) (pc' := 58) rfl (hb hby d1_48) rfl (tlt (own_i1 hc_6 (by decide) : k < (216 : Int32))).1 (by decide) (by decide)) ?_
              show Go p e below s _ _ _ s₁ (mkF m 58 #[.val (.int k)] [])
              refine Go.st (fun _ => XS.iloadN X0.here hx rfl (hb hby d1_58) rfl) ?_
              show Go p e below s _ _ _ s₁ (mkF m 59 #[.val (.int k)] [(.int k)])
              refine Go.st (fun _ => XS.sipush X0.here hx rfl (hb hby d1_59)) ?_
              show Go p e below s _ _ _ s₁ (mkF m 62 #[.val (.int k)] [(.int (248 : Int32)), (.int k)])
              refine Go.st (fun _ => XS.icmpYes X0.here hx rfl (pc0 := 62) (pc' := 72) rfl (hb hby d1_62) rfl (tlt (own_i1 hc_6 (by decide) : k < (248 : Int32))).1 (by decide) (by decide)) ?_
              show Go p e below s _ _ _ s₁ (mkF m 72 #[.val (.int k)] [])
              refine Go.st (fun _ => XS.iloadN X0.here hx rfl (hb hby d1_72) rfl) ?_
              show Go p e below s _ _ _ s₁ (mkF m 73 #[.val (.int k)] [(.int k)])
              refine Go.st (fun _ => XS.sipush X0.here hx rfl (hb hby d1_73)) ?_
              show Go p e below s _ _ _ s₁ (mkF m 76 #[.val (.int k)] [(.int (880 : Int32)), (.int k)])
              refine Go.st (fun _ => XS.icmpYes X0.here hx rfl (pc0 := 76) (pc' := 86) rfl (hb hby d1_76) rfl (tlt (own_i1 hc_6 (by decide) : k < (880 : Int32))).1 (by decide) (by decide)) ?_
              show Go p e below s _ _ _ s₁ (mkF m 86 #[.val (.int k)] [])
              refine Go.st (fun _ => XS.iloadN X0.here hx rfl (hb hby d1_86) rfl) ?_
              show Go p e below s _ _ _ s₁ (mkF m 87 #[.val (.int k)] [(.int k)])
              refine Go.st (fun _ => XS.sipush X0.here hx rfl (hb hby d1_87)) ?_
              show Go p e below s _ _ _ s₁ (mkF m 90 #[.val (.int k)] [(.int (895 : Int32)), (.int k)])
              refine Go.st (fun _ => XS.icmpYes X0.here hx rfl (pc0 := 90) (pc' := 100) rfl (hb hby d1_90) rfl (tlt (own_i1 hc_6 (by decide) : k < (895 : Int32))).1 (by decide) (by decide)) ?_
              show Go p e below s _ _ _ s₁ (mkF m 100 #[.val (.int k)] [])
              refine Go.st (fun _ => XS.iloadN X0.here hx rfl (hb hby d1_100) rfl) ?_
              show Go p e below s _ _ _ s₁ (mkF m 101 #[.val (.int k)] [(.int k)])
              refine Go.st (fun _ => XS.sipush X0.here hx rfl (hb hby d1_101)) ?_
              show Go p e below s _ _ _ s₁ (mkF m 104 #[.val (.int k)] [(.int (8204 : Int32)), (.int k)])
              refine Go.st (fun _ => XS.icmpYes X0.here hx rfl (pc0 := 104) (pc' := 114) rfl (hb hby d1_104) rfl (tlt (own_i1 hc_6 (by decide) : k < (8204 : Int32))).1 (by decide) (by decide)) ?_
              show Go p e below s _ _ _ s₁ (mkF m 114 #[.val (.int k)] [])
              refine Go.st (fun _ => XS.iloadN X0.here hx rfl (hb hby d1_114) rfl) ?_
              show Go p e below s _ _ _ s₁ (mkF m 115 #[.val (.int k)] [(.int k)])
              refine Go.st (fun _ => XS.sipush X0.here hx rfl (hb hby d1_115)) ?_
              show Go p e below s _ _ _ s₁ (mkF m 118 #[.val (.int k)] [(.int (8304 : Int32)), (.int k)])
              refine Go.st (fun _ => XS.icmpYes X0.here hx rfl (pc0 := 118) (pc' := 128) rfl (hb hby d1_118) rfl (tlt (own_i1 hc_6 (by decide) : k < (8304 : Int32))).1 (by decide) (by decide)) ?_
              show Go p e below s _ _ _ s₁ (mkF m 128 #[.val (.int k)] [])
              refine Go.st (fun _ => XS.iloadN X0.here hx rfl (hb hby d1_128) rfl) ?_
              show Go p e below s _ _ _ s₁ (mkF m 129 #[.val (.int k)] [(.int k)])
              refine Go.st (fun _ => XS.sipush X0.here hx rfl (hb hby d1_129)) ?_
              show Go p e below s _ _ _ s₁ (mkF m 132 #[.val (.int k)] [(.int (11264 : Int32)), (.int k)])
              refine Go.st (fun _ => XS.icmpYes X0.here hx rfl (pc0 := 132) (pc' := 142) rfl (hb hby d1_132) rfl (tlt (own_i1 hc_6 (by decide) : k < (11264 : Int32))).1 (by decide) (by decide)) ?_
              show Go p e below s _ _ _ s₁ (mkF m 142 #[.val (.int k)] [])
              refine Go.st (fun _ => XS.iloadN X0.here hx rfl (hb hby d1_142) rfl) ?_
              show Go p e below s _ _ _ s₁ (mkF m 143 #[.val (.int k)] [(.int k)])
              refine Go.st (fun _ => XS.sipush X0.here hx rfl (hb hby d1_143)) ?_
              show Go p e below s _ _ _ s₁ (mkF m 146 #[.val (.int k)] [(.int (12289 : Int32)), (.int k)])
              refine Go.st (fun _ => XS.icmpYes X0.here hx rfl (pc0 := 146) (pc' := 155) rfl (hb hby d1_146) rfl (tlt (own_i1 hc_6 (by decide) : k < (12289 : Int32))).1 (by decide) (by decide)) ?_
              show Go p e below s _ _ _ s₁ (mkF m 155 #[.val (.int k)] [])
              refine Go.st (fun _ => XS.iloadN X0.here hx rfl (hb hby d1_155) rfl) ?_
              show Go p e below s _ _ _ s₁ (mkF m 156 #[.val (.int k)] [(.int k)])
              refine Go.st (fun tG => X0.ldcInt hx hown (mvT hZ (hw _ (List.mem_of_getElem? (i := 16) rfl))) (g := (mkF m 156 #[.val (.int k)] [(.int k)])) rfl (hb hby d1_156) tG) ?_
              show Go p e below s _ _ _ s₁ (mkF m 158 #[.val (.int k)] [(.int (63744 : Int32)), (.int k)])
              refine Go.st (fun _ => XS.icmpYes X0.here hx rfl (pc0 := 158) (pc' := 167) rfl (hb hby d1_158) rfl (tlt (own_i1 hc_6 (by decide) : k < (63744 : Int32))).1 (by decide) (by decide)) ?_
              show Go p e below s _ _ _ s₁ (mkF m 167 #[.val (.int k)] [])
              refine Go.st (fun _ => XS.iloadN X0.here hx rfl (hb hby d1_167) rfl) ?_
              show Go p e below s _ _ _ s₁ (mkF m 168 #[.val (.int k)] [(.int k)])
              refine Go.st (fun tG => X0.ldcInt hx hown (mvT hZ (hw _ (List.mem_of_getElem? (i := 17) rfl))) (g := (mkF m 168 #[.val (.int k)] [(.int k)])) rfl (hb hby d1_168) tG) ?_
              show Go p e below s _ _ _ s₁ (mkF m 170 #[.val (.int k)] [(.int (65008 : Int32)), (.int k)])
              refine Go.st (fun _ => XS.icmpYes X0.here hx rfl (pc0 := 170) (pc' := 179) rfl (hb hby d1_170) rfl (tlt (own_i1 hc_6 (by decide) : k < (65008 : Int32))).1 (by decide) (by decide)) ?_
              show Go p e below s _ _ _ s₁ (mkF m 179 #[.val (.int k)] [])
              refine Go.st (fun _ => XS.iloadN X0.here hx rfl (hb hby d1_179) rfl) ?_
              show Go p e below s _ _ _ s₁ (mkF m 180 #[.val (.int k)] [(.int k)])
              refine Go.st (fun tG => X0.ldcInt hx hown (mvT hZ (hw _ (List.mem_of_getElem? (i := 18) rfl))) (g := (mkF m 180 #[.val (.int k)] [(.int k)])) rfl (hb hby d1_180) tG) ?_
              show Go p e below s _ _ _ s₁ (mkF m 182 #[.val (.int k)] [(.int (65536 : Int32)), (.int k)])
              refine Go.st (fun _ => XS.icmpYes X0.here hx rfl (pc0 := 182) (pc' := 191) rfl (hb hby d1_182) rfl (tlt (own_i1 hc_6 (by decide) : k < (65536 : Int32))).1 (by decide) (by decide)) ?_
              show Go p e below s _ _ _ s₁ (mkF m 191 #[.val (.int k)] [])
              refine Go.st (fun _ => XS.iloadN X0.here hx rfl (hb hby d1_191) rfl) ?_
              show Go p e below s _ _ _ s₁ (mkF m 192 #[.val (.int k)] [(.int k)])
              refine Go.st (fun tG => X0.ldcInt hx hown (mvT hZ (hw _ (List.mem_of_getElem? (i := 19) rfl))) (g := (mkF m 192 #[.val (.int k)] [(.int k)])) rfl (hb hby d1_192) tG) ?_
              show Go p e below s _ _ _ s₁ (mkF m 194 #[.val (.int k)] [(.int (55296 : Int32)), (.int k)])
              refine Go.st (fun _ => XS.icmpYes X0.here hx rfl (pc0 := 194) (pc' := 207) rfl (hb hby d1_194) rfl (tlt (own_i1 hc_6 (by decide) : k < (55296 : Int32))).1 (by decide) (by decide)) ?_
              show Go p e below s _ _ _ s₁ (mkF m 207 #[.val (.int k)] [])
              refine Go.st (fun _ => XS.iconst X0.here hx rfl (hb hby d1_207)) ?_
              show Go p e below s _ _ _ s₁ (mkF m 208 #[.val (.int k)] [(.int (0 : Int32))])
              exact Go.retZ X0 hx hlk Bd.returns (hb hby d1_208) rfl (by rw [e0]; exact ⟨(own_b2i_f (by have := own_c4 hc_5 (by decide : (122 : Int32).toInt = 122); have := own_c1 hc_6 (by decide : (192 : Int32).toInt = 192); have := own_c6 hc_3 (by decide : (95 : Int32).toInt = 95); exact own_ns_f (by omega))), N0, rfl⟩) (by decide) (by decide)
            · refine Go.st (fun _ => XS.icmpNo X0.here hx rfl (hb hby d1_34) rfl (flt hc_6).1) ?_
              show Go p e below s _ _ _ s₁ (mkF m 37 #[.val (.int k)] [])
              refine Go.st (fun _ => XS.iloadN X0.here hx rfl (hb hby d1_37) rfl) ?_
              show Go p e below s _ _ _ s₁ (mkF m 38 #[.val (.int k)] [(.int k)])
              refine Go.st (fun _ => XS.sipush X0.here hx rfl (hb hby d1_38)) ?_
              show Go p e below s _ _ _ s₁ (mkF m 41 #[.val (.int k)] [(.int (214 : Int32)), (.int k)])
              by_cases hc_7 : (214 : Int32) < k
              · refine Go.st (fun _ => XS.icmpNo X0.here hx rfl (hb hby d1_41) rfl (tlt hc_7).2.2.2) ?_
                show Go p e below s _ _ _ s₁ (mkF m 44 #[.val (.int k)] [])
                refine Go.st (fun _ => XS.iloadN X0.here hx rfl (hb hby d1_44) rfl) ?_
                show Go p e below s _ _ _ s₁ (mkF m 45 #[.val (.int k)] [(.int k)])
                refine Go.st (fun _ => XS.sipush X0.here hx rfl (hb hby d1_45)) ?_
                show Go p e below s _ _ _ s₁ (mkF m 48 #[.val (.int k)] [(.int (216 : Int32)), (.int k)])
                by_cases hc_8 : k < (216 : Int32)
                · refine Go.st (fun _ => XS.icmpYes X0.here hx rfl (pc0 := 48) (pc' := 58) rfl (hb hby d1_48) rfl (tlt hc_8).1 (by decide) (by decide)) ?_
                  show Go p e below s _ _ _ s₁ (mkF m 58 #[.val (.int k)] [])
                  refine Go.st (fun _ => XS.iloadN X0.here hx rfl (hb hby d1_58) rfl) ?_
                  show Go p e below s _ _ _ s₁ (mkF m 59 #[.val (.int k)] [(.int k)])
                  refine Go.st (fun _ => XS.sipush X0.here hx rfl (hb hby d1_59)) ?_
                  show Go p e below s _ _ _ s₁ (mkF m 62 #[.val (.int k)] [(.int (248 : Int32)), (.int k)])
                  refine Go.st (fun _ => XS.icmpYes X0.here hx rfl (pc0 := 62) (pc' := 72) rfl (hb hby d1_62) rfl (tlt (own_i1 hc_8 (by decide) : k < (248 : Int32))).1 (by decide) (by decide)) ?_
                  show Go p e below s _ _ _ s₁ (mkF m 72 #[.val (.int k)] [])
                  refine Go.st (fun _ => XS.iloadN X0.here hx rfl (hb hby d1_72) rfl) ?_
                  show Go p e below s _ _ _ s₁ (mkF m 73 #[.val (.int k)] [(.int k)])
                  refine Go.st (fun _ => XS.sipush X0.here hx rfl (hb hby d1_73)) ?_
                  show Go p e below s _ _ _ s₁ (mkF m 76 #[.val (.int k)] [(.int (880 : Int32)), (.int k)])
                  refine Go.st (fun _ => XS.icmpYes X0.here hx rfl (pc0 := 76) (pc' := 86) rfl (hb hby d1_76) rfl (tlt (own_i1 hc_8 (by decide) : k < (880 : Int32))).1 (by decide) (by decide)) ?_
                  show Go p e below s _ _ _ s₁ (mkF m 86 #[.val (.int k)] [])
                  refine Go.st (fun _ => XS.iloadN X0.here hx rfl (hb hby d1_86) rfl) ?_
                  show Go p e below s _ _ _ s₁ (mkF m 87 #[.val (.int k)] [(.int k)])
                  refine Go.st (fun _ => XS.sipush X0.here hx rfl (hb hby d1_87)) ?_
                  show Go p e below s _ _ _ s₁ (mkF m 90 #[.val (.int k)] [(.int (895 : Int32)), (.int k)])
                  refine Go.st (fun _ => XS.icmpYes X0.here hx rfl (pc0 := 90) (pc' := 100) rfl (hb hby d1_90) rfl (tlt (own_i1 hc_8 (by decide) : k < (895 : Int32))).1 (by decide) (by decide)) ?_
                  show Go p e below s _ _ _ s₁ (mkF m 100 #[.val (.int k)] [])
                  refine Go.st (fun _ => XS.iloadN X0.here hx rfl (hb hby d1_100) rfl) ?_
                  show Go p e below s _ _ _ s₁ (mkF m 101 #[.val (.int k)] [(.int k)])
                  refine Go.st (fun _ => XS.sipush X0.here hx rfl (hb hby d1_101)) ?_
                  show Go p e below s _ _ _ s₁ (mkF m 104 #[.val (.int k)] [(.int (8204 : Int32)), (.int k)])
                  refine Go.st (fun _ => XS.icmpYes X0.here hx rfl (pc0 := 104) (pc' := 114) rfl (hb hby d1_104) rfl (tlt (own_i1 hc_8 (by decide) : k < (8204 : Int32))).1 (by decide) (by decide)) ?_
                  show Go p e below s _ _ _ s₁ (mkF m 114 #[.val (.int k)] [])
                  refine Go.st (fun _ => XS.iloadN X0.here hx rfl (hb hby d1_114) rfl) ?_
                  show Go p e below s _ _ _ s₁ (mkF m 115 #[.val (.int k)] [(.int k)])
                  refine Go.st (fun _ => XS.sipush X0.here hx rfl (hb hby d1_115)) ?_
                  show Go p e below s _ _ _ s₁ (mkF m 118 #[.val (.int k)] [(.int (8304 : Int32)), (.int k)])
                  refine Go.st (fun _ => XS.icmpYes X0.here hx rfl (pc0 := 118) (pc' := 128) rfl (hb hby d1_118) rfl (tlt (own_i1 hc_8 (by decide) : k < (8304 : Int32))).1 (by decide) (by decide)) ?_
                  show Go p e below s _ _ _ s₁ (mkF m 128 #[.val (.int k)] [])
                  refine Go.st (fun _ => XS.iloadN X0.here hx rfl (hb hby d1_128) rfl) ?_
                  show Go p e below s _ _ _ s₁ (mkF m 129 #[.val (.int k)] [(.int k)])
                  refine Go.st (fun _ => XS.sipush X0.here hx rfl (hb hby d1_129)) ?_
                  show Go p e below s _ _ _ s₁ (mkF m 132 #[.val (.int k)] [(.int (11264 : Int32)), (.int k)])
                  refine Go.st (fun _ => XS.icmpYes X0.here hx rfl (pc0 := 132) (pc' := 142) rfl (hb hby d1_132) rfl (tlt (own_i1 hc_8 (by decide) : k < (11264 : Int32))).1 (by decide) (by decide)) ?_
                  show Go p e below s _ _ _ s₁ (mkF m 142 #[.val (.int k)] [])
                  refine Go.st (fun _ => XS.iloadN X0.here hx rfl (hb hby d1_142) rfl) ?_
                  show Go p e below s _ _ _ s₁ (mkF m 143 #[.val (.int k)] [(.int k)])
                  refine Go.st (fun _ => XS.sipush X0.here hx rfl (hb hby d1_143)) ?_
                  show Go p e below s _ _ _ s₁ (mkF m 146 #[.val (.int k)] [(.int (12289 : Int32)), (.int k)])
                  refine Go.st (fun _ => XS.icmpYes X0.here hx rfl (pc0 := 146) (pc' := 155) rfl (hb hby d1_146) rfl (tlt (own_i1 hc_8 (by decide) : k < (12289 : Int32))).1 (by decide) (by decide)) ?_
                  show Go p e below s _ _ _ s₁ (mkF m 155 #[.val (.int k)] [])
                  refine Go.st (fun _ => XS.iloadN X0.here hx rfl (hb hby d1_155) rfl) ?_
                  show Go p e below s _ _ _ s₁ (mkF m 156 #[.val (.int k)] [(.int k)])
                  refine Go.st (fun tG => X0.ldcInt hx hown (mvT hZ (hw _ (List.mem_of_getElem? (i := 16) rfl))) (g := (mkF m 156 #[.val (.int k)] [(.int k)])) rfl (hb hby d1_156) tG) ?_
                  show Go p e below s _ _ _ s₁ (mkF m 158 #[.val (.int k)] [(.int (63744 : Int32)), (.int k)])
                  refine Go.st (fun _ => XS.icmpYes X0.here hx rfl (pc0 := 158) (pc' := 167) rfl (hb hby d1_158) rfl (tlt (own_i1 hc_8 (by decide) : k < (63744 : Int32))).1 (by decide) (by decide)) ?_
                  show Go p e below s _ _ _ s₁ (mkF m 167 #[.val (.int k)] [])
                  refine Go.st (fun _ => XS.iloadN X0.here hx rfl (hb hby d1_167) rfl) ?_
                  show Go p e below s _ _ _ s₁ (mkF m 168 #[.val (.int k)] [(.int k)])
                  refine Go.st (fun tG => X0.ldcInt hx hown (mvT hZ (hw _ (List.mem_of_getElem? (i := 17) rfl))) (g := (mkF m 168 #[.val (.int k)] [(.int k)])) rfl (hb hby d1_168) tG) ?_
                  show Go p e below s _ _ _ s₁ (mkF m 170 #[.val (.int k)] [(.int (65008 : Int32)), (.int k)])
                  refine Go.st (fun _ => XS.icmpYes X0.here hx rfl (pc0 := 170) (pc' := 179) rfl (hb hby d1_170) rfl (tlt (own_i1 hc_8 (by decide) : k < (65008 : Int32))).1 (by decide) (by decide)) ?_
                  show Go p e below s _ _ _ s₁ (mkF m 179 #[.val (.int k)] [])
                  refine Go.st (fun _ => XS.iloadN X0.here hx rfl (hb hby d1_179) rfl) ?_
                  show Go p e below s _ _ _ s₁ (mkF m 180 #[.val (.int k)] [(.int k)])
                  refine Go.st (fun tG => X0.ldcInt hx hown (mvT hZ (hw _ (List.mem_of_getElem? (i := 18) rfl))) (g := (mkF m 180 #[.val (.int k)] [(.int k)])) rfl (hb hby d1_180) tG) ?_
                  show Go p e below s _ _ _ s₁ (mkF m 182 #[.val (.int k)] [(.int (65536 : Int32)), (.int k)])
                  refine Go.st (fun _ => XS.icmpYes X0.here hx rfl (pc0 := 182) (pc' := 191) rfl (hb hby d1_182) rfl (tlt (own_i1 hc_8 (by decide) : k < (65536 : Int32))).1 (by decide) (by decide)) ?_
                  show Go p e below s _ _ _ s₁ (mkF m 191 #[.val (.int k)] [])
                  refine Go.st (fun _ => XS.iloadN X0.here hx rfl (hb hby d1_191) rfl) ?_
                  show Go p e below s _ _ _ s₁ (mkF m 192 #[.val (.int k)] [(.int k)])
                  refine Go.st (fun tG => X0.ldcInt hx hown (mvT hZ (hw _ (List.mem_of_getElem? (i := 19) rfl))) (g := (mkF m 192 #[.val (.int k)] [(.int k)])) rfl (hb hby d1_192) tG) ?_
                  show Go p e below s _ _ _ s₁ (mkF m 194 #[.val (.int k)] [(.int (55296 : Int32)), (.int k)])
                  refine Go.st (fun _ => XS.icmpYes X0.here hx rfl (pc0 := 194) (pc' := 207) rfl (hb hby d1_194) rfl (tlt (own_i1 hc_8 (by decide) : k < (55296 : Int32))).1 (by decide) (by decide)) ?_
                  show Go p e below s _ _ _ s₁ (mkF m 207 #[.val (.int k)] [])
                  refine Go.st (fun _ => XS.iconst X0.here hx rfl (hb hby d1_207)) ?_
                  show Go p e below s _ _ _ s₁ (mkF m 208 #[.val (.int k)] [(.int (0 : Int32))])
                  exact Go.retZ X0 hx hlk Bd.returns (hb hby d1_208) rfl (by rw [e0]; exact ⟨(own_b2i_f (by have := own_c4 hc_7 (by decide : (214 : Int32).toInt = 214); have := own_c1 hc_8 (by decide : (216 : Int32).toInt = 216); have := own_c6 hc_3 (by decide : (95 : Int32).toInt = 95); exact own_ns_f (by omega))), N0, rfl⟩) (by decide) (by decide)
                · refine Go.st (fun _ => XS.icmpNo X0.here hx rfl (hb hby d1_48) rfl (flt hc_8).1) ?_
                  show Go p e below s _ _ _ s₁ (mkF m 51 #[.val (.int k)] [])
                  refine Go.st (fun _ => XS.iloadN X0.here hx rfl (hb hby d1_51) rfl) ?_
                  show Go p e below s _ _ _ s₁ (mkF m 52 #[.val (.int k)] [(.int k)])
                  refine Go.st (fun _ => XS.sipush X0.here hx rfl (hb hby d1_52)) ?_
                  show Go p e below s _ _ _ s₁ (mkF m 55 #[.val (.int k)] [(.int (246 : Int32)), (.int k)])
                  by_cases hc_9 : (246 : Int32) < k
                  · refine Go.st (fun _ => XS.icmpNo X0.here hx rfl (hb hby d1_55) rfl (tlt hc_9).2.2.2) ?_
                    show Go p e below s _ _ _ s₁ (mkF m 58 #[.val (.int k)] [])
                    refine Go.st (fun _ => XS.iloadN X0.here hx rfl (hb hby d1_58) rfl) ?_
                    show Go p e below s _ _ _ s₁ (mkF m 59 #[.val (.int k)] [(.int k)])
                    refine Go.st (fun _ => XS.sipush X0.here hx rfl (hb hby d1_59)) ?_
                    show Go p e below s _ _ _ s₁ (mkF m 62 #[.val (.int k)] [(.int (248 : Int32)), (.int k)])
                    by_cases hc_10 : k < (248 : Int32)
                    · refine Go.st (fun _ => XS.icmpYes X0.here hx rfl (pc0 := 62) (pc' := 72) rfl (hb hby d1_62) rfl (tlt hc_10).1 (by decide) (by decide)) ?_
                      show Go p e below s _ _ _ s₁ (mkF m 72 #[.val (.int k)] [])
                      refine Go.st (fun _ => XS.iloadN X0.here hx rfl (hb hby d1_72) rfl) ?_
                      show Go p e below s _ _ _ s₁ (mkF m 73 #[.val (.int k)] [(.int k)])
                      refine Go.st (fun _ => XS.sipush X0.here hx rfl (hb hby d1_73)) ?_
                      show Go p e below s _ _ _ s₁ (mkF m 76 #[.val (.int k)] [(.int (880 : Int32)), (.int k)])
                      refine Go.st (fun _ => XS.icmpYes X0.here hx rfl (pc0 := 76) (pc' := 86) rfl (hb hby d1_76) rfl (tlt (own_i1 hc_10 (by decide) : k < (880 : Int32))).1 (by decide) (by decide)) ?_
                      show Go p e below s _ _ _ s₁ (mkF m 86 #[.val (.int k)] [])
                      refine Go.st (fun _ => XS.iloadN X0.here hx rfl (hb hby d1_86) rfl) ?_
                      show Go p e below s _ _ _ s₁ (mkF m 87 #[.val (.int k)] [(.int k)])
                      refine Go.st (fun _ => XS.sipush X0.here hx rfl (hb hby d1_87)) ?_
                      show Go p e below s _ _ _ s₁ (mkF m 90 #[.val (.int k)] [(.int (895 : Int32)), (.int k)])
                      refine Go.st (fun _ => XS.icmpYes X0.here hx rfl (pc0 := 90) (pc' := 100) rfl (hb hby d1_90) rfl (tlt (own_i1 hc_10 (by decide) : k < (895 : Int32))).1 (by decide) (by decide)) ?_
                      show Go p e below s _ _ _ s₁ (mkF m 100 #[.val (.int k)] [])
                      refine Go.st (fun _ => XS.iloadN X0.here hx rfl (hb hby d1_100) rfl) ?_
                      show Go p e below s _ _ _ s₁ (mkF m 101 #[.val (.int k)] [(.int k)])
                      refine Go.st (fun _ => XS.sipush X0.here hx rfl (hb hby d1_101)) ?_
                      show Go p e below s _ _ _ s₁ (mkF m 104 #[.val (.int k)] [(.int (8204 : Int32)), (.int k)])
                      refine Go.st (fun _ => XS.icmpYes X0.here hx rfl (pc0 := 104) (pc' := 114) rfl (hb hby d1_104) rfl (tlt (own_i1 hc_10 (by decide) : k < (8204 : Int32))).1 (by decide) (by decide)) ?_
                      show Go p e below s _ _ _ s₁ (mkF m 114 #[.val (.int k)] [])
                      refine Go.st (fun _ => XS.iloadN X0.here hx rfl (hb hby d1_114) rfl) ?_
                      show Go p e below s _ _ _ s₁ (mkF m 115 #[.val (.int k)] [(.int k)])
                      refine Go.st (fun _ => XS.sipush X0.here hx rfl (hb hby d1_115)) ?_
                      show Go p e below s _ _ _ s₁ (mkF m 118 #[.val (.int k)] [(.int (8304 : Int32)), (.int k)])
                      refine Go.st (fun _ => XS.icmpYes X0.here hx rfl (pc0 := 118) (pc' := 128) rfl (hb hby d1_118) rfl (tlt (own_i1 hc_10 (by decide) : k < (8304 : Int32))).1 (by decide) (by decide)) ?_
                      show Go p e below s _ _ _ s₁ (mkF m 128 #[.val (.int k)] [])
                      refine Go.st (fun _ => XS.iloadN X0.here hx rfl (hb hby d1_128) rfl) ?_
                      show Go p e below s _ _ _ s₁ (mkF m 129 #[.val (.int k)] [(.int k)])
                      refine Go.st (fun _ => XS.sipush X0.here hx rfl (hb hby d1_129)) ?_
                      show Go p e below s _ _ _ s₁ (mkF m 132 #[.val (.int k)] [(.int (11264 : Int32)), (.int k)])
                      refine Go.st (fun _ => XS.icmpYes X0.here hx rfl (pc0 := 132) (pc' := 142) rfl (hb hby d1_132) rfl (tlt (own_i1 hc_10 (by decide) : k < (11264 : Int32))).1 (by decide) (by decide)) ?_
                      show Go p e below s _ _ _ s₁ (mkF m 142 #[.val (.int k)] [])
                      refine Go.st (fun _ => XS.iloadN X0.here hx rfl (hb hby d1_142) rfl) ?_
                      show Go p e below s _ _ _ s₁ (mkF m 143 #[.val (.int k)] [(.int k)])
                      refine Go.st (fun _ => XS.sipush X0.here hx rfl (hb hby d1_143)) ?_
                      show Go p e below s _ _ _ s₁ (mkF m 146 #[.val (.int k)] [(.int (12289 : Int32)), (.int k)])
                      refine Go.st (fun _ => XS.icmpYes X0.here hx rfl (pc0 := 146) (pc' := 155) rfl (hb hby d1_146) rfl (tlt (own_i1 hc_10 (by decide) : k < (12289 : Int32))).1 (by decide) (by decide)) ?_
                      show Go p e below s _ _ _ s₁ (mkF m 155 #[.val (.int k)] [])
                      refine Go.st (fun _ => XS.iloadN X0.here hx rfl (hb hby d1_155) rfl) ?_
                      show Go p e below s _ _ _ s₁ (mkF m 156 #[.val (.int k)] [(.int k)])
                      refine Go.st (fun tG => X0.ldcInt hx hown (mvT hZ (hw _ (List.mem_of_getElem? (i := 16) rfl))) (g := (mkF m 156 #[.val (.int k)] [(.int k)])) rfl (hb hby d1_156) tG) ?_
                      show Go p e below s _ _ _ s₁ (mkF m 158 #[.val (.int k)] [(.int (63744 : Int32)), (.int k)])
                      refine Go.st (fun _ => XS.icmpYes X0.here hx rfl (pc0 := 158) (pc' := 167) rfl (hb hby d1_158) rfl (tlt (own_i1 hc_10 (by decide) : k < (63744 : Int32))).1 (by decide) (by decide)) ?_
                      show Go p e below s _ _ _ s₁ (mkF m 167 #[.val (.int k)] [])
                      refine Go.st (fun _ => XS.iloadN X0.here hx rfl (hb hby d1_167) rfl) ?_
                      show Go p e below s _ _ _ s₁ (mkF m 168 #[.val (.int k)] [(.int k)])
                      refine Go.st (fun tG => X0.ldcInt hx hown (mvT hZ (hw _ (List.mem_of_getElem? (i := 17) rfl))) (g := (mkF m 168 #[.val (.int k)] [(.int k)])) rfl (hb hby d1_168) tG) ?_
                      show Go p e below s _ _ _ s₁ (mkF m 170 #[.val (.int k)] [(.int (65008 : Int32)), (.int k)])
                      refine Go.st (fun _ => XS.icmpYes X0.here hx rfl (pc0 := 170) (pc' := 179) rfl (hb hby d1_170) rfl (tlt (own_i1 hc_10 (by decide) : k < (65008 : Int32))).1 (by decide) (by decide)) ?_
                      show Go p e below s _ _ _ s₁ (mkF m 179 #[.val (.int k)] [])
                      refine Go.st (fun _ => XS.iloadN X0.here hx rfl (hb hby d1_179) rfl) ?_
                      show Go p e below s _ _ _ s₁ (mkF m 180 #[.val (.int k)] [(.int k)])
                      refine Go.st (fun tG => X0.ldcInt hx hown (mvT hZ (hw _ (List.mem_of_getElem? (i := 18) rfl))) (g := (mkF m 180 #[.val (.int k)] [(.int k)])) rfl (hb hby d1_180) tG) ?_
                      show Go p e below s _ _ _ s₁ (mkF m 182 #[.val (.int k)] [(.int (65536 : Int32)), (.int k)])
                      refine Go.st (fun _ => XS.icmpYes X0.here hx rfl (pc0 := 182) (pc' := 191) rfl (hb hby d1_182) rfl (tlt (own_i1 hc_10 (by decide) : k < (65536 : Int32))).1 (by decide) (by decide)) ?_
                      show Go p e below s _ _ _ s₁ (mkF m 191 #[.val (.int k)] [])
                      refine Go.st (fun _ => XS.iloadN X0.here hx rfl (hb hby d1_191) rfl) ?_
                      show Go p e below s _ _ _ s₁ (mkF m 192 #[.val (.int k)] [(.int k)])
                      refine Go.st (fun tG => X0.ldcInt hx hown (mvT hZ (hw _ (List.mem_of_getElem? (i := 19) rfl))) (g := (mkF m 192 #[.val (.int k)] [(.int k)])) rfl (hb hby d1_192) tG) ?_
                      show Go p e below s _ _ _ s₁ (mkF m 194 #[.val (.int k)] [(.int (55296 : Int32)), (.int k)])
                      refine Go.st (fun _ => XS.icmpYes X0.here hx rfl (pc0 := 194) (pc' := 207) rfl (hb hby d1_194) rfl (tlt (own_i1 hc_10 (by decide) : k < (55296 : Int32))).1 (by decide) (by decide)) ?_
                      show Go p e below s _ _ _ s₁ (mkF m 207 #[.val (.int k)] [])
                      refine Go.st (fun _ => XS.iconst X0.here hx rfl (hb hby d1_207)) ?_
                      show Go p e below s _ _ _ s₁ (mkF m 208 #[.val (.int k)] [(.int (0 : Int32))])
                      exact Go.retZ X0 hx hlk Bd.returns (hb hby d1_208) rfl (by rw [e0]; exact ⟨(own_b2i_f (by have := own_c4 hc_9 (by decide : (246 : Int32).toInt = 246); have := own_c1 hc_10 (by decide : (248 : Int32).toInt = 248); have := own_c6 hc_3 (by decide : (95 : Int32).toInt = 95); exact own_ns_f (by omega))), N0, rfl⟩) (by decide) (by decide)
                    · refine Go.st (fun _ => XS.icmpNo X0.here hx rfl (hb hby d1_62) rfl (flt hc_10).1) ?_
                      show Go p e below s _ _ _ s₁ (mkF m 65 #[.val (.int k)] [])
                      refine Go.st (fun _ => XS.iloadN X0.here hx rfl (hb hby d1_65) rfl) ?_
                      show Go p e below s _ _ _ s₁ (mkF m 66 #[.val (.int k)] [(.int k)])
                      refine Go.st (fun _ => XS.sipush X0.here hx rfl (hb hby d1_66)) ?_
                      show Go p e below s _ _ _ s₁ (mkF m 69 #[.val (.int k)] [(.int (767 : Int32)), (.int k)])
                      by_cases hc_11 : (767 : Int32) < k
                      · refine Go.st (fun _ => XS.icmpNo X0.here hx rfl (hb hby d1_69) rfl (tlt hc_11).2.2.2) ?_
                        show Go p e below s _ _ _ s₁ (mkF m 72 #[.val (.int k)] [])
                        refine Go.st (fun _ => XS.iloadN X0.here hx rfl (hb hby d1_72) rfl) ?_
                        show Go p e below s _ _ _ s₁ (mkF m 73 #[.val (.int k)] [(.int k)])
                        refine Go.st (fun _ => XS.sipush X0.here hx rfl (hb hby d1_73)) ?_
                        show Go p e below s _ _ _ s₁ (mkF m 76 #[.val (.int k)] [(.int (880 : Int32)), (.int k)])
                        by_cases hc_12 : k < (880 : Int32)
                        · refine Go.st (fun _ => XS.icmpYes X0.here hx rfl (pc0 := 76) (pc' := 86) rfl (hb hby d1_76) rfl (tlt hc_12).1 (by decide) (by decide)) ?_
                          show Go p e below s _ _ _ s₁ (mkF m 86 #[.val (.int k)] [])
                          refine Go.st (fun _ => XS.iloadN X0.here hx rfl (hb hby d1_86) rfl) ?_
                          show Go p e below s _ _ _ s₁ (mkF m 87 #[.val (.int k)] [(.int k)])
                          refine Go.st (fun _ => XS.sipush X0.here hx rfl (hb hby d1_87)) ?_
                          show Go p e below s _ _ _ s₁ (mkF m 90 #[.val (.int k)] [(.int (895 : Int32)), (.int k)])
                          refine Go.st (fun _ => XS.icmpYes X0.here hx rfl (pc0 := 90) (pc' := 100) rfl (hb hby d1_90) rfl (tlt (own_i1 hc_12 (by decide) : k < (895 : Int32))).1 (by decide) (by decide)) ?_
                          show Go p e below s _ _ _ s₁ (mkF m 100 #[.val (.int k)] [])
                          refine Go.st (fun _ => XS.iloadN X0.here hx rfl (hb hby d1_100) rfl) ?_
                          show Go p e below s _ _ _ s₁ (mkF m 101 #[.val (.int k)] [(.int k)])
                          refine Go.st (fun _ => XS.sipush X0.here hx rfl (hb hby d1_101)) ?_
                          show Go p e below s _ _ _ s₁ (mkF m 104 #[.val (.int k)] [(.int (8204 : Int32)), (.int k)])
                          refine Go.st (fun _ => XS.icmpYes X0.here hx rfl (pc0 := 104) (pc' := 114) rfl (hb hby d1_104) rfl (tlt (own_i1 hc_12 (by decide) : k < (8204 : Int32))).1 (by decide) (by decide)) ?_
                          show Go p e below s _ _ _ s₁ (mkF m 114 #[.val (.int k)] [])
                          refine Go.st (fun _ => XS.iloadN X0.here hx rfl (hb hby d1_114) rfl) ?_
                          show Go p e below s _ _ _ s₁ (mkF m 115 #[.val (.int k)] [(.int k)])
                          refine Go.st (fun _ => XS.sipush X0.here hx rfl (hb hby d1_115)) ?_
                          show Go p e below s _ _ _ s₁ (mkF m 118 #[.val (.int k)] [(.int (8304 : Int32)), (.int k)])
                          refine Go.st (fun _ => XS.icmpYes X0.here hx rfl (pc0 := 118) (pc' := 128) rfl (hb hby d1_118) rfl (tlt (own_i1 hc_12 (by decide) : k < (8304 : Int32))).1 (by decide) (by decide)) ?_
                          show Go p e below s _ _ _ s₁ (mkF m 128 #[.val (.int k)] [])
                          refine Go.st (fun _ => XS.iloadN X0.here hx rfl (hb hby d1_128) rfl) ?_
                          show Go p e below s _ _ _ s₁ (mkF m 129 #[.val (.int k)] [(.int k)])
                          refine Go.st (fun _ => XS.sipush X0.here hx rfl (hb hby d1_129)) ?_
                          show Go p e below s _ _ _ s₁ (mkF m 132 #[.val (.int k)] [(.int (11264 : Int32)), (.int k)])
                          refine Go.st (fun _ => XS.icmpYes X0.here hx rfl (pc0 := 132) (pc' := 142) rfl (hb hby d1_132) rfl (tlt (own_i1 hc_12 (by decide) : k < (11264 : Int32))).1 (by decide) (by decide)) ?_
                          show Go p e below s _ _ _ s₁ (mkF m 142 #[.val (.int k)] [])
                          refine Go.st (fun _ => XS.iloadN X0.here hx rfl (hb hby d1_142) rfl) ?_
                          show Go p e below s _ _ _ s₁ (mkF m 143 #[.val (.int k)] [(.int k)])
                          refine Go.st (fun _ => XS.sipush X0.here hx rfl (hb hby d1_143)) ?_
                          show Go p e below s _ _ _ s₁ (mkF m 146 #[.val (.int k)] [(.int (12289 : Int32)), (.int k)])
                          refine Go.st (fun _ => XS.icmpYes X0.here hx rfl (pc0 := 146) (pc' := 155) rfl (hb hby d1_146) rfl (tlt (own_i1 hc_12 (by decide) : k < (12289 : Int32))).1 (by decide) (by decide)) ?_
                          show Go p e below s _ _ _ s₁ (mkF m 155 #[.val (.int k)] [])
                          refine Go.st (fun _ => XS.iloadN X0.here hx rfl (hb hby d1_155) rfl) ?_
                          show Go p e below s _ _ _ s₁ (mkF m 156 #[.val (.int k)] [(.int k)])
                          refine Go.st (fun tG => X0.ldcInt hx hown (mvT hZ (hw _ (List.mem_of_getElem? (i := 16) rfl))) (g := (mkF m 156 #[.val (.int k)] [(.int k)])) rfl (hb hby d1_156) tG) ?_
                          show Go p e below s _ _ _ s₁ (mkF m 158 #[.val (.int k)] [(.int (63744 : Int32)), (.int k)])
                          refine Go.st (fun _ => XS.icmpYes X0.here hx rfl (pc0 := 158) (pc' := 167) rfl (hb hby d1_158) rfl (tlt (own_i1 hc_12 (by decide) : k < (63744 : Int32))).1 (by decide) (by decide)) ?_
                          show Go p e below s _ _ _ s₁ (mkF m 167 #[.val (.int k)] [])
                          refine Go.st (fun _ => XS.iloadN X0.here hx rfl (hb hby d1_167) rfl) ?_
                          show Go p e below s _ _ _ s₁ (mkF m 168 #[.val (.int k)] [(.int k)])
                          refine Go.st (fun tG => X0.ldcInt hx hown (mvT hZ (hw _ (List.mem_of_getElem? (i := 17) rfl))) (g := (mkF m 168 #[.val (.int k)] [(.int k)])) rfl (hb hby d1_168) tG) ?_
                          show Go p e below s _ _ _ s₁ (mkF m 170 #[.val (.int k)] [(.int (65008 : Int32)), (.int k)])
                          refine Go.st (fun _ => XS.icmpYes X0.here hx rfl (pc0 := 170) (pc' := 179) rfl (hb hby d1_170) rfl (tlt (own_i1 hc_12 (by decide) : k < (65008 : Int32))).1 (by decide) (by decide)) ?_
                          show Go p e below s _ _ _ s₁ (mkF m 179 #[.val (.int k)] [])
                          refine Go.st (fun _ => XS.iloadN X0.here hx rfl (hb hby d1_179) rfl) ?_
                          show Go p e below s _ _ _ s₁ (mkF m 180 #[.val (.int k)] [(.int k)])
                          refine Go.st (fun tG => X0.ldcInt hx hown (mvT hZ (hw _ (List.mem_of_getElem? (i := 18) rfl))) (g := (mkF m 180 #[.val (.int k)] [(.int k)])) rfl (hb hby d1_180) tG) ?_
                          show Go p e below s _ _ _ s₁ (mkF m 182 #[.val (.int k)] [(.int (65536 : Int32)), (.int k)])
                          refine Go.st (fun _ => XS.icmpYes X0.here hx rfl (pc0 := 182) (pc' := 191) rfl (hb hby d1_182) rfl (tlt (own_i1 hc_12 (by decide) : k < (65536 : Int32))).1 (by decide) (by decide)) ?_
                          show Go p e below s _ _ _ s₁ (mkF m 191 #[.val (.int k)] [])
                          refine Go.st (fun _ => XS.iloadN X0.here hx rfl (hb hby d1_191) rfl) ?_
                          show Go p e below s _ _ _ s₁ (mkF m 192 #[.val (.int k)] [(.int k)])
                          refine Go.st (fun tG => X0.ldcInt hx hown (mvT hZ (hw _ (List.mem_of_getElem? (i := 19) rfl))) (g := (mkF m 192 #[.val (.int k)] [(.int k)])) rfl (hb hby d1_192) tG) ?_
                          show Go p e below s _ _ _ s₁ (mkF m 194 #[.val (.int k)] [(.int (55296 : Int32)), (.int k)])
                          refine Go.st (fun _ => XS.icmpYes X0.here hx rfl (pc0 := 194) (pc' := 207) rfl (hb hby d1_194) rfl (tlt (own_i1 hc_12 (by decide) : k < (55296 : Int32))).1 (by decide) (by decide)) ?_
                          show Go p e below s _ _ _ s₁ (mkF m 207 #[.val (.int k)] [])
                          refine Go.st (fun _ => XS.iconst X0.here hx rfl (hb hby d1_207)) ?_
                          show Go p e below s _ _ _ s₁ (mkF m 208 #[.val (.int k)] [(.int (0 : Int32))])
                          exact Go.retZ X0 hx hlk Bd.returns (hb hby d1_208) rfl (by rw [e0]; exact ⟨(own_b2i_f (by have := own_c4 hc_11 (by decide : (767 : Int32).toInt = 767); have := own_c1 hc_12 (by decide : (880 : Int32).toInt = 880); have := own_c6 hc_3 (by decide : (95 : Int32).toInt = 95); exact own_ns_f (by omega))), N0, rfl⟩) (by decide) (by decide)
                        · refine Go.st (fun _ => XS.icmpNo X0.here hx rfl (hb hby d1_76) rfl (flt hc_12).1) ?_
                          show Go p e below s _ _ _ s₁ (mkF m 79 #[.val (.int k)] [])
                          refine Go.st (fun _ => XS.iloadN X0.here hx rfl (hb hby d1_79) rfl) ?_
                          show Go p e below s _ _ _ s₁ (mkF m 80 #[.val (.int k)] [(.int k)])
                          refine Go.st (fun _ => XS.sipush X0.here hx rfl (hb hby d1_80)) ?_
                          show Go p e below s _ _ _ s₁ (mkF m 83 #[.val (.int k)] [(.int (893 : Int32)), (.int k)])
                          by_cases hc_13 : (893 : Int32) < k
                          · refine Go.st (fun _ => XS.icmpNo X0.here hx rfl (hb hby d1_83) rfl (tlt hc_13).2.2.2) ?_
                            show Go p e below s _ _ _ s₁ (mkF m 86 #[.val (.int k)] [])
                            refine Go.st (fun _ => XS.iloadN X0.here hx rfl (hb hby d1_86) rfl) ?_
                            show Go p e below s _ _ _ s₁ (mkF m 87 #[.val (.int k)] [(.int k)])
                            refine Go.st (fun _ => XS.sipush X0.here hx rfl (hb hby d1_87)) ?_
                            show Go p e below s _ _ _ s₁ (mkF m 90 #[.val (.int k)] [(.int (895 : Int32)), (.int k)])
                            by_cases hc_14 : k < (895 : Int32)
                            · refine Go.st (fun _ => XS.icmpYes X0.here hx rfl (pc0 := 90) (pc' := 100) rfl (hb hby d1_90) rfl (tlt hc_14).1 (by decide) (by decide)) ?_
                              show Go p e below s _ _ _ s₁ (mkF m 100 #[.val (.int k)] [])
                              refine Go.st (fun _ => XS.iloadN X0.here hx rfl (hb hby d1_100) rfl) ?_
                              show Go p e below s _ _ _ s₁ (mkF m 101 #[.val (.int k)] [(.int k)])
                              refine Go.st (fun _ => XS.sipush X0.here hx rfl (hb hby d1_101)) ?_
                              show Go p e below s _ _ _ s₁ (mkF m 104 #[.val (.int k)] [(.int (8204 : Int32)), (.int k)])
                              refine Go.st (fun _ => XS.icmpYes X0.here hx rfl (pc0 := 104) (pc' := 114) rfl (hb hby d1_104) rfl (tlt (own_i1 hc_14 (by decide) : k < (8204 : Int32))).1 (by decide) (by decide)) ?_
                              show Go p e below s _ _ _ s₁ (mkF m 114 #[.val (.int k)] [])
                              refine Go.st (fun _ => XS.iloadN X0.here hx rfl (hb hby d1_114) rfl) ?_
                              show Go p e below s _ _ _ s₁ (mkF m 115 #[.val (.int k)] [(.int k)])
                              refine Go.st (fun _ => XS.sipush X0.here hx rfl (hb hby d1_115)) ?_
                              show Go p e below s _ _ _ s₁ (mkF m 118 #[.val (.int k)] [(.int (8304 : Int32)), (.int k)])
                              refine Go.st (fun _ => XS.icmpYes X0.here hx rfl (pc0 := 118) (pc' := 128) rfl (hb hby d1_118) rfl (tlt (own_i1 hc_14 (by decide) : k < (8304 : Int32))).1 (by decide) (by decide)) ?_
                              show Go p e below s _ _ _ s₁ (mkF m 128 #[.val (.int k)] [])
                              refine Go.st (fun _ => XS.iloadN X0.here hx rfl (hb hby d1_128) rfl) ?_
                              show Go p e below s _ _ _ s₁ (mkF m 129 #[.val (.int k)] [(.int k)])
                              refine Go.st (fun _ => XS.sipush X0.here hx rfl (hb hby d1_129)) ?_
                              show Go p e below s _ _ _ s₁ (mkF m 132 #[.val (.int k)] [(.int (11264 : Int32)), (.int k)])
                              refine Go.st (fun _ => XS.icmpYes X0.here hx rfl (pc0 := 132) (pc' := 142) rfl (hb hby d1_132) rfl (tlt (own_i1 hc_14 (by decide) : k < (11264 : Int32))).1 (by decide) (by decide)) ?_
                              show Go p e below s _ _ _ s₁ (mkF m 142 #[.val (.int k)] [])
                              refine Go.st (fun _ => XS.iloadN X0.here hx rfl (hb hby d1_142) rfl) ?_
                              show Go p e below s _ _ _ s₁ (mkF m 143 #[.val (.int k)] [(.int k)])
                              refine Go.st (fun _ => XS.sipush X0.here hx rfl (hb hby d1_143)) ?_
                              show Go p e below s _ _ _ s₁ (mkF m 146 #[.val (.int k)] [(.int (12289 : Int32)), (.int k)])
                              refine Go.st (fun _ => XS.icmpYes X0.here hx rfl (pc0 := 146) (pc' := 155) rfl (hb hby d1_146) rfl (tlt (own_i1 hc_14 (by decide) : k < (12289 : Int32))).1 (by decide) (by decide)) ?_
                              show Go p e below s _ _ _ s₁ (mkF m 155 #[.val (.int k)] [])
                              refine Go.st (fun _ => XS.iloadN X0.here hx rfl (hb hby d1_155) rfl) ?_
                              show Go p e below s _ _ _ s₁ (mkF m 156 #[.val (.int k)] [(.int k)])
                              refine Go.st (fun tG => X0.ldcInt hx hown (mvT hZ (hw _ (List.mem_of_getElem? (i := 16) rfl))) (g := (mkF m 156 #[.val (.int k)] [(.int k)])) rfl (hb hby d1_156) tG) ?_
                              show Go p e below s _ _ _ s₁ (mkF m 158 #[.val (.int k)] [(.int (63744 : Int32)), (.int k)])
                              refine Go.st (fun _ => XS.icmpYes X0.here hx rfl (pc0 := 158) (pc' := 167) rfl (hb hby d1_158) rfl (tlt (own_i1 hc_14 (by decide) : k < (63744 : Int32))).1 (by decide) (by decide)) ?_
                              show Go p e below s _ _ _ s₁ (mkF m 167 #[.val (.int k)] [])
                              refine Go.st (fun _ => XS.iloadN X0.here hx rfl (hb hby d1_167) rfl) ?_
                              show Go p e below s _ _ _ s₁ (mkF m 168 #[.val (.int k)] [(.int k)])
                              refine Go.st (fun tG => X0.ldcInt hx hown (mvT hZ (hw _ (List.mem_of_getElem? (i := 17) rfl))) (g := (mkF m 168 #[.val (.int k)] [(.int k)])) rfl (hb hby d1_168) tG) ?_
                              show Go p e below s _ _ _ s₁ (mkF m 170 #[.val (.int k)] [(.int (65008 : Int32)), (.int k)])
                              refine Go.st (fun _ => XS.icmpYes X0.here hx rfl (pc0 := 170) (pc' := 179) rfl (hb hby d1_170) rfl (tlt (own_i1 hc_14 (by decide) : k < (65008 : Int32))).1 (by decide) (by decide)) ?_
                              show Go p e below s _ _ _ s₁ (mkF m 179 #[.val (.int k)] [])
                              refine Go.st (fun _ => XS.iloadN X0.here hx rfl (hb hby d1_179) rfl) ?_
                              show Go p e below s _ _ _ s₁ (mkF m 180 #[.val (.int k)] [(.int k)])
                              refine Go.st (fun tG => X0.ldcInt hx hown (mvT hZ (hw _ (List.mem_of_getElem? (i := 18) rfl))) (g := (mkF m 180 #[.val (.int k)] [(.int k)])) rfl (hb hby d1_180) tG) ?_
                              show Go p e below s _ _ _ s₁ (mkF m 182 #[.val (.int k)] [(.int (65536 : Int32)), (.int k)])
                              refine Go.st (fun _ => XS.icmpYes X0.here hx rfl (pc0 := 182) (pc' := 191) rfl (hb hby d1_182) rfl (tlt (own_i1 hc_14 (by decide) : k < (65536 : Int32))).1 (by decide) (by decide)) ?_
                              show Go p e below s _ _ _ s₁ (mkF m 191 #[.val (.int k)] [])
                              refine Go.st (fun _ => XS.iloadN X0.here hx rfl (hb hby d1_191) rfl) ?_
                              show Go p e below s _ _ _ s₁ (mkF m 192 #[.val (.int k)] [(.int k)])
                              refine Go.st (fun tG => X0.ldcInt hx hown (mvT hZ (hw _ (List.mem_of_getElem? (i := 19) rfl))) (g := (mkF m 192 #[.val (.int k)] [(.int k)])) rfl (hb hby d1_192) tG) ?_
                              show Go p e below s _ _ _ s₁ (mkF m 194 #[.val (.int k)] [(.int (55296 : Int32)), (.int k)])
                              refine Go.st (fun _ => XS.icmpYes X0.here hx rfl (pc0 := 194) (pc' := 207) rfl (hb hby d1_194) rfl (tlt (own_i1 hc_14 (by decide) : k < (55296 : Int32))).1 (by decide) (by decide)) ?_
                              show Go p e below s _ _ _ s₁ (mkF m 207 #[.val (.int k)] [])
                              refine Go.st (fun _ => XS.iconst X0.here hx rfl (hb hby d1_207)) ?_
                              show Go p e below s _ _ _ s₁ (mkF m 208 #[.val (.int k)] [(.int (0 : Int32))])
                              exact Go.retZ X0 hx hlk Bd.returns (hb hby d1_208) rfl (by rw [e0]; exact ⟨(own_b2i_f (by have := own_c4 hc_13 (by decide : (893 : Int32).toInt = 893); have := own_c1 hc_14 (by decide : (895 : Int32).toInt = 895); have := own_c6 hc_3 (by decide : (95 : Int32).toInt = 95); exact own_ns_f (by omega))), N0, rfl⟩) (by decide) (by decide)
                            · refine Go.st (fun _ => XS.icmpNo X0.here hx rfl (hb hby d1_90) rfl (flt hc_14).1) ?_
                              show Go p e below s _ _ _ s₁ (mkF m 93 #[.val (.int k)] [])
                              refine Go.st (fun _ => XS.iloadN X0.here hx rfl (hb hby d1_93) rfl) ?_
                              show Go p e below s _ _ _ s₁ (mkF m 94 #[.val (.int k)] [(.int k)])
                              refine Go.st (fun _ => XS.sipush X0.here hx rfl (hb hby d1_94)) ?_
                              show Go p e below s _ _ _ s₁ (mkF m 97 #[.val (.int k)] [(.int (8191 : Int32)), (.int k)])
                              by_cases hc_15 : (8191 : Int32) < k
                              · refine Go.st (fun _ => XS.icmpNo X0.here hx rfl (hb hby d1_97) rfl (tlt hc_15).2.2.2) ?_
                                show Go p e below s _ _ _ s₁ (mkF m 100 #[.val (.int k)] [])
                                refine Go.st (fun _ => XS.iloadN X0.here hx rfl (hb hby d1_100) rfl) ?_
                                show Go p e below s _ _ _ s₁ (mkF m 101 #[.val (.int k)] [(.int k)])
                                refine Go.st (fun _ => XS.sipush X0.here hx rfl (hb hby d1_101)) ?_
                                show Go p e below s _ _ _ s₁ (mkF m 104 #[.val (.int k)] [(.int (8204 : Int32)), (.int k)])
                                by_cases hc_16 : k < (8204 : Int32)
                                · refine Go.st (fun _ => XS.icmpYes X0.here hx rfl (pc0 := 104) (pc' := 114) rfl (hb hby d1_104) rfl (tlt hc_16).1 (by decide) (by decide)) ?_
                                  show Go p e below s _ _ _ s₁ (mkF m 114 #[.val (.int k)] [])
                                  refine Go.st (fun _ => XS.iloadN X0.here hx rfl (hb hby d1_114) rfl) ?_
                                  show Go p e below s _ _ _ s₁ (mkF m 115 #[.val (.int k)] [(.int k)])
                                  refine Go.st (fun _ => XS.sipush X0.here hx rfl (hb hby d1_115)) ?_
                                  show Go p e below s _ _ _ s₁ (mkF m 118 #[.val (.int k)] [(.int (8304 : Int32)), (.int k)])
                                  refine Go.st (fun _ => XS.icmpYes X0.here hx rfl (pc0 := 118) (pc' := 128) rfl (hb hby d1_118) rfl (tlt (own_i1 hc_16 (by decide) : k < (8304 : Int32))).1 (by decide) (by decide)) ?_
                                  show Go p e below s _ _ _ s₁ (mkF m 128 #[.val (.int k)] [])
                                  refine Go.st (fun _ => XS.iloadN X0.here hx rfl (hb hby d1_128) rfl) ?_
                                  show Go p e below s _ _ _ s₁ (mkF m 129 #[.val (.int k)] [(.int k)])
                                  refine Go.st (fun _ => XS.sipush X0.here hx rfl (hb hby d1_129)) ?_
                                  show Go p e below s _ _ _ s₁ (mkF m 132 #[.val (.int k)] [(.int (11264 : Int32)), (.int k)])
                                  refine Go.st (fun _ => XS.icmpYes X0.here hx rfl (pc0 := 132) (pc' := 142) rfl (hb hby d1_132) rfl (tlt (own_i1 hc_16 (by decide) : k < (11264 : Int32))).1 (by decide) (by decide)) ?_
                                  show Go p e below s _ _ _ s₁ (mkF m 142 #[.val (.int k)] [])
                                  refine Go.st (fun _ => XS.iloadN X0.here hx rfl (hb hby d1_142) rfl) ?_
                                  show Go p e below s _ _ _ s₁ (mkF m 143 #[.val (.int k)] [(.int k)])
                                  refine Go.st (fun _ => XS.sipush X0.here hx rfl (hb hby d1_143)) ?_
                                  show Go p e below s _ _ _ s₁ (mkF m 146 #[.val (.int k)] [(.int (12289 : Int32)), (.int k)])
                                  refine Go.st (fun _ => XS.icmpYes X0.here hx rfl (pc0 := 146) (pc' := 155) rfl (hb hby d1_146) rfl (tlt (own_i1 hc_16 (by decide) : k < (12289 : Int32))).1 (by decide) (by decide)) ?_
                                  show Go p e below s _ _ _ s₁ (mkF m 155 #[.val (.int k)] [])
                                  refine Go.st (fun _ => XS.iloadN X0.here hx rfl (hb hby d1_155) rfl) ?_
                                  show Go p e below s _ _ _ s₁ (mkF m 156 #[.val (.int k)] [(.int k)])
                                  refine Go.st (fun tG => X0.ldcInt hx hown (mvT hZ (hw _ (List.mem_of_getElem? (i := 16) rfl))) (g := (mkF m 156 #[.val (.int k)] [(.int k)])) rfl (hb hby d1_156) tG) ?_
                                  show Go p e below s _ _ _ s₁ (mkF m 158 #[.val (.int k)] [(.int (63744 : Int32)), (.int k)])
                                  refine Go.st (fun _ => XS.icmpYes X0.here hx rfl (pc0 := 158) (pc' := 167) rfl (hb hby d1_158) rfl (tlt (own_i1 hc_16 (by decide) : k < (63744 : Int32))).1 (by decide) (by decide)) ?_
                                  show Go p e below s _ _ _ s₁ (mkF m 167 #[.val (.int k)] [])
                                  refine Go.st (fun _ => XS.iloadN X0.here hx rfl (hb hby d1_167) rfl) ?_
                                  show Go p e below s _ _ _ s₁ (mkF m 168 #[.val (.int k)] [(.int k)])
                                  refine Go.st (fun tG => X0.ldcInt hx hown (mvT hZ (hw _ (List.mem_of_getElem? (i := 17) rfl))) (g := (mkF m 168 #[.val (.int k)] [(.int k)])) rfl (hb hby d1_168) tG) ?_
                                  show Go p e below s _ _ _ s₁ (mkF m 170 #[.val (.int k)] [(.int (65008 : Int32)), (.int k)])
                                  refine Go.st (fun _ => XS.icmpYes X0.here hx rfl (pc0 := 170) (pc' := 179) rfl (hb hby d1_170) rfl (tlt (own_i1 hc_16 (by decide) : k < (65008 : Int32))).1 (by decide) (by decide)) ?_
                                  show Go p e below s _ _ _ s₁ (mkF m 179 #[.val (.int k)] [])
                                  refine Go.st (fun _ => XS.iloadN X0.here hx rfl (hb hby d1_179) rfl) ?_
                                  show Go p e below s _ _ _ s₁ (mkF m 180 #[.val (.int k)] [(.int k)])
                                  refine Go.st (fun tG => X0.ldcInt hx hown (mvT hZ (hw _ (List.mem_of_getElem? (i := 18) rfl))) (g := (mkF m 180 #[.val (.int k)] [(.int k)])) rfl (hb hby d1_180) tG) ?_
                                  show Go p e below s _ _ _ s₁ (mkF m 182 #[.val (.int k)] [(.int (65536 : Int32)), (.int k)])
                                  refine Go.st (fun _ => XS.icmpYes X0.here hx rfl (pc0 := 182) (pc' := 191) rfl (hb hby d1_182) rfl (tlt (own_i1 hc_16 (by decide) : k < (65536 : Int32))).1 (by decide) (by decide)) ?_
                                  show Go p e below s _ _ _ s₁ (mkF m 191 #[.val (.int k)] [])
                                  refine Go.st (fun _ => XS.iloadN X0.here hx rfl (hb hby d1_191) rfl) ?_
                                  show Go p e below s _ _ _ s₁ (mkF m 192 #[.val (.int k)] [(.int k)])
                                  refine Go.st (fun tG => X0.ldcInt hx hown (mvT hZ (hw _ (List.mem_of_getElem? (i := 19) rfl))) (g := (mkF m 192 #[.val (.int k)] [(.int k)])) rfl (hb hby d1_192) tG) ?_
                                  show Go p e below s _ _ _ s₁ (mkF m 194 #[.val (.int k)] [(.int (55296 : Int32)), (.int k)])
                                  refine Go.st (fun _ => XS.icmpYes X0.here hx rfl (pc0 := 194) (pc' := 207) rfl (hb hby d1_194) rfl (tlt (own_i1 hc_16 (by decide) : k < (55296 : Int32))).1 (by decide) (by decide)) ?_
                                  show Go p e below s _ _ _ s₁ (mkF m 207 #[.val (.int k)] [])
                                  refine Go.st (fun _ => XS.iconst X0.here hx rfl (hb hby d1_207)) ?_
                                  show Go p e below s _ _ _ s₁ (mkF m 208 #[.val (.int k)] [(.int (0 : Int32))])
                                  exact Go.retZ X0 hx hlk Bd.returns (hb hby d1_208) rfl (by rw [e0]; exact ⟨(own_b2i_f (by have := own_c4 hc_15 (by decide : (8191 : Int32).toInt = 8191); have := own_c1 hc_16 (by decide : (8204 : Int32).toInt = 8204); have := own_c6 hc_3 (by decide : (95 : Int32).toInt = 95); exact own_ns_f (by omega))), N0, rfl⟩) (by decide) (by decide)
                                · refine Go.st (fun _ => XS.icmpNo X0.here hx rfl (hb hby d1_104) rfl (flt hc_16).1) ?_
                                  show Go p e below s _ _ _ s₁ (mkF m 107 #[.val (.int k)] [])
                                  refine Go.st (fun _ => XS.iloadN X0.here hx rfl (hb hby d1_107) rfl) ?_
                                  show Go p e below s _ _ _ s₁ (mkF m 108 #[.val (.int k)] [(.int k)])
                                  refine Go.st (fun _ => XS.sipush X0.here hx rfl (hb hby d1_108)) ?_
                                  show Go p e below s _ _ _ s₁ (mkF m 111 #[.val (.int k)] [(.int (8205 : Int32)), (.int k)])
                                  by_cases hc_17 : (8205 : Int32) < k
                                  · refine Go.st (fun _ => XS.icmpNo X0.here hx rfl (hb hby d1_111) rfl (tlt hc_17).2.2.2) ?_
                                    show Go p e below s _ _ _ s₁ (mkF m 114 #[.val (.int k)] [])
                                    refine Go.st (fun _ => XS.iloadN X0.here hx rfl (hb hby d1_114) rfl) ?_
                                    show Go p e below s _ _ _ s₁ (mkF m 115 #[.val (.int k)] [(.int k)])
                                    refine Go.st (fun _ => XS.sipush X0.here hx rfl (hb hby d1_115)) ?_
                                    show Go p e below s _ _ _ s₁ (mkF m 118 #[.val (.int k)] [(.int (8304 : Int32)), (.int k)])
                                    by_cases hc_18 : k < (8304 : Int32)
                                    · refine Go.st (fun _ => XS.icmpYes X0.here hx rfl (pc0 := 118) (pc' := 128) rfl (hb hby d1_118) rfl (tlt hc_18).1 (by decide) (by decide)) ?_
                                      show Go p e below s _ _ _ s₁ (mkF m 128 #[.val (.int k)] [])
                                      refine Go.st (fun _ => XS.iloadN X0.here hx rfl (hb hby d1_128) rfl) ?_
                                      show Go p e below s _ _ _ s₁ (mkF m 129 #[.val (.int k)] [(.int k)])
                                      refine Go.st (fun _ => XS.sipush X0.here hx rfl (hb hby d1_129)) ?_
                                      show Go p e below s _ _ _ s₁ (mkF m 132 #[.val (.int k)] [(.int (11264 : Int32)), (.int k)])
                                      refine Go.st (fun _ => XS.icmpYes X0.here hx rfl (pc0 := 132) (pc' := 142) rfl (hb hby d1_132) rfl (tlt (own_i1 hc_18 (by decide) : k < (11264 : Int32))).1 (by decide) (by decide)) ?_
                                      show Go p e below s _ _ _ s₁ (mkF m 142 #[.val (.int k)] [])
                                      refine Go.st (fun _ => XS.iloadN X0.here hx rfl (hb hby d1_142) rfl) ?_
                                      show Go p e below s _ _ _ s₁ (mkF m 143 #[.val (.int k)] [(.int k)])
                                      refine Go.st (fun _ => XS.sipush X0.here hx rfl (hb hby d1_143)) ?_
                                      show Go p e below s _ _ _ s₁ (mkF m 146 #[.val (.int k)] [(.int (12289 : Int32)), (.int k)])
                                      refine Go.st (fun _ => XS.icmpYes X0.here hx rfl (pc0 := 146) (pc' := 155) rfl (hb hby d1_146) rfl (tlt (own_i1 hc_18 (by decide) : k < (12289 : Int32))).1 (by decide) (by decide)) ?_
                                      show Go p e below s _ _ _ s₁ (mkF m 155 #[.val (.int k)] [])
                                      refine Go.st (fun _ => XS.iloadN X0.here hx rfl (hb hby d1_155) rfl) ?_
                                      show Go p e below s _ _ _ s₁ (mkF m 156 #[.val (.int k)] [(.int k)])
                                      refine Go.st (fun tG => X0.ldcInt hx hown (mvT hZ (hw _ (List.mem_of_getElem? (i := 16) rfl))) (g := (mkF m 156 #[.val (.int k)] [(.int k)])) rfl (hb hby d1_156) tG) ?_
                                      show Go p e below s _ _ _ s₁ (mkF m 158 #[.val (.int k)] [(.int (63744 : Int32)), (.int k)])
                                      refine Go.st (fun _ => XS.icmpYes X0.here hx rfl (pc0 := 158) (pc' := 167) rfl (hb hby d1_158) rfl (tlt (own_i1 hc_18 (by decide) : k < (63744 : Int32))).1 (by decide) (by decide)) ?_
                                      show Go p e below s _ _ _ s₁ (mkF m 167 #[.val (.int k)] [])
                                      refine Go.st (fun _ => XS.iloadN X0.here hx rfl (hb hby d1_167) rfl) ?_
                                      show Go p e below s _ _ _ s₁ (mkF m 168 #[.val (.int k)] [(.int k)])
                                      refine Go.st (fun tG => X0.ldcInt hx hown (mvT hZ (hw _ (List.mem_of_getElem? (i := 17) rfl))) (g := (mkF m 168 #[.val (.int k)] [(.int k)])) rfl (hb hby d1_168) tG) ?_
                                      show Go p e below s _ _ _ s₁ (mkF m 170 #[.val (.int k)] [(.int (65008 : Int32)), (.int k)])
                                      refine Go.st (fun _ => XS.icmpYes X0.here hx rfl (pc0 := 170) (pc' := 179) rfl (hb hby d1_170) rfl (tlt (own_i1 hc_18 (by decide) : k < (65008 : Int32))).1 (by decide) (by decide)) ?_
                                      show Go p e below s _ _ _ s₁ (mkF m 179 #[.val (.int k)] [])
                                      refine Go.st (fun _ => XS.iloadN X0.here hx rfl (hb hby d1_179) rfl) ?_
                                      show Go p e below s _ _ _ s₁ (mkF m 180 #[.val (.int k)] [(.int k)])
                                      refine Go.st (fun tG => X0.ldcInt hx hown (mvT hZ (hw _ (List.mem_of_getElem? (i := 18) rfl))) (g := (mkF m 180 #[.val (.int k)] [(.int k)])) rfl (hb hby d1_180) tG) ?_
                                      show Go p e below s _ _ _ s₁ (mkF m 182 #[.val (.int k)] [(.int (65536 : Int32)), (.int k)])
                                      refine Go.st (fun _ => XS.icmpYes X0.here hx rfl (pc0 := 182) (pc' := 191) rfl (hb hby d1_182) rfl (tlt (own_i1 hc_18 (by decide) : k < (65536 : Int32))).1 (by decide) (by decide)) ?_
                                      show Go p e below s _ _ _ s₁ (mkF m 191 #[.val (.int k)] [])
                                      refine Go.st (fun _ => XS.iloadN X0.here hx rfl (hb hby d1_191) rfl) ?_
                                      show Go p e below s _ _ _ s₁ (mkF m 192 #[.val (.int k)] [(.int k)])
                                      refine Go.st (fun tG => X0.ldcInt hx hown (mvT hZ (hw _ (List.mem_of_getElem? (i := 19) rfl))) (g := (mkF m 192 #[.val (.int k)] [(.int k)])) rfl (hb hby d1_192) tG) ?_
                                      show Go p e below s _ _ _ s₁ (mkF m 194 #[.val (.int k)] [(.int (55296 : Int32)), (.int k)])
                                      refine Go.st (fun _ => XS.icmpYes X0.here hx rfl (pc0 := 194) (pc' := 207) rfl (hb hby d1_194) rfl (tlt (own_i1 hc_18 (by decide) : k < (55296 : Int32))).1 (by decide) (by decide)) ?_
                                      show Go p e below s _ _ _ s₁ (mkF m 207 #[.val (.int k)] [])
                                      refine Go.st (fun _ => XS.iconst X0.here hx rfl (hb hby d1_207)) ?_
                                      show Go p e below s _ _ _ s₁ (mkF m 208 #[.val (.int k)] [(.int (0 : Int32))])
                                      exact Go.retZ X0 hx hlk Bd.returns (hb hby d1_208) rfl (by rw [e0]; exact ⟨(own_b2i_f (by have := own_c4 hc_17 (by decide : (8205 : Int32).toInt = 8205); have := own_c1 hc_18 (by decide : (8304 : Int32).toInt = 8304); have := own_c6 hc_3 (by decide : (95 : Int32).toInt = 95); exact own_ns_f (by omega))), N0, rfl⟩) (by decide) (by decide)
                                    · refine Go.st (fun _ => XS.icmpNo X0.here hx rfl (hb hby d1_118) rfl (flt hc_18).1) ?_
                                      show Go p e below s _ _ _ s₁ (mkF m 121 #[.val (.int k)] [])
                                      refine Go.st (fun _ => XS.iloadN X0.here hx rfl (hb hby d1_121) rfl) ?_
                                      show Go p e below s _ _ _ s₁ (mkF m 122 #[.val (.int k)] [(.int k)])
                                      refine Go.st (fun _ => XS.sipush X0.here hx rfl (hb hby d1_122)) ?_
                                      show Go p e below s _ _ _ s₁ (mkF m 125 #[.val (.int k)] [(.int (8591 : Int32)), (.int k)])
                                      by_cases hc_19 : (8591 : Int32) < k
                                      · refine Go.st (fun _ => XS.icmpNo X0.here hx rfl (hb hby d1_125) rfl (tlt hc_19).2.2.2) ?_
                                        show Go p e below s _ _ _ s₁ (mkF m 128 #[.val (.int k)] [])
                                        refine Go.st (fun _ => XS.iloadN X0.here hx rfl (hb hby d1_128) rfl) ?_
                                        show Go p e below s _ _ _ s₁ (mkF m 129 #[.val (.int k)] [(.int k)])
                                        refine Go.st (fun _ => XS.sipush X0.here hx rfl (hb hby d1_129)) ?_
                                        show Go p e below s _ _ _ s₁ (mkF m 132 #[.val (.int k)] [(.int (11264 : Int32)), (.int k)])
                                        by_cases hc_20 : k < (11264 : Int32)
                                        · refine Go.st (fun _ => XS.icmpYes X0.here hx rfl (pc0 := 132) (pc' := 142) rfl (hb hby d1_132) rfl (tlt hc_20).1 (by decide) (by decide)) ?_
                                          show Go p e below s _ _ _ s₁ (mkF m 142 #[.val (.int k)] [])
                                          refine Go.st (fun _ => XS.iloadN X0.here hx rfl (hb hby d1_142) rfl) ?_
                                          show Go p e below s _ _ _ s₁ (mkF m 143 #[.val (.int k)] [(.int k)])
                                          refine Go.st (fun _ => XS.sipush X0.here hx rfl (hb hby d1_143)) ?_
                                          show Go p e below s _ _ _ s₁ (mkF m 146 #[.val (.int k)] [(.int (12289 : Int32)), (.int k)])
                                          refine Go.st (fun _ => XS.icmpYes X0.here hx rfl (pc0 := 146) (pc' := 155) rfl (hb hby d1_146) rfl (tlt (own_i1 hc_20 (by decide) : k < (12289 : Int32))).1 (by decide) (by decide)) ?_
                                          show Go p e below s _ _ _ s₁ (mkF m 155 #[.val (.int k)] [])
                                          refine Go.st (fun _ => XS.iloadN X0.here hx rfl (hb hby d1_155) rfl) ?_
                                          show Go p e below s _ _ _ s₁ (mkF m 156 #[.val (.int k)] [(.int k)])
                                          refine Go.st (fun tG => X0.ldcInt hx hown (mvT hZ (hw _ (List.mem_of_getElem? (i := 16) rfl))) (g := (mkF m 156 #[.val (.int k)] [(.int k)])) rfl (hb hby d1_156) tG) ?_
                                          show Go p e below s _ _ _ s₁ (mkF m 158 #[.val (.int k)] [(.int (63744 : Int32)), (.int k)])
                                          refine Go.st (fun _ => XS.icmpYes X0.here hx rfl (pc0 := 158) (pc' := 167) rfl (hb hby d1_158) rfl (tlt (own_i1 hc_20 (by decide) : k < (63744 : Int32))).1 (by decide) (by decide)) ?_
                                          show Go p e below s _ _ _ s₁ (mkF m 167 #[.val (.int k)] [])
                                          refine Go.st (fun _ => XS.iloadN X0.here hx rfl (hb hby d1_167) rfl) ?_
                                          show Go p e below s _ _ _ s₁ (mkF m 168 #[.val (.int k)] [(.int k)])
                                          refine Go.st (fun tG => X0.ldcInt hx hown (mvT hZ (hw _ (List.mem_of_getElem? (i := 17) rfl))) (g := (mkF m 168 #[.val (.int k)] [(.int k)])) rfl (hb hby d1_168) tG) ?_
                                          show Go p e below s _ _ _ s₁ (mkF m 170 #[.val (.int k)] [(.int (65008 : Int32)), (.int k)])
                                          refine Go.st (fun _ => XS.icmpYes X0.here hx rfl (pc0 := 170) (pc' := 179) rfl (hb hby d1_170) rfl (tlt (own_i1 hc_20 (by decide) : k < (65008 : Int32))).1 (by decide) (by decide)) ?_
                                          show Go p e below s _ _ _ s₁ (mkF m 179 #[.val (.int k)] [])
                                          refine Go.st (fun _ => XS.iloadN X0.here hx rfl (hb hby d1_179) rfl) ?_
                                          show Go p e below s _ _ _ s₁ (mkF m 180 #[.val (.int k)] [(.int k)])
                                          refine Go.st (fun tG => X0.ldcInt hx hown (mvT hZ (hw _ (List.mem_of_getElem? (i := 18) rfl))) (g := (mkF m 180 #[.val (.int k)] [(.int k)])) rfl (hb hby d1_180) tG) ?_
                                          show Go p e below s _ _ _ s₁ (mkF m 182 #[.val (.int k)] [(.int (65536 : Int32)), (.int k)])
                                          refine Go.st (fun _ => XS.icmpYes X0.here hx rfl (pc0 := 182) (pc' := 191) rfl (hb hby d1_182) rfl (tlt (own_i1 hc_20 (by decide) : k < (65536 : Int32))).1 (by decide) (by decide)) ?_
                                          show Go p e below s _ _ _ s₁ (mkF m 191 #[.val (.int k)] [])
                                          refine Go.st (fun _ => XS.iloadN X0.here hx rfl (hb hby d1_191) rfl) ?_
                                          show Go p e below s _ _ _ s₁ (mkF m 192 #[.val (.int k)] [(.int k)])
                                          refine Go.st (fun tG => X0.ldcInt hx hown (mvT hZ (hw _ (List.mem_of_getElem? (i := 19) rfl))) (g := (mkF m 192 #[.val (.int k)] [(.int k)])) rfl (hb hby d1_192) tG) ?_
                                          show Go p e below s _ _ _ s₁ (mkF m 194 #[.val (.int k)] [(.int (55296 : Int32)), (.int k)])
                                          refine Go.st (fun _ => XS.icmpYes X0.here hx rfl (pc0 := 194) (pc' := 207) rfl (hb hby d1_194) rfl (tlt (own_i1 hc_20 (by decide) : k < (55296 : Int32))).1 (by decide) (by decide)) ?_
                                          show Go p e below s _ _ _ s₁ (mkF m 207 #[.val (.int k)] [])
                                          refine Go.st (fun _ => XS.iconst X0.here hx rfl (hb hby d1_207)) ?_
                                          show Go p e below s _ _ _ s₁ (mkF m 208 #[.val (.int k)] [(.int (0 : Int32))])
                                          exact Go.retZ X0 hx hlk Bd.returns (hb hby d1_208) rfl (by rw [e0]; exact ⟨(own_b2i_f (by have := own_c4 hc_19 (by decide : (8591 : Int32).toInt = 8591); have := own_c1 hc_20 (by decide : (11264 : Int32).toInt = 11264); have := own_c6 hc_3 (by decide : (95 : Int32).toInt = 95); exact own_ns_f (by omega))), N0, rfl⟩) (by decide) (by decide)
                                        · refine Go.st (fun _ => XS.icmpNo X0.here hx rfl (hb hby d1_132) rfl (flt hc_20).1) ?_
                                          show Go p e below s _ _ _ s₁ (mkF m 135 #[.val (.int k)] [])
                                          refine Go.st (fun _ => XS.iloadN X0.here hx rfl (hb hby d1_135) rfl) ?_
                                          show Go p e below s _ _ _ s₁ (mkF m 136 #[.val (.int k)] [(.int k)])
                                          refine Go.st (fun _ => XS.sipush X0.here hx rfl (hb hby d1_136)) ?_
                                          show Go p e below s _ _ _ s₁ (mkF m 139 #[.val (.int k)] [(.int (12271 : Int32)), (.int k)])
                                          by_cases hc_21 : (12271 : Int32) < k
                                          · refine Go.st (fun _ => XS.icmpNo X0.here hx rfl (hb hby d1_139) rfl (tlt hc_21).2.2.2) ?_
                                            show Go p e below s _ _ _ s₁ (mkF m 142 #[.val (.int k)] [])
                                            refine Go.st (fun _ => XS.iloadN X0.here hx rfl (hb hby d1_142) rfl) ?_
                                            show Go p e below s _ _ _ s₁ (mkF m 143 #[.val (.int k)] [(.int k)])
                                            refine Go.st (fun _ => XS.sipush X0.here hx rfl (hb hby d1_143)) ?_
                                            show Go p e below s _ _ _ s₁ (mkF m 146 #[.val (.int k)] [(.int (12289 : Int32)), (.int k)])
                                            by_cases hc_22 : k < (12289 : Int32)
                                            · refine Go.st (fun _ => XS.icmpYes X0.here hx rfl (pc0 := 146) (pc' := 155) rfl (hb hby d1_146) rfl (tlt hc_22).1 (by decide) (by decide)) ?_
                                              show Go p e below s _ _ _ s₁ (mkF m 155 #[.val (.int k)] [])
                                              refine Go.st (fun _ => XS.iloadN X0.here hx rfl (hb hby d1_155) rfl) ?_
                                              show Go p e below s _ _ _ s₁ (mkF m 156 #[.val (.int k)] [(.int k)])
                                              refine Go.st (fun tG => X0.ldcInt hx hown (mvT hZ (hw _ (List.mem_of_getElem? (i := 16) rfl))) (g := (mkF m 156 #[.val (.int k)] [(.int k)])) rfl (hb hby d1_156) tG) ?_
                                              show Go p e below s _ _ _ s₁ (mkF m 158 #[.val (.int k)] [(.int (63744 : Int32)), (.int k)])
                                              refine Go.st (fun _ => XS.icmpYes X0.here hx rfl (pc0 := 158) (pc' := 167) rfl (hb hby d1_158) rfl (tlt (own_i1 hc_22 (by decide) : k < (63744 : Int32))).1 (by decide) (by decide)) ?_
                                              show Go p e below s _ _ _ s₁ (mkF m 167 #[.val (.int k)] [])
                                              refine Go.st (fun _ => XS.iloadN X0.here hx rfl (hb hby d1_167) rfl) ?_
                                              show Go p e below s _ _ _ s₁ (mkF m 168 #[.val (.int k)] [(.int k)])
                                              refine Go.st (fun tG => X0.ldcInt hx hown (mvT hZ (hw _ (List.mem_of_getElem? (i := 17) rfl))) (g := (mkF m 168 #[.val (.int k)] [(.int k)])) rfl (hb hby d1_168) tG) ?_
                                              show Go p e below s _ _ _ s₁ (mkF m 170 #[.val (.int k)] [(.int (65008 : Int32)), (.int k)])
                                              refine Go.st (fun _ => XS.icmpYes X0.here hx rfl (pc0 := 170) (pc' := 179) rfl (hb hby d1_170) rfl (tlt (own_i1 hc_22 (by decide) : k < (65008 : Int32))).1 (by decide) (by decide)) ?_
                                              show Go p e below s _ _ _ s₁ (mkF m 179 #[.val (.int k)] [])
                                              refine Go.st (fun _ => XS.iloadN X0.here hx rfl (hb hby d1_179) rfl) ?_
                                              show Go p e below s _ _ _ s₁ (mkF m 180 #[.val (.int k)] [(.int k)])
                                              refine Go.st (fun tG => X0.ldcInt hx hown (mvT hZ (hw _ (List.mem_of_getElem? (i := 18) rfl))) (g := (mkF m 180 #[.val (.int k)] [(.int k)])) rfl (hb hby d1_180) tG) ?_
                                              show Go p e below s _ _ _ s₁ (mkF m 182 #[.val (.int k)] [(.int (65536 : Int32)), (.int k)])
                                              refine Go.st (fun _ => XS.icmpYes X0.here hx rfl (pc0 := 182) (pc' := 191) rfl (hb hby d1_182) rfl (tlt (own_i1 hc_22 (by decide) : k < (65536 : Int32))).1 (by decide) (by decide)) ?_
                                              show Go p e below s _ _ _ s₁ (mkF m 191 #[.val (.int k)] [])
                                              refine Go.st (fun _ => XS.iloadN X0.here hx rfl (hb hby d1_191) rfl) ?_
                                              show Go p e below s _ _ _ s₁ (mkF m 192 #[.val (.int k)] [(.int k)])
                                              refine Go.st (fun tG => X0.ldcInt hx hown (mvT hZ (hw _ (List.mem_of_getElem? (i := 19) rfl))) (g := (mkF m 192 #[.val (.int k)] [(.int k)])) rfl (hb hby d1_192) tG) ?_
                                              show Go p e below s _ _ _ s₁ (mkF m 194 #[.val (.int k)] [(.int (55296 : Int32)), (.int k)])
                                              refine Go.st (fun _ => XS.icmpYes X0.here hx rfl (pc0 := 194) (pc' := 207) rfl (hb hby d1_194) rfl (tlt (own_i1 hc_22 (by decide) : k < (55296 : Int32))).1 (by decide) (by decide)) ?_
                                              show Go p e below s _ _ _ s₁ (mkF m 207 #[.val (.int k)] [])
                                              refine Go.st (fun _ => XS.iconst X0.here hx rfl (hb hby d1_207)) ?_
                                              show Go p e below s _ _ _ s₁ (mkF m 208 #[.val (.int k)] [(.int (0 : Int32))])
                                              exact Go.retZ X0 hx hlk Bd.returns (hb hby d1_208) rfl (by rw [e0]; exact ⟨(own_b2i_f (by have := own_c4 hc_21 (by decide : (12271 : Int32).toInt = 12271); have := own_c1 hc_22 (by decide : (12289 : Int32).toInt = 12289); have := own_c6 hc_3 (by decide : (95 : Int32).toInt = 95); exact own_ns_f (by omega))), N0, rfl⟩) (by decide) (by decide)
                                            · refine Go.st (fun _ => XS.icmpNo X0.here hx rfl (hb hby d1_146) rfl (flt hc_22).1) ?_
                                              show Go p e below s _ _ _ s₁ (mkF m 149 #[.val (.int k)] [])
                                              refine Go.st (fun _ => XS.iloadN X0.here hx rfl (hb hby d1_149) rfl) ?_
                                              show Go p e below s _ _ _ s₁ (mkF m 150 #[.val (.int k)] [(.int k)])
                                              refine Go.st (fun tG => X0.ldcInt hx hown (mvT hZ (hw _ (List.mem_of_getElem? (i := 36) rfl))) (g := (mkF m 150 #[.val (.int k)] [(.int k)])) rfl (hb hby d1_150) tG) ?_
                                              show Go p e below s _ _ _ s₁ (mkF m 152 #[.val (.int k)] [(.int (55295 : Int32)), (.int k)])
                                              by_cases hc_23 : (55295 : Int32) < k
                                              · refine Go.st (fun _ => XS.icmpNo X0.here hx rfl (hb hby d1_152) rfl (tlt hc_23).2.2.2) ?_
                                                show Go p e below s _ _ _ s₁ (mkF m 155 #[.val (.int k)] [])
                                                refine Go.st (fun _ => XS.iloadN X0.here hx rfl (hb hby d1_155) rfl) ?_
                                                show Go p e below s _ _ _ s₁ (mkF m 156 #[.val (.int k)] [(.int k)])
                                                refine Go.st (fun tG => X0.ldcInt hx hown (mvT hZ (hw _ (List.mem_of_getElem? (i := 16) rfl))) (g := (mkF m 156 #[.val (.int k)] [(.int k)])) rfl (hb hby d1_156) tG) ?_
                                                show Go p e below s _ _ _ s₁ (mkF m 158 #[.val (.int k)] [(.int (63744 : Int32)), (.int k)])
                                                by_cases hc_24 : k < (63744 : Int32)
                                                · refine Go.st (fun _ => XS.icmpYes X0.here hx rfl (pc0 := 158) (pc' := 167) rfl (hb hby d1_158) rfl (tlt hc_24).1 (by decide) (by decide)) ?_
                                                  show Go p e below s _ _ _ s₁ (mkF m 167 #[.val (.int k)] [])
                                                  refine Go.st (fun _ => XS.iloadN X0.here hx rfl (hb hby d1_167) rfl) ?_
                                                  show Go p e below s _ _ _ s₁ (mkF m 168 #[.val (.int k)] [(.int k)])
                                                  refine Go.st (fun tG => X0.ldcInt hx hown (mvT hZ (hw _ (List.mem_of_getElem? (i := 17) rfl))) (g := (mkF m 168 #[.val (.int k)] [(.int k)])) rfl (hb hby d1_168) tG) ?_
                                                  show Go p e below s _ _ _ s₁ (mkF m 170 #[.val (.int k)] [(.int (65008 : Int32)), (.int k)])
                                                  refine Go.st (fun _ => XS.icmpYes X0.here hx rfl (pc0 := 170) (pc' := 179) rfl (hb hby d1_170) rfl (tlt (own_i1 hc_24 (by decide) : k < (65008 : Int32))).1 (by decide) (by decide)) ?_
                                                  show Go p e below s _ _ _ s₁ (mkF m 179 #[.val (.int k)] [])
                                                  refine Go.st (fun _ => XS.iloadN X0.here hx rfl (hb hby d1_179) rfl) ?_
                                                  show Go p e below s _ _ _ s₁ (mkF m 180 #[.val (.int k)] [(.int k)])
                                                  refine Go.st (fun tG => X0.ldcInt hx hown (mvT hZ (hw _ (List.mem_of_getElem? (i := 18) rfl))) (g := (mkF m 180 #[.val (.int k)] [(.int k)])) rfl (hb hby d1_180) tG) ?_
                                                  show Go p e below s _ _ _ s₁ (mkF m 182 #[.val (.int k)] [(.int (65536 : Int32)), (.int k)])
                                                  refine Go.st (fun _ => XS.icmpYes X0.here hx rfl (pc0 := 182) (pc' := 191) rfl (hb hby d1_182) rfl (tlt (own_i1 hc_24 (by decide) : k < (65536 : Int32))).1 (by decide) (by decide)) ?_
                                                  show Go p e below s _ _ _ s₁ (mkF m 191 #[.val (.int k)] [])
                                                  refine Go.st (fun _ => XS.iloadN X0.here hx rfl (hb hby d1_191) rfl) ?_
                                                  show Go p e below s _ _ _ s₁ (mkF m 192 #[.val (.int k)] [(.int k)])
                                                  refine Go.st (fun tG => X0.ldcInt hx hown (mvT hZ (hw _ (List.mem_of_getElem? (i := 19) rfl))) (g := (mkF m 192 #[.val (.int k)] [(.int k)])) rfl (hb hby d1_192) tG) ?_
                                                  show Go p e below s _ _ _ s₁ (mkF m 194 #[.val (.int k)] [(.int (55296 : Int32)), (.int k)])
                                                  refine Go.st (fun _ => XS.icmpNo X0.here hx rfl (hb hby d1_194) rfl (flt (own_i4 hc_23 (by decide) : ¬ (k < (55296 : Int32)))).1) ?_
                                                  show Go p e below s _ _ _ s₁ (mkF m 197 #[.val (.int k)] [])
                                                  refine Go.st (fun _ => XS.iloadN X0.here hx rfl (hb hby d1_197) rfl) ?_
                                                  show Go p e below s _ _ _ s₁ (mkF m 198 #[.val (.int k)] [(.int k)])
                                                  refine Go.st (fun tG => X0.ldcInt hx hown (mvT hZ (hw _ (List.mem_of_getElem? (i := 40) rfl))) (g := (mkF m 198 #[.val (.int k)] [(.int k)])) rfl (hb hby d1_198) tG) ?_
                                                  show Go p e below s _ _ _ s₁ (mkF m 200 #[.val (.int k)] [(.int (56191 : Int32)), (.int k)])
                                                  by_cases hc_25 : (56191 : Int32) < k
                                                  · refine Go.st (fun _ => XS.icmpYes X0.here hx rfl (pc0 := 200) (pc' := 207) rfl (hb hby d1_200) rfl (tlt hc_25).2.2.1 (by decide) (by decide)) ?_
                                                    show Go p e below s _ _ _ s₁ (mkF m 207 #[.val (.int k)] [])
                                                    refine Go.st (fun _ => XS.iconst X0.here hx rfl (hb hby d1_207)) ?_
                                                    show Go p e below s _ _ _ s₁ (mkF m 208 #[.val (.int k)] [(.int (0 : Int32))])
                                                    exact Go.retZ X0 hx hlk Bd.returns (hb hby d1_208) rfl (by rw [e0]; exact ⟨(own_b2i_f (by have := own_c4 hc_25 (by decide : (56191 : Int32).toInt = 56191); have := own_c1 hc_24 (by decide : (63744 : Int32).toInt = 63744); have := own_c6 hc_3 (by decide : (95 : Int32).toInt = 95); exact own_ns_f (by omega))), N0, rfl⟩) (by decide) (by decide)
                                                  · refine Go.st (fun _ => XS.icmpNo X0.here hx rfl (hb hby d1_200) rfl (flt hc_25).2.2.1) ?_
                                                    show Go p e below s _ _ _ s₁ (mkF m 203 #[.val (.int k)] [])
                                                    refine Go.st (fun _ => XS.iconst X0.here hx rfl (hb hby d1_203)) ?_
                                                    show Go p e below s _ _ _ s₁ (mkF m 204 #[.val (.int k)] [(.int (1 : Int32))])
                                                    refine Go.st (fun _ => XS.goto X0.here hx rfl (pc0 := 204) (pc' := 208) rfl (hb hby d1_204) (by decide) (by decide)) ?_
                                                    show Go p e below s _ _ _ s₁ (mkF m 208 #[.val (.int k)] [(.int (1 : Int32))])
                                                    exact Go.retZ X0 hx hlk Bd.returns (hb hby d1_208) rfl (by rw [e0]; exact ⟨(own_b2i_t (by have := own_c4 hc_23 (by decide : (55295 : Int32).toInt = 55295); have := own_c2 hc_25 (by decide : (56191 : Int32).toInt = 56191); have := own_c6 hc_3 (by decide : (95 : Int32).toInt = 95); exact own_ns_t (by omega))), N0, rfl⟩) (by decide) (by decide)
                                                · refine Go.st (fun _ => XS.icmpNo X0.here hx rfl (hb hby d1_158) rfl (flt hc_24).1) ?_
                                                  show Go p e below s _ _ _ s₁ (mkF m 161 #[.val (.int k)] [])
                                                  refine Go.st (fun _ => XS.iloadN X0.here hx rfl (hb hby d1_161) rfl) ?_
                                                  show Go p e below s _ _ _ s₁ (mkF m 162 #[.val (.int k)] [(.int k)])
                                                  refine Go.st (fun tG => X0.ldcInt hx hown (mvT hZ (hw _ (List.mem_of_getElem? (i := 37) rfl))) (g := (mkF m 162 #[.val (.int k)] [(.int k)])) rfl (hb hby d1_162) tG) ?_
                                                  show Go p e below s _ _ _ s₁ (mkF m 164 #[.val (.int k)] [(.int (64975 : Int32)), (.int k)])
                                                  by_cases hc_26 : (64975 : Int32) < k
                                                  · refine Go.st (fun _ => XS.icmpNo X0.here hx rfl (hb hby d1_164) rfl (tlt hc_26).2.2.2) ?_
                                                    show Go p e below s _ _ _ s₁ (mkF m 167 #[.val (.int k)] [])
                                                    refine Go.st (fun _ => XS.iloadN X0.here hx rfl (hb hby d1_167) rfl) ?_
                                                    show Go p e below s _ _ _ s₁ (mkF m 168 #[.val (.int k)] [(.int k)])
                                                    refine Go.st (fun tG => X0.ldcInt hx hown (mvT hZ (hw _ (List.mem_of_getElem? (i := 17) rfl))) (g := (mkF m 168 #[.val (.int k)] [(.int k)])) rfl (hb hby d1_168) tG) ?_
                                                    show Go p e below s _ _ _ s₁ (mkF m 170 #[.val (.int k)] [(.int (65008 : Int32)), (.int k)])
                                                    by_cases hc_27 : k < (65008 : Int32)
                                                    · refine Go.st (fun _ => XS.icmpYes X0.here hx rfl (pc0 := 170) (pc' := 179) rfl (hb hby d1_170) rfl (tlt hc_27).1 (by decide) (by decide)) ?_
                                                      show Go p e below s _ _ _ s₁ (mkF m 179 #[.val (.int k)] [])
                                                      refine Go.st (fun _ => XS.iloadN X0.here hx rfl (hb hby d1_179) rfl) ?_
                                                      show Go p e below s _ _ _ s₁ (mkF m 180 #[.val (.int k)] [(.int k)])
                                                      refine Go.st (fun tG => X0.ldcInt hx hown (mvT hZ (hw _ (List.mem_of_getElem? (i := 18) rfl))) (g := (mkF m 180 #[.val (.int k)] [(.int k)])) rfl (hb hby d1_180) tG) ?_
                                                      show Go p e below s _ _ _ s₁ (mkF m 182 #[.val (.int k)] [(.int (65536 : Int32)), (.int k)])
                                                      refine Go.st (fun _ => XS.icmpYes X0.here hx rfl (pc0 := 182) (pc' := 191) rfl (hb hby d1_182) rfl (tlt (own_i1 hc_27 (by decide) : k < (65536 : Int32))).1 (by decide) (by decide)) ?_
                                                      show Go p e below s _ _ _ s₁ (mkF m 191 #[.val (.int k)] [])
                                                      refine Go.st (fun _ => XS.iloadN X0.here hx rfl (hb hby d1_191) rfl) ?_
                                                      show Go p e below s _ _ _ s₁ (mkF m 192 #[.val (.int k)] [(.int k)])
                                                      refine Go.st (fun tG => X0.ldcInt hx hown (mvT hZ (hw _ (List.mem_of_getElem? (i := 19) rfl))) (g := (mkF m 192 #[.val (.int k)] [(.int k)])) rfl (hb hby d1_192) tG) ?_
                                                      show Go p e below s _ _ _ s₁ (mkF m 194 #[.val (.int k)] [(.int (55296 : Int32)), (.int k)])
                                                      refine Go.st (fun _ => XS.icmpNo X0.here hx rfl (hb hby d1_194) rfl (flt (own_i4 hc_26 (by decide) : ¬ (k < (55296 : Int32)))).1) ?_
                                                      show Go p e below s _ _ _ s₁ (mkF m 197 #[.val (.int k)] [])
                                                      refine Go.st (fun _ => XS.iloadN X0.here hx rfl (hb hby d1_197) rfl) ?_
                                                      show Go p e below s _ _ _ s₁ (mkF m 198 #[.val (.int k)] [(.int k)])
                                                      refine Go.st (fun tG => X0.ldcInt hx hown (mvT hZ (hw _ (List.mem_of_getElem? (i := 40) rfl))) (g := (mkF m 198 #[.val (.int k)] [(.int k)])) rfl (hb hby d1_198) tG) ?_
                                                      show Go p e below s _ _ _ s₁ (mkF m 200 #[.val (.int k)] [(.int (56191 : Int32)), (.int k)])
                                                      refine Go.st (fun _ => XS.icmpYes X0.here hx rfl (pc0 := 200) (pc' := 207) rfl (hb hby d1_200) rfl (tlt (own_j4 hc_26 (by decide) : (56191 : Int32) < k)).2.2.1 (by decide) (by decide)) ?_
                                                      show Go p e below s _ _ _ s₁ (mkF m 207 #[.val (.int k)] [])
                                                      refine Go.st (fun _ => XS.iconst X0.here hx rfl (hb hby d1_207)) ?_
                                                      show Go p e below s _ _ _ s₁ (mkF m 208 #[.val (.int k)] [(.int (0 : Int32))])
                                                      exact Go.retZ X0 hx hlk Bd.returns (hb hby d1_208) rfl (by rw [e0]; exact ⟨(own_b2i_f (by have := own_c4 hc_26 (by decide : (64975 : Int32).toInt = 64975); have := own_c1 hc_27 (by decide : (65008 : Int32).toInt = 65008); have := own_c6 hc_3 (by decide : (95 : Int32).toInt = 95); exact own_ns_f (by omega))), N0, rfl⟩) (by decide) (by decide)
                                                    · refine Go.st (fun _ => XS.icmpNo X0.here hx rfl (hb hby d1_170) rfl (flt hc_27).1) ?_
                                                      show Go p e below s _ _ _ s₁ (mkF m 173 #[.val (.int k)] [])
                                                      refine Go.st (fun _ => XS.iloadN X0.here hx rfl (hb hby d1_173) rfl) ?_
                                                      show Go p e below s _ _ _ s₁ (mkF m 174 #[.val (.int k)] [(.int k)])
                                                      refine Go.st (fun tG => X0.ldcInt hx hown (mvT hZ (hw _ (List.mem_of_getElem? (i := 38) rfl))) (g := (mkF m 174 #[.val (.int k)] [(.int k)])) rfl (hb hby d1_174) tG) ?_
                                                      show Go p e below s _ _ _ s₁ (mkF m 176 #[.val (.int k)] [(.int (65533 : Int32)), (.int k)])
                                                      by_cases hc_28 : (65533 : Int32) < k
                                                      · refine Go.st (fun _ => XS.icmpNo X0.here hx rfl (hb hby d1_176) rfl (tlt hc_28).2.2.2) ?_
                                                        show Go p e below s _ _ _ s₁ (mkF m 179 #[.val (.int k)] [])
                                                        refine Go.st (fun _ => XS.iloadN X0.here hx rfl (hb hby d1_179) rfl) ?_
                                                        show Go p e below s _ _ _ s₁ (mkF m 180 #[.val (.int k)] [(.int k)])
                                                        refine Go.st (fun tG => X0.ldcInt hx hown (mvT hZ (hw _ (List.mem_of_getElem? (i := 18) rfl))) (g := (mkF m 180 #[.val (.int k)] [(.int k)])) rfl (hb hby d1_180) tG) ?_
                                                        show Go p e below s _ _ _ s₁ (mkF m 182 #[.val (.int k)] [(.int (65536 : Int32)), (.int k)])
                                                        by_cases hc_29 : k < (65536 : Int32)
                                                        · refine Go.st (fun _ => XS.icmpYes X0.here hx rfl (pc0 := 182) (pc' := 191) rfl (hb hby d1_182) rfl (tlt hc_29).1 (by decide) (by decide)) ?_
                                                          show Go p e below s _ _ _ s₁ (mkF m 191 #[.val (.int k)] [])
                                                          refine Go.st (fun _ => XS.iloadN X0.here hx rfl (hb hby d1_191) rfl) ?_
                                                          show Go p e below s _ _ _ s₁ (mkF m 192 #[.val (.int k)] [(.int k)])
                                                          refine Go.st (fun tG => X0.ldcInt hx hown (mvT hZ (hw _ (List.mem_of_getElem? (i := 19) rfl))) (g := (mkF m 192 #[.val (.int k)] [(.int k)])) rfl (hb hby d1_192) tG) ?_
                                                          show Go p e below s _ _ _ s₁ (mkF m 194 #[.val (.int k)] [(.int (55296 : Int32)), (.int k)])
                                                          refine Go.st (fun _ => XS.icmpNo X0.here hx rfl (hb hby d1_194) rfl (flt (own_i4 hc_28 (by decide) : ¬ (k < (55296 : Int32)))).1) ?_
                                                          show Go p e below s _ _ _ s₁ (mkF m 197 #[.val (.int k)] [])
                                                          refine Go.st (fun _ => XS.iloadN X0.here hx rfl (hb hby d1_197) rfl) ?_
                                                          show Go p e below s _ _ _ s₁ (mkF m 198 #[.val (.int k)] [(.int k)])
                                                          refine Go.st (fun tG => X0.ldcInt hx hown (mvT hZ (hw _ (List.mem_of_getElem? (i := 40) rfl))) (g := (mkF m 198 #[.val (.int k)] [(.int k)])) rfl (hb hby d1_198) tG) ?_
                                                          show Go p e below s _ _ _ s₁ (mkF m 200 #[.val (.int k)] [(.int (56191 : Int32)), (.int k)])
                                                          refine Go.st (fun _ => XS.icmpYes X0.here hx rfl (pc0 := 200) (pc' := 207) rfl (hb hby d1_200) rfl (tlt (own_j4 hc_28 (by decide) : (56191 : Int32) < k)).2.2.1 (by decide) (by decide)) ?_
                                                          show Go p e below s _ _ _ s₁ (mkF m 207 #[.val (.int k)] [])
                                                          refine Go.st (fun _ => XS.iconst X0.here hx rfl (hb hby d1_207)) ?_
                                                          show Go p e below s _ _ _ s₁ (mkF m 208 #[.val (.int k)] [(.int (0 : Int32))])
                                                          exact Go.retZ X0 hx hlk Bd.returns (hb hby d1_208) rfl (by rw [e0]; exact ⟨(own_b2i_f (by have := own_c4 hc_28 (by decide : (65533 : Int32).toInt = 65533); have := own_c1 hc_29 (by decide : (65536 : Int32).toInt = 65536); have := own_c6 hc_3 (by decide : (95 : Int32).toInt = 95); exact own_ns_f (by omega))), N0, rfl⟩) (by decide) (by decide)
                                                        · refine Go.st (fun _ => XS.icmpNo X0.here hx rfl (hb hby d1_182) rfl (flt hc_29).1) ?_
                                                          show Go p e below s _ _ _ s₁ (mkF m 185 #[.val (.int k)] [])
                                                          refine Go.st (fun _ => XS.iloadN X0.here hx rfl (hb hby d1_185) rfl) ?_
                                                          show Go p e below s _ _ _ s₁ (mkF m 186 #[.val (.int k)] [(.int k)])
                                                          refine Go.st (fun tG => X0.ldcInt hx hown (mvT hZ (hw _ (List.mem_of_getElem? (i := 39) rfl))) (g := (mkF m 186 #[.val (.int k)] [(.int k)])) rfl (hb hby d1_186) tG) ?_
                                                          show Go p e below s _ _ _ s₁ (mkF m 188 #[.val (.int k)] [(.int (983039 : Int32)), (.int k)])
                                                          by_cases hc_30 : (983039 : Int32) < k
                                                          · refine Go.st (fun _ => XS.icmpNo X0.here hx rfl (hb hby d1_188) rfl (tlt hc_30).2.2.2) ?_
                                                            show Go p e below s _ _ _ s₁ (mkF m 191 #[.val (.int k)] [])
                                                            refine Go.st (fun _ => XS.iloadN X0.here hx rfl (hb hby d1_191) rfl) ?_
                                                            show Go p e below s _ _ _ s₁ (mkF m 192 #[.val (.int k)] [(.int k)])
                                                            refine Go.st (fun tG => X0.ldcInt hx hown (mvT hZ (hw _ (List.mem_of_getElem? (i := 19) rfl))) (g := (mkF m 192 #[.val (.int k)] [(.int k)])) rfl (hb hby d1_192) tG) ?_
                                                            show Go p e below s _ _ _ s₁ (mkF m 194 #[.val (.int k)] [(.int (55296 : Int32)), (.int k)])
                                                            refine Go.st (fun _ => XS.icmpNo X0.here hx rfl (hb hby d1_194) rfl (flt (own_i4 hc_30 (by decide) : ¬ (k < (55296 : Int32)))).1) ?_
                                                            show Go p e below s _ _ _ s₁ (mkF m 197 #[.val (.int k)] [])
                                                            refine Go.st (fun _ => XS.iloadN X0.here hx rfl (hb hby d1_197) rfl) ?_
                                                            show Go p e below s _ _ _ s₁ (mkF m 198 #[.val (.int k)] [(.int k)])
                                                            refine Go.st (fun tG => X0.ldcInt hx hown (mvT hZ (hw _ (List.mem_of_getElem? (i := 40) rfl))) (g := (mkF m 198 #[.val (.int k)] [(.int k)])) rfl (hb hby d1_198) tG) ?_
                                                            show Go p e below s _ _ _ s₁ (mkF m 200 #[.val (.int k)] [(.int (56191 : Int32)), (.int k)])
                                                            refine Go.st (fun _ => XS.icmpYes X0.here hx rfl (pc0 := 200) (pc' := 207) rfl (hb hby d1_200) rfl (tlt (own_j4 hc_30 (by decide) : (56191 : Int32) < k)).2.2.1 (by decide) (by decide)) ?_
                                                            show Go p e below s _ _ _ s₁ (mkF m 207 #[.val (.int k)] [])
                                                            refine Go.st (fun _ => XS.iconst X0.here hx rfl (hb hby d1_207)) ?_
                                                            show Go p e below s _ _ _ s₁ (mkF m 208 #[.val (.int k)] [(.int (0 : Int32))])
                                                            exact Go.retZ X0 hx hlk Bd.returns (hb hby d1_208) rfl (by rw [e0]; exact ⟨(own_b2i_f (by have := own_c4 hc_30 (by decide : (983039 : Int32).toInt = 983039); have := own_c6 hc_3 (by decide : (95 : Int32).toInt = 95); exact own_ns_f (by omega))), N0, rfl⟩) (by decide) (by decide)
                                                          · refine Go.st (fun _ => XS.icmpYes X0.here hx rfl (pc0 := 188) (pc' := 203) rfl (hb hby d1_188) rfl (flt hc_30).2.2.2 (by decide) (by decide)) ?_
                                                            show Go p e below s _ _ _ s₁ (mkF m 203 #[.val (.int k)] [])
                                                            refine Go.st (fun _ => XS.iconst X0.here hx rfl (hb hby d1_203)) ?_
                                                            show Go p e below s _ _ _ s₁ (mkF m 204 #[.val (.int k)] [(.int (1 : Int32))])
                                                            refine Go.st (fun _ => XS.goto X0.here hx rfl (pc0 := 204) (pc' := 208) rfl (hb hby d1_204) (by decide) (by decide)) ?_
                                                            show Go p e below s _ _ _ s₁ (mkF m 208 #[.val (.int k)] [(.int (1 : Int32))])
                                                            exact Go.retZ X0 hx hlk Bd.returns (hb hby d1_208) rfl (by rw [e0]; exact ⟨(own_b2i_t (by have := own_c3 hc_29 (by decide : (65536 : Int32).toInt = 65536); have := own_c2 hc_30 (by decide : (983039 : Int32).toInt = 983039); have := own_c6 hc_3 (by decide : (95 : Int32).toInt = 95); exact own_ns_t (by omega))), N0, rfl⟩) (by decide) (by decide)
                                                      · refine Go.st (fun _ => XS.icmpYes X0.here hx rfl (pc0 := 176) (pc' := 203) rfl (hb hby d1_176) rfl (flt hc_28).2.2.2 (by decide) (by decide)) ?_
                                                        show Go p e below s _ _ _ s₁ (mkF m 203 #[.val (.int k)] [])
                                                        refine Go.st (fun _ => XS.iconst X0.here hx rfl (hb hby d1_203)) ?_
                                                        show Go p e below s _ _ _ s₁ (mkF m 204 #[.val (.int k)] [(.int (1 : Int32))])
                                                        refine Go.st (fun _ => XS.goto X0.here hx rfl (pc0 := 204) (pc' := 208) rfl (hb hby d1_204) (by decide) (by decide)) ?_
                                                        show Go p e below s _ _ _ s₁ (mkF m 208 #[.val (.int k)] [(.int (1 : Int32))])
                                                        exact Go.retZ X0 hx hlk Bd.returns (hb hby d1_208) rfl (by rw [e0]; exact ⟨(own_b2i_t (by have := own_c3 hc_27 (by decide : (65008 : Int32).toInt = 65008); have := own_c2 hc_28 (by decide : (65533 : Int32).toInt = 65533); have := own_c6 hc_3 (by decide : (95 : Int32).toInt = 95); exact own_ns_t (by omega))), N0, rfl⟩) (by decide) (by decide)
                                                  · refine Go.st (fun _ => XS.icmpYes X0.here hx rfl (pc0 := 164) (pc' := 203) rfl (hb hby d1_164) rfl (flt hc_26).2.2.2 (by decide) (by decide)) ?_
                                                    show Go p e below s _ _ _ s₁ (mkF m 203 #[.val (.int k)] [])
                                                    refine Go.st (fun _ => XS.iconst X0.here hx rfl (hb hby d1_203)) ?_
                                                    show Go p e below s _ _ _ s₁ (mkF m 204 #[.val (.int k)] [(.int (1 : Int32))])
                                                    refine Go.st (fun _ => XS.goto X0.here hx rfl (pc0 := 204) (pc' := 208) rfl (hb hby d1_204) (by decide) (by decide)) ?_
                                                    show Go p e below s _ _ _ s₁ (mkF m 208 #[.val (.int k)] [(.int (1 : Int32))])
                                                    exact Go.retZ X0 hx hlk Bd.returns (hb hby d1_208) rfl (by rw [e0]; exact ⟨(own_b2i_t (by have := own_c3 hc_24 (by decide : (63744 : Int32).toInt = 63744); have := own_c2 hc_26 (by decide : (64975 : Int32).toInt = 64975); have := own_c6 hc_3 (by decide : (95 : Int32).toInt = 95); exact own_ns_t (by omega))), N0, rfl⟩) (by decide) (by decide)
                                              · refine Go.st (fun _ => XS.icmpYes X0.here hx rfl (pc0 := 152) (pc' := 203) rfl (hb hby d1_152) rfl (flt hc_23).2.2.2 (by decide) (by decide)) ?_
                                                show Go p e below s _ _ _ s₁ (mkF m 203 #[.val (.int k)] [])
                                                refine Go.st (fun _ => XS.iconst X0.here hx rfl (hb hby d1_203)) ?_
                                                show Go p e below s _ _ _ s₁ (mkF m 204 #[.val (.int k)] [(.int (1 : Int32))])
                                                refine Go.st (fun _ => XS.goto X0.here hx rfl (pc0 := 204) (pc' := 208) rfl (hb hby d1_204) (by decide) (by decide)) ?_
                                                show Go p e below s _ _ _ s₁ (mkF m 208 #[.val (.int k)] [(.int (1 : Int32))])
                                                exact Go.retZ X0 hx hlk Bd.returns (hb hby d1_208) rfl (by rw [e0]; exact ⟨(own_b2i_t (by have := own_c3 hc_22 (by decide : (12289 : Int32).toInt = 12289); have := own_c2 hc_23 (by decide : (55295 : Int32).toInt = 55295); have := own_c6 hc_3 (by decide : (95 : Int32).toInt = 95); exact own_ns_t (by omega))), N0, rfl⟩) (by decide) (by decide)
                                          · refine Go.st (fun _ => XS.icmpYes X0.here hx rfl (pc0 := 139) (pc' := 203) rfl (hb hby d1_139) rfl (flt hc_21).2.2.2 (by decide) (by decide)) ?_
                                            show Go p e below s _ _ _ s₁ (mkF m 203 #[.val (.int k)] [])
                                            refine Go.st (fun _ => XS.iconst X0.here hx rfl (hb hby d1_203)) ?_
                                            show Go p e below s _ _ _ s₁ (mkF m 204 #[.val (.int k)] [(.int (1 : Int32))])
                                            refine Go.st (fun _ => XS.goto X0.here hx rfl (pc0 := 204) (pc' := 208) rfl (hb hby d1_204) (by decide) (by decide)) ?_
                                            show Go p e below s _ _ _ s₁ (mkF m 208 #[.val (.int k)] [(.int (1 : Int32))])
                                            exact Go.retZ X0 hx hlk Bd.returns (hb hby d1_208) rfl (by rw [e0]; exact ⟨(own_b2i_t (by have := own_c3 hc_20 (by decide : (11264 : Int32).toInt = 11264); have := own_c2 hc_21 (by decide : (12271 : Int32).toInt = 12271); have := own_c6 hc_3 (by decide : (95 : Int32).toInt = 95); exact own_ns_t (by omega))), N0, rfl⟩) (by decide) (by decide)
                                      · refine Go.st (fun _ => XS.icmpYes X0.here hx rfl (pc0 := 125) (pc' := 203) rfl (hb hby d1_125) rfl (flt hc_19).2.2.2 (by decide) (by decide)) ?_
                                        show Go p e below s _ _ _ s₁ (mkF m 203 #[.val (.int k)] [])
                                        refine Go.st (fun _ => XS.iconst X0.here hx rfl (hb hby d1_203)) ?_
                                        show Go p e below s _ _ _ s₁ (mkF m 204 #[.val (.int k)] [(.int (1 : Int32))])
                                        refine Go.st (fun _ => XS.goto X0.here hx rfl (pc0 := 204) (pc' := 208) rfl (hb hby d1_204) (by decide) (by decide)) ?_
                                        show Go p e below s _ _ _ s₁ (mkF m 208 #[.val (.int k)] [(.int (1 : Int32))])
                                        exact Go.retZ X0 hx hlk Bd.returns (hb hby d1_208) rfl (by rw [e0]; exact ⟨(own_b2i_t (by have := own_c3 hc_18 (by decide : (8304 : Int32).toInt = 8304); have := own_c2 hc_19 (by decide : (8591 : Int32).toInt = 8591); have := own_c6 hc_3 (by decide : (95 : Int32).toInt = 95); exact own_ns_t (by omega))), N0, rfl⟩) (by decide) (by decide)
                                  · refine Go.st (fun _ => XS.icmpYes X0.here hx rfl (pc0 := 111) (pc' := 203) rfl (hb hby d1_111) rfl (flt hc_17).2.2.2 (by decide) (by decide)) ?_
                                    show Go p e below s _ _ _ s₁ (mkF m 203 #[.val (.int k)] [])
                                    refine Go.st (fun _ => XS.iconst X0.here hx rfl (hb hby d1_203)) ?_
                                    show Go p e below s _ _ _ s₁ (mkF m 204 #[.val (.int k)] [(.int (1 : Int32))])
                                    refine Go.st (fun _ => XS.goto X0.here hx rfl (pc0 := 204) (pc' := 208) rfl (hb hby d1_204) (by decide) (by decide)) ?_
                                    show Go p e below s _ _ _ s₁ (mkF m 208 #[.val (.int k)] [(.int (1 : Int32))])
                                    exact Go.retZ X0 hx hlk Bd.returns (hb hby d1_208) rfl (by rw [e0]; exact ⟨(own_b2i_t (by have := own_c3 hc_16 (by decide : (8204 : Int32).toInt = 8204); have := own_c2 hc_17 (by decide : (8205 : Int32).toInt = 8205); have := own_c6 hc_3 (by decide : (95 : Int32).toInt = 95); exact own_ns_t (by omega))), N0, rfl⟩) (by decide) (by decide)
                              · refine Go.st (fun _ => XS.icmpYes X0.here hx rfl (pc0 := 97) (pc' := 203) rfl (hb hby d1_97) rfl (flt hc_15).2.2.2 (by decide) (by decide)) ?_
                                show Go p e below s _ _ _ s₁ (mkF m 203 #[.val (.int k)] [])
                                refine Go.st (fun _ => XS.iconst X0.here hx rfl (hb hby d1_203)) ?_
                                show Go p e below s _ _ _ s₁ (mkF m 204 #[.val (.int k)] [(.int (1 : Int32))])
                                refine Go.st (fun _ => XS.goto X0.here hx rfl (pc0 := 204) (pc' := 208) rfl (hb hby d1_204) (by decide) (by decide)) ?_
                                show Go p e below s _ _ _ s₁ (mkF m 208 #[.val (.int k)] [(.int (1 : Int32))])
                                exact Go.retZ X0 hx hlk Bd.returns (hb hby d1_208) rfl (by rw [e0]; exact ⟨(own_b2i_t (by have := own_c3 hc_14 (by decide : (895 : Int32).toInt = 895); have := own_c2 hc_15 (by decide : (8191 : Int32).toInt = 8191); have := own_c6 hc_3 (by decide : (95 : Int32).toInt = 95); exact own_ns_t (by omega))), N0, rfl⟩) (by decide) (by decide)
                          · refine Go.st (fun _ => XS.icmpYes X0.here hx rfl (pc0 := 83) (pc' := 203) rfl (hb hby d1_83) rfl (flt hc_13).2.2.2 (by decide) (by decide)) ?_
                            show Go p e below s _ _ _ s₁ (mkF m 203 #[.val (.int k)] [])
                            refine Go.st (fun _ => XS.iconst X0.here hx rfl (hb hby d1_203)) ?_
                            show Go p e below s _ _ _ s₁ (mkF m 204 #[.val (.int k)] [(.int (1 : Int32))])
                            refine Go.st (fun _ => XS.goto X0.here hx rfl (pc0 := 204) (pc' := 208) rfl (hb hby d1_204) (by decide) (by decide)) ?_
                            show Go p e below s _ _ _ s₁ (mkF m 208 #[.val (.int k)] [(.int (1 : Int32))])
                            exact Go.retZ X0 hx hlk Bd.returns (hb hby d1_208) rfl (by rw [e0]; exact ⟨(own_b2i_t (by have := own_c3 hc_12 (by decide : (880 : Int32).toInt = 880); have := own_c2 hc_13 (by decide : (893 : Int32).toInt = 893); have := own_c6 hc_3 (by decide : (95 : Int32).toInt = 95); exact own_ns_t (by omega))), N0, rfl⟩) (by decide) (by decide)
                      · refine Go.st (fun _ => XS.icmpYes X0.here hx rfl (pc0 := 69) (pc' := 203) rfl (hb hby d1_69) rfl (flt hc_11).2.2.2 (by decide) (by decide)) ?_
                        show Go p e below s _ _ _ s₁ (mkF m 203 #[.val (.int k)] [])
                        refine Go.st (fun _ => XS.iconst X0.here hx rfl (hb hby d1_203)) ?_
                        show Go p e below s _ _ _ s₁ (mkF m 204 #[.val (.int k)] [(.int (1 : Int32))])
                        refine Go.st (fun _ => XS.goto X0.here hx rfl (pc0 := 204) (pc' := 208) rfl (hb hby d1_204) (by decide) (by decide)) ?_
                        show Go p e below s _ _ _ s₁ (mkF m 208 #[.val (.int k)] [(.int (1 : Int32))])
                        exact Go.retZ X0 hx hlk Bd.returns (hb hby d1_208) rfl (by rw [e0]; exact ⟨(own_b2i_t (by have := own_c3 hc_10 (by decide : (248 : Int32).toInt = 248); have := own_c2 hc_11 (by decide : (767 : Int32).toInt = 767); have := own_c6 hc_3 (by decide : (95 : Int32).toInt = 95); exact own_ns_t (by omega))), N0, rfl⟩) (by decide) (by decide)
                  · refine Go.st (fun _ => XS.icmpYes X0.here hx rfl (pc0 := 55) (pc' := 203) rfl (hb hby d1_55) rfl (flt hc_9).2.2.2 (by decide) (by decide)) ?_
                    show Go p e below s _ _ _ s₁ (mkF m 203 #[.val (.int k)] [])
                    refine Go.st (fun _ => XS.iconst X0.here hx rfl (hb hby d1_203)) ?_
                    show Go p e below s _ _ _ s₁ (mkF m 204 #[.val (.int k)] [(.int (1 : Int32))])
                    refine Go.st (fun _ => XS.goto X0.here hx rfl (pc0 := 204) (pc' := 208) rfl (hb hby d1_204) (by decide) (by decide)) ?_
                    show Go p e below s _ _ _ s₁ (mkF m 208 #[.val (.int k)] [(.int (1 : Int32))])
                    exact Go.retZ X0 hx hlk Bd.returns (hb hby d1_208) rfl (by rw [e0]; exact ⟨(own_b2i_t (by have := own_c3 hc_8 (by decide : (216 : Int32).toInt = 216); have := own_c2 hc_9 (by decide : (246 : Int32).toInt = 246); have := own_c6 hc_3 (by decide : (95 : Int32).toInt = 95); exact own_ns_t (by omega))), N0, rfl⟩) (by decide) (by decide)
              · refine Go.st (fun _ => XS.icmpYes X0.here hx rfl (pc0 := 41) (pc' := 203) rfl (hb hby d1_41) rfl (flt hc_7).2.2.2 (by decide) (by decide)) ?_
                show Go p e below s _ _ _ s₁ (mkF m 203 #[.val (.int k)] [])
                refine Go.st (fun _ => XS.iconst X0.here hx rfl (hb hby d1_203)) ?_
                show Go p e below s _ _ _ s₁ (mkF m 204 #[.val (.int k)] [(.int (1 : Int32))])
                refine Go.st (fun _ => XS.goto X0.here hx rfl (pc0 := 204) (pc' := 208) rfl (hb hby d1_204) (by decide) (by decide)) ?_
                show Go p e below s _ _ _ s₁ (mkF m 208 #[.val (.int k)] [(.int (1 : Int32))])
                exact Go.retZ X0 hx hlk Bd.returns (hb hby d1_208) rfl (by rw [e0]; exact ⟨(own_b2i_t (by have := own_c3 hc_6 (by decide : (192 : Int32).toInt = 192); have := own_c2 hc_7 (by decide : (214 : Int32).toInt = 214); have := own_c6 hc_3 (by decide : (95 : Int32).toInt = 95); exact own_ns_t (by omega))), N0, rfl⟩) (by decide) (by decide)
          · refine Go.st (fun _ => XS.icmpYes X0.here hx rfl (pc0 := 27) (pc' := 203) rfl (hb hby d1_27) rfl (flt hc_5).2.2.2 (by decide) (by decide)) ?_
            show Go p e below s _ _ _ s₁ (mkF m 203 #[.val (.int k)] [])
            refine Go.st (fun _ => XS.iconst X0.here hx rfl (hb hby d1_203)) ?_
            show Go p e below s _ _ _ s₁ (mkF m 204 #[.val (.int k)] [(.int (1 : Int32))])
            refine Go.st (fun _ => XS.goto X0.here hx rfl (pc0 := 204) (pc' := 208) rfl (hb hby d1_204) (by decide) (by decide)) ?_
            show Go p e below s _ _ _ s₁ (mkF m 208 #[.val (.int k)] [(.int (1 : Int32))])
            exact Go.retZ X0 hx hlk Bd.returns (hb hby d1_208) rfl (by rw [e0]; exact ⟨(own_b2i_t (by have := own_c3 hc_4 (by decide : (97 : Int32).toInt = 97); have := own_c2 hc_5 (by decide : (122 : Int32).toInt = 122); have := own_c6 hc_3 (by decide : (95 : Int32).toInt = 95); exact own_ns_t (by omega))), N0, rfl⟩) (by decide) (by decide)
    · refine Go.st (fun _ => XS.icmpYes X0.here hx rfl (pc0 := 9) (pc' := 203) rfl (hb hby d1_9) rfl (flt hc_2).2.2.2 (by decide) (by decide)) ?_
      show Go p e below s _ _ _ s₁ (mkF m 203 #[.val (.int k)] [])
      refine Go.st (fun _ => XS.iconst X0.here hx rfl (hb hby d1_203)) ?_
      show Go p e below s _ _ _ s₁ (mkF m 204 #[.val (.int k)] [(.int (1 : Int32))])
      refine Go.st (fun _ => XS.goto X0.here hx rfl (pc0 := 204) (pc' := 208) rfl (hb hby d1_204) (by decide) (by decide)) ?_
      show Go p e below s _ _ _ s₁ (mkF m 208 #[.val (.int k)] [(.int (1 : Int32))])
      exact Go.retZ X0 hx hlk Bd.returns (hb hby d1_208) rfl (by rw [e0]; exact ⟨(own_b2i_t (by have := own_c3 hc_1 (by decide : (65 : Int32).toInt = 65); have := own_c2 hc_2 (by decide : (90 : Int32).toInt = 90); exact own_ns_t (by omega))), N0, rfl⟩) (by decide) (by decide)
theorem d4_0 : decode method_2_code 0 = .ok (.iload_n 0, 1) := by decide +kernel
theorem d4_1 : decode method_2_code 1 = .ok (.iload_n 1, 1) := by decide +kernel
theorem d4_2 : decode method_2_code 2 = .ok (.if_icmp .lt 12, 3) := by decide +kernel
theorem d4_14 : decode method_2_code 14 = .ok (.iconst 0, 1) := by decide +kernel
theorem d4_15 : decode method_2_code 15 = .ok (.ireturn, 1) := by decide +kernel
theorem d4_5 : decode method_2_code 5 = .ok (.iload_n 0, 1) := by decide +kernel
theorem d4_6 : decode method_2_code 6 = .ok (.iload_n 2, 1) := by decide +kernel
theorem d4_7 : decode method_2_code 7 = .ok (.if_icmp .gt 7, 3) := by decide +kernel
theorem d4_10 : decode method_2_code 10 = .ok (.iconst 1, 1) := by decide +kernel
theorem d4_11 : decode method_2_code 11 = .ok (.goto 4, 3) := by decide +kernel
theorem pn_1 : plainName "com/example/moat/moat/xpath/NamesIsNameStartPinLaw" = true := by first | (simp [plainName, overriddenIn]; done) | decide +kernel
theorem ef_rm4 (m : MethodId) (k : Int32) (lo : Int32) (hi : Int32) : entryFrame m #[(.int k), (.int lo), (.int hi)] 3 = mkF m 0 #[.val (.int k), .val (.int lo), .val (.int hi)] [] := by first | (simp [entryFrame, mkF, argsToLocals, Value.category]; done) | rfl
def Qrm4 (Z : State) (k : Int32) (lo : Int32) (hi : Int32) (h0 : Heap) (n0 : Nat) (rV : Option Value) (hE : Heap) (LE : List Loc) : Prop := rV = some (.int (b2i (¬ (k < lo) ∧ ¬ (hi < k)))) ∧ Fr n0 LE ∧ hE = h0
set_option maxRecDepth 65536 in
set_option maxHeartbeats 40000000 in
theorem rm4 (l : Launch) (Z : State) (a0 : Array Value) (hw : ∀ d ∈ tables_1, d.before a0 Z = true) (ws : List Jvm.Cond) (k : Int32) (lo : Int32) (hi : Int32) (h0 : Heap) (n0 : Nat) (Z0 : n0 ≤ h0.size) :
    MetFree l (⟨"com/example/moat/moat/xpath/NamesIsNameStartPinLaw", "in", "(III)Z"⟩ : MethodName) (head1 (Jvm.Cond.code (⟨"com/example/moat/moat/xpath/NamesIsNameStartPinLaw", "in", "(III)Z"⟩ : MethodName) method_2_code 3 (some .boolean) :: ws) ({ frames := 0, cells := 0, slots := 0, locals := 0 } : Room)) (fun aA UA => aA = #[(.int k), (.int lo), (.int hi)] ∧ Z.Warmed39 UA.vm ∧ UA.heap = h0) (fun _ _ _ _ _ => True) (fun _ UA oA UB => ∃ rV LE, oA = .returned rV ∧ Qrm4 Z k lo hi h0 n0 rV UB.heap LE ∧ FrameEnd UA oA UB LE ({ frames := 0, cells := 0, slots := 0, locals := 0 } : Room).cells ({ frames := 0, cells := 0, slots := 0, locals := 0 } : Room).slots) := by
  refine MetFree.of_bodySF (plainFor_of_name pn_1) hisR ?_
  intro p e s m args below meth c s₁ Bd hml0 hP hK
  obtain ⟨rfl, hZ, hh⟩ := hP
  have hx := Bd.exec
  have hby := Bd.bytes
  have hml : c.maxLocals = 3 := hml0
  have hown : s.vm.findClass "com/example/moat/moat/xpath/NamesIsNameStartPinLaw" = some m.cls := findClass_of_methodNamed Bd.named
  have hnm := (name_of_methodNamed Bd.named Bd.method).1
  have hlk := Bd.notSynchronized
  have X0 : Stand p l e ({ frames := 0, cells := 0, slots := 0, locals := 0 } : Room) s m #[(.int k), (.int lo), (.int hi)] below meth c s₁ [] 0 0 := Stand.of_body Bd
  have e0 : s₁.heap = h0 := by rw [← hh, Bd.state]; rfl
  have N0 := Fr.nil n0
  show Go p e below s (Qrm4 Z k lo hi h0 n0) ({ frames := 0, cells := 0, slots := 0, locals := 0 } : Room).cells ({ frames := 0, cells := 0, slots := 0, locals := 0 } : Room).slots s₁ (entryFrame m #[(.int k), (.int lo), (.int hi)] 3)
  refine Go.eq (ef_rm4 m k lo hi) ?_
  show Go p e below s _ _ _ s₁ (mkF m 0 #[.val (.int k), .val (.int lo), .val (.int hi)] [])
  refine Go.st (fun _ => XS.iloadN X0.here hx rfl (hb hby d4_0) rfl) ?_
  show Go p e below s _ _ _ s₁ (mkF m 1 #[.val (.int k), .val (.int lo), .val (.int hi)] [(.int k)])
  refine Go.st (fun _ => XS.iloadN X0.here hx rfl (hb hby d4_1) rfl) ?_
  show Go p e below s _ _ _ s₁ (mkF m 2 #[.val (.int k), .val (.int lo), .val (.int hi)] [(.int lo), (.int k)])
  by_cases hc_1 : k < lo
  · refine Go.st (fun _ => XS.icmpYes X0.here hx rfl (pc0 := 2) (pc' := 14) rfl (hb hby d4_2) rfl (tlt hc_1).1 (by decide) (by decide)) ?_
    show Go p e below s _ _ _ s₁ (mkF m 14 #[.val (.int k), .val (.int lo), .val (.int hi)] [])
    refine Go.st (fun _ => XS.iconst X0.here hx rfl (hb hby d4_14)) ?_
    show Go p e below s _ _ _ s₁ (mkF m 15 #[.val (.int k), .val (.int lo), .val (.int hi)] [(.int (0 : Int32))])
    exact Go.retZ X0 hx hlk Bd.returns (hb hby d4_15) rfl (by rw [e0]; exact ⟨(own_b2i_f (by first | exact ⟨by assumption, by assumption⟩ | exact (fun q => q.1 (by assumption)) | exact (fun q => q.2 (by assumption)) : ¬ (¬ (k < lo) ∧ ¬ (hi < k)))), N0, rfl⟩) (by decide) (by decide)
  · refine Go.st (fun _ => XS.icmpNo X0.here hx rfl (hb hby d4_2) rfl (flt hc_1).1) ?_
    show Go p e below s _ _ _ s₁ (mkF m 5 #[.val (.int k), .val (.int lo), .val (.int hi)] [])
    refine Go.st (fun _ => XS.iloadN X0.here hx rfl (hb hby d4_5) rfl) ?_
    show Go p e below s _ _ _ s₁ (mkF m 6 #[.val (.int k), .val (.int lo), .val (.int hi)] [(.int k)])
    refine Go.st (fun _ => XS.iloadN X0.here hx rfl (hb hby d4_6) rfl) ?_
    show Go p e below s _ _ _ s₁ (mkF m 7 #[.val (.int k), .val (.int lo), .val (.int hi)] [(.int hi), (.int k)])
    by_cases hc_2 : hi < k
    · refine Go.st (fun _ => XS.icmpYes X0.here hx rfl (pc0 := 7) (pc' := 14) rfl (hb hby d4_7) rfl (tlt hc_2).2.2.1 (by decide) (by decide)) ?_
      show Go p e below s _ _ _ s₁ (mkF m 14 #[.val (.int k), .val (.int lo), .val (.int hi)] [])
      refine Go.st (fun _ => XS.iconst X0.here hx rfl (hb hby d4_14)) ?_
      show Go p e below s _ _ _ s₁ (mkF m 15 #[.val (.int k), .val (.int lo), .val (.int hi)] [(.int (0 : Int32))])
      exact Go.retZ X0 hx hlk Bd.returns (hb hby d4_15) rfl (by rw [e0]; exact ⟨(own_b2i_f (by first | exact ⟨by assumption, by assumption⟩ | exact (fun q => q.1 (by assumption)) | exact (fun q => q.2 (by assumption)) : ¬ (¬ (k < lo) ∧ ¬ (hi < k)))), N0, rfl⟩) (by decide) (by decide)
    · refine Go.st (fun _ => XS.icmpNo X0.here hx rfl (hb hby d4_7) rfl (flt hc_2).2.2.1) ?_
      show Go p e below s _ _ _ s₁ (mkF m 10 #[.val (.int k), .val (.int lo), .val (.int hi)] [])
      refine Go.st (fun _ => XS.iconst X0.here hx rfl (hb hby d4_10)) ?_
      show Go p e below s _ _ _ s₁ (mkF m 11 #[.val (.int k), .val (.int lo), .val (.int hi)] [(.int (1 : Int32))])
      refine Go.st (fun _ => XS.goto X0.here hx rfl (pc0 := 11) (pc' := 15) rfl (hb hby d4_11) (by decide) (by decide)) ?_
      show Go p e below s _ _ _ s₁ (mkF m 15 #[.val (.int k), .val (.int lo), .val (.int hi)] [(.int (1 : Int32))])
      exact Go.retZ X0 hx hlk Bd.returns (hb hby d4_15) rfl (by rw [e0]; exact ⟨(own_b2i_t (by first | exact ⟨by assumption, by assumption⟩ | exact (fun q => q.1 (by assumption)) | exact (fun q => q.2 (by assumption)) : ¬ (k < lo) ∧ ¬ (hi < k))), N0, rfl⟩) (by decide) (by decide)
theorem d3_0 : decode method_3_code 0 = .ok (.iload_n 0, 1) := by decide +kernel
theorem d3_1 : decode method_3_code 1 = .ok (.bipush 65, 2) := by decide +kernel
theorem d3_3 : decode method_3_code 3 = .ok (.if_icmp .lt 157, 3) := by decide +kernel
theorem d3_160 : decode method_3_code 160 = .ok (.iconst 1, 1) := by decide +kernel
theorem d3_161 : decode method_3_code 161 = .ok (.goto 4, 3) := by decide +kernel
theorem d3_165 : decode method_3_code 165 = .ok (.ireturn, 1) := by decide +kernel
theorem d3_6 : decode method_3_code 6 = .ok (.iload_n 0, 1) := by decide +kernel
theorem d3_7 : decode method_3_code 7 = .ok (.bipush 91, 2) := by decide +kernel
theorem d3_9 : decode method_3_code 9 = .ok (.bipush 94, 2) := by decide +kernel
theorem d3_11 : decode method_3_code 11 = .ok (.invokestatic 7, 3) := by decide +kernel
theorem pd_0 : parseMethodDescriptor "(III)Z" = some ⟨[.int, .int, .int], some .boolean⟩ := by decide +kernel
theorem d3_14 : decode method_3_code 14 = .ok (.ifCond .ne 146, 3) := by decide +kernel
theorem d3_17 : decode method_3_code 17 = .ok (.iload_n 0, 1) := by decide +kernel
theorem d3_18 : decode method_3_code 18 = .ok (.bipush 96, 2) := by decide +kernel
theorem d3_20 : decode method_3_code 20 = .ok (.if_icmp .eq 140, 3) := by decide +kernel
theorem d3_23 : decode method_3_code 23 = .ok (.iload_n 0, 1) := by decide +kernel
theorem d3_24 : decode method_3_code 24 = .ok (.bipush 123, 2) := by decide +kernel
theorem d3_26 : decode method_3_code 26 = .ok (.sipush 191, 3) := by decide +kernel
theorem d3_29 : decode method_3_code 29 = .ok (.invokestatic 7, 3) := by decide +kernel
theorem d3_32 : decode method_3_code 32 = .ok (.ifCond .ne 128, 3) := by decide +kernel
theorem d3_35 : decode method_3_code 35 = .ok (.iload_n 0, 1) := by decide +kernel
theorem d3_36 : decode method_3_code 36 = .ok (.sipush 215, 3) := by decide +kernel
theorem d3_39 : decode method_3_code 39 = .ok (.if_icmp .eq 121, 3) := by decide +kernel
theorem d3_42 : decode method_3_code 42 = .ok (.iload_n 0, 1) := by decide +kernel
theorem d3_43 : decode method_3_code 43 = .ok (.sipush 247, 3) := by decide +kernel
theorem d3_46 : decode method_3_code 46 = .ok (.if_icmp .eq 114, 3) := by decide +kernel
theorem d3_49 : decode method_3_code 49 = .ok (.iload_n 0, 1) := by decide +kernel
theorem d3_50 : decode method_3_code 50 = .ok (.sipush 768, 3) := by decide +kernel
theorem d3_53 : decode method_3_code 53 = .ok (.sipush 879, 3) := by decide +kernel
theorem d3_56 : decode method_3_code 56 = .ok (.invokestatic 7, 3) := by decide +kernel
theorem d3_59 : decode method_3_code 59 = .ok (.ifCond .ne 101, 3) := by decide +kernel
theorem d3_62 : decode method_3_code 62 = .ok (.iload_n 0, 1) := by decide +kernel
theorem d3_63 : decode method_3_code 63 = .ok (.sipush 894, 3) := by decide +kernel
theorem d3_66 : decode method_3_code 66 = .ok (.if_icmp .eq 94, 3) := by decide +kernel
theorem d3_69 : decode method_3_code 69 = .ok (.iload_n 0, 1) := by decide +kernel
theorem d3_70 : decode method_3_code 70 = .ok (.sipush 8192, 3) := by decide +kernel
theorem d3_73 : decode method_3_code 73 = .ok (.sipush 8203, 3) := by decide +kernel
theorem d3_76 : decode method_3_code 76 = .ok (.invokestatic 7, 3) := by decide +kernel
theorem d3_79 : decode method_3_code 79 = .ok (.ifCond .ne 81, 3) := by decide +kernel
theorem d3_82 : decode method_3_code 82 = .ok (.iload_n 0, 1) := by decide +kernel
theorem d3_83 : decode method_3_code 83 = .ok (.sipush 8206, 3) := by decide +kernel
theorem d3_86 : decode method_3_code 86 = .ok (.sipush 8303, 3) := by decide +kernel
theorem d3_89 : decode method_3_code 89 = .ok (.invokestatic 7, 3) := by decide +kernel
theorem d3_92 : decode method_3_code 92 = .ok (.ifCond .ne 68, 3) := by decide +kernel
theorem d3_95 : decode method_3_code 95 = .ok (.iload_n 0, 1) := by decide +kernel
theorem d3_96 : decode method_3_code 96 = .ok (.sipush 8592, 3) := by decide +kernel
theorem d3_99 : decode method_3_code 99 = .ok (.sipush 11263, 3) := by decide +kernel
theorem d3_102 : decode method_3_code 102 = .ok (.invokestatic 7, 3) := by decide +kernel
theorem d3_105 : decode method_3_code 105 = .ok (.ifCond .ne 55, 3) := by decide +kernel
theorem d3_108 : decode method_3_code 108 = .ok (.iload_n 0, 1) := by decide +kernel
theorem d3_109 : decode method_3_code 109 = .ok (.sipush 12272, 3) := by decide +kernel
theorem d3_112 : decode method_3_code 112 = .ok (.sipush 12288, 3) := by decide +kernel
theorem d3_115 : decode method_3_code 115 = .ok (.invokestatic 7, 3) := by decide +kernel
theorem d3_118 : decode method_3_code 118 = .ok (.ifCond .ne 42, 3) := by decide +kernel
theorem d3_121 : decode method_3_code 121 = .ok (.iload_n 0, 1) := by decide +kernel
theorem d3_122 : decode method_3_code 122 = .ok (.ldc 13, 2) := by decide +kernel
theorem d3_124 : decode method_3_code 124 = .ok (.ldc 14, 2) := by decide +kernel
theorem d3_126 : decode method_3_code 126 = .ok (.invokestatic 7, 3) := by decide +kernel
theorem d3_129 : decode method_3_code 129 = .ok (.ifCond .ne 31, 3) := by decide +kernel
theorem d3_132 : decode method_3_code 132 = .ok (.iload_n 0, 1) := by decide +kernel
theorem d3_133 : decode method_3_code 133 = .ok (.ldc 15, 2) := by decide +kernel
theorem d3_135 : decode method_3_code 135 = .ok (.ldc 16, 2) := by decide +kernel
theorem d3_137 : decode method_3_code 137 = .ok (.invokestatic 7, 3) := by decide +kernel
theorem d3_140 : decode method_3_code 140 = .ok (.ifCond .ne 20, 3) := by decide +kernel
theorem d3_143 : decode method_3_code 143 = .ok (.iload_n 0, 1) := by decide +kernel
theorem d3_144 : decode method_3_code 144 = .ok (.ldc 17, 2) := by decide +kernel
theorem d3_146 : decode method_3_code 146 = .ok (.ldc 18, 2) := by decide +kernel
theorem d3_148 : decode method_3_code 148 = .ok (.invokestatic 7, 3) := by decide +kernel
theorem d3_151 : decode method_3_code 151 = .ok (.ifCond .ne 9, 3) := by decide +kernel
theorem d3_154 : decode method_3_code 154 = .ok (.iload_n 0, 1) := by decide +kernel
theorem d3_155 : decode method_3_code 155 = .ok (.ldc 19, 2) := by decide +kernel
theorem d3_157 : decode method_3_code 157 = .ok (.if_icmp .le 7, 3) := by decide +kernel
theorem d3_164 : decode method_3_code 164 = .ok (.iconst 0, 1) := by decide +kernel
theorem ef_rm3 (m : MethodId) (k : Int32) : entryFrame m #[(.int k)] 1 = mkF m 0 #[.val (.int k)] [] := by first | (simp [entryFrame, mkF, argsToLocals, Value.category]; done) | rfl
def Qrm3 (Z : State) (k : Int32) (h0 : Heap) (n0 : Nat) (rV : Option Value) (hE : Heap) (LE : List Loc) : Prop := rV = some (.int (b2i (own_gap k.toInt = true))) ∧ Fr n0 LE ∧ hE = h0
set_option maxRecDepth 65536 in
set_option maxHeartbeats 40000000 in
theorem rm3 (l : Launch) (Z : State) (a0 : Array Value) (hw : ∀ d ∈ tables_1, d.before a0 Z = true) (ws : List Jvm.Cond) (k : Int32) (h0 : Heap) (n0 : Nat) (Z0 : n0 ≤ h0.size) :
    MetFree l (⟨"com/example/moat/moat/xpath/NamesIsNameStartPinLaw", "gap", "(I)Z"⟩ : MethodName) (head1 (Jvm.Cond.code (⟨"com/example/moat/moat/xpath/NamesIsNameStartPinLaw", "gap", "(I)Z"⟩ : MethodName) method_3_code 1 (some .boolean) :: ws) ({ frames := 1, cells := 0, slots := 0, locals := 14 } : Room)) (fun aA UA => aA = #[(.int k)] ∧ Z.Warmed39 UA.vm ∧ UA.heap = h0) (fun _ _ _ _ _ => True) (fun _ UA oA UB => ∃ rV LE, oA = .returned rV ∧ Qrm3 Z k h0 n0 rV UB.heap LE ∧ FrameEnd UA oA UB LE ({ frames := 1, cells := 0, slots := 0, locals := 14 } : Room).cells ({ frames := 1, cells := 0, slots := 0, locals := 14 } : Room).slots) := by
  refine MetFree.of_bodySF (plainFor_of_name pn_1) hisR ?_
  intro p e s m args below meth c s₁ Bd hml0 hP hK
  obtain ⟨rfl, hZ, hh⟩ := hP
  have hx := Bd.exec
  have hby := Bd.bytes
  have hml : c.maxLocals = 1 := hml0
  have hown : s.vm.findClass "com/example/moat/moat/xpath/NamesIsNameStartPinLaw" = some m.cls := findClass_of_methodNamed Bd.named
  have hnm := (name_of_methodNamed Bd.named Bd.method).1
  have hlk := Bd.notSynchronized
  have X0 : Stand p l e ({ frames := 1, cells := 0, slots := 0, locals := 14 } : Room) s m #[(.int k)] below meth c s₁ [] 0 0 := Stand.of_body Bd
  have e0 : s₁.heap = h0 := by rw [← hh, Bd.state]; rfl
  have N0 := Fr.nil n0
  show Go p e below s (Qrm3 Z k h0 n0) ({ frames := 1, cells := 0, slots := 0, locals := 14 } : Room).cells ({ frames := 1, cells := 0, slots := 0, locals := 14 } : Room).slots s₁ (entryFrame m #[(.int k)] 1)
  refine Go.eq (ef_rm3 m k) ?_
  show Go p e below s _ _ _ s₁ (mkF m 0 #[.val (.int k)] [])
  refine Go.st (fun _ => XS.iloadN X0.here hx rfl (hb hby d3_0) rfl) ?_
  show Go p e below s _ _ _ s₁ (mkF m 1 #[.val (.int k)] [(.int k)])
  refine Go.st (fun _ => XS.bipush X0.here hx rfl (hb hby d3_1)) ?_
  show Go p e below s _ _ _ s₁ (mkF m 3 #[.val (.int k)] [(.int (65 : Int32)), (.int k)])
  by_cases hc_1 : k < (65 : Int32)
  · refine Go.st (fun _ => XS.icmpYes X0.here hx rfl (pc0 := 3) (pc' := 160) rfl (hb hby d3_3) rfl (tlt hc_1).1 (by decide) (by decide)) ?_
    show Go p e below s _ _ _ s₁ (mkF m 160 #[.val (.int k)] [])
    refine Go.st (fun _ => XS.iconst X0.here hx rfl (hb hby d3_160)) ?_
    show Go p e below s _ _ _ s₁ (mkF m 161 #[.val (.int k)] [(.int (1 : Int32))])
    refine Go.st (fun _ => XS.goto X0.here hx rfl (pc0 := 161) (pc' := 165) rfl (hb hby d3_161) (by decide) (by decide)) ?_
    show Go p e below s _ _ _ s₁ (mkF m 165 #[.val (.int k)] [(.int (1 : Int32))])
    exact Go.retZ X0 hx hlk Bd.returns (hb hby d3_165) rfl (by rw [e0]; exact ⟨(own_b2i_t (by have := own_c1 hc_1 (by decide : (65 : Int32).toInt = 65); exact own_gap_t (by omega))), N0, rfl⟩) (by decide) (by decide)
  · refine Go.st (fun _ => XS.icmpNo X0.here hx rfl (hb hby d3_3) rfl (flt hc_1).1) ?_
    show Go p e below s _ _ _ s₁ (mkF m 6 #[.val (.int k)] [])
    refine Go.st (fun _ => XS.iloadN X0.here hx rfl (hb hby d3_6) rfl) ?_
    show Go p e below s _ _ _ s₁ (mkF m 7 #[.val (.int k)] [(.int k)])
    refine Go.st (fun _ => XS.bipush X0.here hx rfl (hb hby d3_7)) ?_
    show Go p e below s _ _ _ s₁ (mkF m 9 #[.val (.int k)] [(.int (91 : Int32)), (.int k)])
    refine Go.st (fun _ => XS.bipush X0.here hx rfl (hb hby d3_9)) ?_
    show Go p e below s _ _ _ s₁ (mkF m 11 #[.val (.int k)] [(.int (94 : Int32)), (.int (91 : Int32)), (.int k)])
    obtain ⟨_, _, ⟨T_2, L_2, kc_2, nc_2⟩, -, X_2, ⟨Lc_2, hQ_2, l_2, y_2, z_2⟩, st_2⟩ := Jvm.LawKit.callS X0 hx (y := (⟨"com/example/moat/moat/xpath/NamesIsNameStartPinLaw", "in", "(III)Z"⟩ : MethodName)) hown (mvT hZ (hw _ (List.mem_of_getElem? (i := 27) rfl))) (mvT hZ (hw _ (List.mem_of_getElem? (i := 28) rfl))) (mvT hZ (hw _ (List.mem_of_getElem? (i := 22) rfl))) (mvT hZ (hw _ (List.mem_of_getElem? (i := 29) rfl))) (by decide) (backOf (W := 0) (rm4 l Z a0 hw [] k (91 : Int32) (94 : Int32) h0 n0 Z0 ) hZ (hw _ (List.mem_of_getElem? (i := 29) rfl)) (hw _ (List.mem_of_getElem? (i := 22) rfl)) (by decide) (by decide)) (g := (mkF m 11 #[.val (.int k)] [(.int (94 : Int32)), (.int (91 : Int32)), (.int k)])) rfl (by rw [hml]; rfl) (argsL := [(.int k), (.int (91 : Int32)), (.int (94 : Int32))]) (rest := []) (lenOf pd_0 rfl) rfl (by show 2 * 0 + _ ≤ _; exact Nat.le_of_eq rfl) (hb hby d3_11) (fun _ _ => ⟨rfl, e0, (by decide : 0 + 0 ≤ _), (by decide : 0 + 0 ≤ _)⟩)
    dsimp only [Pt.U, Pt.locs, Pt.cells, Pt.slots] at X_2 l_2 y_2 z_2 st_2 hQ_2
    obtain rfl : kc_2 = 0 := y_2
    obtain rfl : nc_2 = 0 := z_2
    obtain ⟨h_2, e_2⟩ : ∃ hh, T_2.heap = hh := ⟨_, rfl⟩
    rw [e_2] at hQ_2
    obtain ⟨rfl, N_2q, sm_2⟩ := hQ_2
    have N_2 : Fr n0 L_2 := by rw [l_2]; exact Fr.app N0 N_2q
    refine Go.st st_2 ?_
    rw [sm_2] at e_2
    show Go p e below s _ _ _ T_2 (mkF m 14 #[.val (.int k)] [(.int (b2i (¬ (k < (91 : Int32)) ∧ ¬ ((94 : Int32) < k))))])
    by_cases hc_3 : k < (91 : Int32)
    · rw [show (b2i (¬ (k < (91 : Int32)) ∧ ¬ ((94 : Int32) < k))) = (0 : Int32) from b2i_neg (fun q => q.1 hc_3)]
      show Go p e below s _ _ _ T_2 (mkF m 14 #[.val (.int k)] [(.int (0 : Int32))])
      refine Go.st (fun _ => XS.ifNo X_2.here hx rfl (hb hby d3_14) rfl ((if0 _ _).trans (teq (by decide : (0 : Int32) = (0 : Int32))).2)) ?_
      show Go p e below s _ _ _ T_2 (mkF m 17 #[.val (.int k)] [])
      refine Go.st (fun _ => XS.iloadN X_2.here hx rfl (hb hby d3_17) rfl) ?_
      show Go p e below s _ _ _ T_2 (mkF m 18 #[.val (.int k)] [(.int k)])
      refine Go.st (fun _ => XS.bipush X_2.here hx rfl (hb hby d3_18)) ?_
      show Go p e below s _ _ _ T_2 (mkF m 20 #[.val (.int k)] [(.int (96 : Int32)), (.int k)])
      refine Go.st (fun _ => XS.icmpNo X_2.here hx rfl (hb hby d3_20) rfl (feq (own_k1 hc_3 (by decide) : ¬ (k = (96 : Int32)))).1) ?_
      show Go p e below s _ _ _ T_2 (mkF m 23 #[.val (.int k)] [])
      refine Go.st (fun _ => XS.iloadN X_2.here hx rfl (hb hby d3_23) rfl) ?_
      show Go p e below s _ _ _ T_2 (mkF m 24 #[.val (.int k)] [(.int k)])
      refine Go.st (fun _ => XS.bipush X_2.here hx rfl (hb hby d3_24)) ?_
      show Go p e below s _ _ _ T_2 (mkF m 26 #[.val (.int k)] [(.int (123 : Int32)), (.int k)])
      refine Go.st (fun _ => XS.sipush X_2.here hx rfl (hb hby d3_26)) ?_
      show Go p e below s _ _ _ T_2 (mkF m 29 #[.val (.int k)] [(.int (191 : Int32)), (.int (123 : Int32)), (.int k)])
      obtain ⟨_, _, ⟨T_4, L_4, kc_4, nc_4⟩, -, X_4, ⟨Lc_4, hQ_4, l_4, y_4, z_4⟩, st_4⟩ := Jvm.LawKit.callS X_2 hx (y := (⟨"com/example/moat/moat/xpath/NamesIsNameStartPinLaw", "in", "(III)Z"⟩ : MethodName)) hown (mvT hZ (hw _ (List.mem_of_getElem? (i := 27) rfl))) (mvT hZ (hw _ (List.mem_of_getElem? (i := 28) rfl))) (mvT hZ (hw _ (List.mem_of_getElem? (i := 22) rfl))) (mvT hZ (hw _ (List.mem_of_getElem? (i := 29) rfl))) (by decide) (backOf (W := 0) (rm4 l Z a0 hw [] k (123 : Int32) (191 : Int32) h0 n0 Z0 ) hZ (hw _ (List.mem_of_getElem? (i := 29) rfl)) (hw _ (List.mem_of_getElem? (i := 22) rfl)) (by decide) (by decide)) (g := (mkF m 29 #[.val (.int k)] [(.int (191 : Int32)), (.int (123 : Int32)), (.int k)])) rfl (by rw [hml]; rfl) (argsL := [(.int k), (.int (123 : Int32)), (.int (191 : Int32))]) (rest := []) (lenOf pd_0 rfl) rfl (by show 2 * 0 + _ ≤ _; exact Nat.le_of_eq rfl) (hb hby d3_29) (fun _ _ => ⟨rfl, e_2, (by decide : 0 + 0 ≤ _), (by decide : 0 + 0 ≤ _)⟩)
      dsimp only [Pt.U, Pt.locs, Pt.cells, Pt.slots] at X_4 l_4 y_4 z_4 st_4 hQ_4
      obtain rfl : kc_4 = 0 := y_4
      obtain rfl : nc_4 = 0 := z_4
      obtain ⟨h_4, e_4⟩ : ∃ hh, T_4.heap = hh := ⟨_, rfl⟩
      rw [e_4] at hQ_4
      obtain ⟨rfl, N_4q, sm_4⟩ := hQ_4
      have N_4 : Fr n0 L_4 := by rw [l_4]; exact Fr.app N_2 N_4q
      refine Go.st st_4 ?_
      rw [sm_4] at e_4
      show Go p e below s _ _ _ T_4 (mkF m 32 #[.val (.int k)] [(.int (b2i (¬ (k < (123 : Int32)) ∧ ¬ ((191 : Int32) < k))))])
      rw [show (b2i (¬ (k < (123 : Int32)) ∧ ¬ ((191 : Int32) < k))) = (0 : Int32) from b2i_neg (fun q => q.1 (own_i1 hc_3 (by decide) : k < (123 : Int32)))]
      show Go p e below s _ _ _ T_4 (mkF m 32 #[.val (.int k)] [(.int (0 : Int32))])
      refine Go.st (fun _ => XS.ifNo X_4.here hx rfl (hb hby d3_32) rfl ((if0 _ _).trans (teq (by decide : (0 : Int32) = (0 : Int32))).2)) ?_
      show Go p e below s _ _ _ T_4 (mkF m 35 #[.val (.int k)] [])
      refine Go.st (fun _ => XS.iloadN X_4.here hx rfl (hb hby d3_35) rfl) ?_
      show Go p e below s _ _ _ T_4 (mkF m 36 #[.val (.int k)] [(.int k)])
      refine Go.st (fun _ => XS.sipush X_4.here hx rfl (hb hby d3_36)) ?_
      show Go p e below s _ _ _ T_4 (mkF m 39 #[.val (.int k)] [(.int (215 : Int32)), (.int k)])
      refine Go.st (fun _ => XS.icmpNo X_4.here hx rfl (hb hby d3_39) rfl (feq (own_k1 hc_3 (by decide) : ¬ (k = (215 : Int32)))).1) ?_
      show Go p e below s _ _ _ T_4 (mkF m 42 #[.val (.int k)] [])
      refine Go.st (fun _ => XS.iloadN X_4.here hx rfl (hb hby d3_42) rfl) ?_
      show Go p e below s _ _ _ T_4 (mkF m 43 #[.val (.int k)] [(.int k)])
      refine Go.st (fun _ => XS.sipush X_4.here hx rfl (hb hby d3_43)) ?_
      show Go p e below s _ _ _ T_4 (mkF m 46 #[.val (.int k)] [(.int (247 : Int32)), (.int k)])
      refine Go.st (fun _ => XS.icmpNo X_4.here hx rfl (hb hby d3_46) rfl (feq (own_k1 hc_3 (by decide) : ¬ (k = (247 : Int32)))).1) ?_
      show Go p e below s _ _ _ T_4 (mkF m 49 #[.val (.int k)] [])
      refine Go.st (fun _ => XS.iloadN X_4.here hx rfl (hb hby d3_49) rfl) ?_
      show Go p e below s _ _ _ T_4 (mkF m 50 #[.val (.int k)] [(.int k)])
      refine Go.st (fun _ => XS.sipush X_4.here hx rfl (hb hby d3_50)) ?_
      show Go p e below s _ _ _ T_4 (mkF m 53 #[.val (.int k)] [(.int (768 : Int32)), (.int k)])
      refine Go.st (fun _ => XS.sipush X_4.here hx rfl (hb hby d3_53)) ?_
      show Go p e below s _ _ _ T_4 (mkF m 56 #[.val (.int k)] [(.int (879 : Int32)), (.int (768 : Int32)), (.int k)])
      obtain ⟨_, _, ⟨T_5, L_5, kc_5, nc_5⟩, -, X_5, ⟨Lc_5, hQ_5, l_5, y_5, z_5⟩, st_5⟩ := Jvm.LawKit.callS X_4 hx (y := (⟨"com/example/moat/moat/xpath/NamesIsNameStartPinLaw", "in", "(III)Z"⟩ : MethodName)) hown (mvT hZ (hw _ (List.mem_of_getElem? (i := 27) rfl))) (mvT hZ (hw _ (List.mem_of_getElem? (i := 28) rfl))) (mvT hZ (hw _ (List.mem_of_getElem? (i := 22) rfl))) (mvT hZ (hw _ (List.mem_of_getElem? (i := 29) rfl))) (by decide) (backOf (W := 0) (rm4 l Z a0 hw [] k (768 : Int32) (879 : Int32) h0 n0 Z0 ) hZ (hw _ (List.mem_of_getElem? (i := 29) rfl)) (hw _ (List.mem_of_getElem? (i := 22) rfl)) (by decide) (by decide)) (g := (mkF m 56 #[.val (.int k)] [(.int (879 : Int32)), (.int (768 : Int32)), (.int k)])) rfl (by rw [hml]; rfl) (argsL := [(.int k), (.int (768 : Int32)), (.int (879 : Int32))]) (rest := []) (lenOf pd_0 rfl) rfl (by show 2 * 0 + _ ≤ _; exact Nat.le_of_eq rfl) (hb hby d3_56) (fun _ _ => ⟨rfl, e_4, (by decide : 0 + 0 ≤ _), (by decide : 0 + 0 ≤ _)⟩)
      dsimp only [Pt.U, Pt.locs, Pt.cells, Pt.slots] at X_5 l_5 y_5 z_5 st_5 hQ_5
      obtain rfl : kc_5 = 0 := y_5
      obtain rfl : nc_5 = 0 := z_5
      obtain ⟨h_5, e_5⟩ : ∃ hh, T_5.heap = hh := ⟨_, rfl⟩
      rw [e_5] at hQ_5
      obtain ⟨rfl, N_5q, sm_5⟩ := hQ_5
      have N_5 : Fr n0 L_5 := by rw [l_5]; exact Fr.app N_4 N_5q
      refine Go.st st_5 ?_
      rw [sm_5] at e_5
      show Go p e below s _ _ _ T_5 (mkF m 59 #[.val (.int k)] [(.int (b2i (¬ (k < (768 : Int32)) ∧ ¬ ((879 : Int32) < k))))])
      rw [show (b2i (¬ (k < (768 : Int32)) ∧ ¬ ((879 : Int32) < k))) = (0 : Int32) from b2i_neg (fun q => q.1 (own_i1 hc_3 (by decide) : k < (768 : Int32)))]
      show Go p e below s _ _ _ T_5 (mkF m 59 #[.val (.int k)] [(.int (0 : Int32))])
      refine Go.st (fun _ => XS.ifNo X_5.here hx rfl (hb hby d3_59) rfl ((if0 _ _).trans (teq (by decide : (0 : Int32) = (0 : Int32))).2)) ?_
      show Go p e below s _ _ _ T_5 (mkF m 62 #[.val (.int k)] [])
      refine Go.st (fun _ => XS.iloadN X_5.here hx rfl (hb hby d3_62) rfl) ?_
      show Go p e below s _ _ _ T_5 (mkF m 63 #[.val (.int k)] [(.int k)])
      refine Go.st (fun _ => XS.sipush X_5.here hx rfl (hb hby d3_63)) ?_
      show Go p e below s _ _ _ T_5 (mkF m 66 #[.val (.int k)] [(.int (894 : Int32)), (.int k)])
      refine Go.st (fun _ => XS.icmpNo X_5.here hx rfl (hb hby d3_66) rfl (feq (own_k1 hc_3 (by decide) : ¬ (k = (894 : Int32)))).1) ?_
      show Go p e below s _ _ _ T_5 (mkF m 69 #[.val (.int k)] [])
      refine Go.st (fun _ => XS.iloadN X_5.here hx rfl (hb hby d3_69) rfl) ?_
      show Go p e below s _ _ _ T_5 (mkF m 70 #[.val (.int k)] [(.int k)])
      refine Go.st (fun _ => XS.sipush X_5.here hx rfl (hb hby d3_70)) ?_
      show Go p e below s _ _ _ T_5 (mkF m 73 #[.val (.int k)] [(.int (8192 : Int32)), (.int k)])
      refine Go.st (fun _ => XS.sipush X_5.here hx rfl (hb hby d3_73)) ?_
      show Go p e below s _ _ _ T_5 (mkF m 76 #[.val (.int k)] [(.int (8203 : Int32)), (.int (8192 : Int32)), (.int k)])
      obtain ⟨_, _, ⟨T_6, L_6, kc_6, nc_6⟩, -, X_6, ⟨Lc_6, hQ_6, l_6, y_6, z_6⟩, st_6⟩ := Jvm.LawKit.callS X_5 hx (y := (⟨"com/example/moat/moat/xpath/NamesIsNameStartPinLaw", "in", "(III)Z"⟩ : MethodName)) hown (mvT hZ (hw _ (List.mem_of_getElem? (i := 27) rfl))) (mvT hZ (hw _ (List.mem_of_getElem? (i := 28) rfl))) (mvT hZ (hw _ (List.mem_of_getElem? (i := 22) rfl))) (mvT hZ (hw _ (List.mem_of_getElem? (i := 29) rfl))) (by decide) (backOf (W := 0) (rm4 l Z a0 hw [] k (8192 : Int32) (8203 : Int32) h0 n0 Z0 ) hZ (hw _ (List.mem_of_getElem? (i := 29) rfl)) (hw _ (List.mem_of_getElem? (i := 22) rfl)) (by decide) (by decide)) (g := (mkF m 76 #[.val (.int k)] [(.int (8203 : Int32)), (.int (8192 : Int32)), (.int k)])) rfl (by rw [hml]; rfl) (argsL := [(.int k), (.int (8192 : Int32)), (.int (8203 : Int32))]) (rest := []) (lenOf pd_0 rfl) rfl (by show 2 * 0 + _ ≤ _; exact Nat.le_of_eq rfl) (hb hby d3_76) (fun _ _ => ⟨rfl, e_5, (by decide : 0 + 0 ≤ _), (by decide : 0 + 0 ≤ _)⟩)
      dsimp only [Pt.U, Pt.locs, Pt.cells, Pt.slots] at X_6 l_6 y_6 z_6 st_6 hQ_6
      obtain rfl : kc_6 = 0 := y_6
      obtain rfl : nc_6 = 0 := z_6
      obtain ⟨h_6, e_6⟩ : ∃ hh, T_6.heap = hh := ⟨_, rfl⟩
      rw [e_6] at hQ_6
      obtain ⟨rfl, N_6q, sm_6⟩ := hQ_6
      have N_6 : Fr n0 L_6 := by rw [l_6]; exact Fr.app N_5 N_6q
      refine Go.st st_6 ?_
      rw [sm_6] at e_6
      show Go p e below s _ _ _ T_6 (mkF m 79 #[.val (.int k)] [(.int (b2i (¬ (k < (8192 : Int32)) ∧ ¬ ((8203 : Int32) < k))))])
      rw [show (b2i (¬ (k < (8192 : Int32)) ∧ ¬ ((8203 : Int32) < k))) = (0 : Int32) from b2i_neg (fun q => q.1 (own_i1 hc_3 (by decide) : k < (8192 : Int32)))]
      show Go p e below s _ _ _ T_6 (mkF m 79 #[.val (.int k)] [(.int (0 : Int32))])
      refine Go.st (fun _ => XS.ifNo X_6.here hx rfl (hb hby d3_79) rfl ((if0 _ _).trans (teq (by decide : (0 : Int32) = (0 : Int32))).2)) ?_
      show Go p e below s _ _ _ T_6 (mkF m 82 #[.val (.int k)] [])
      refine Go.st (fun _ => XS.iloadN X_6.here hx rfl (hb hby d3_82) rfl) ?_
      show Go p e below s _ _ _ T_6 (mkF m 83 #[.val (.int k)] [(.int k)])
      refine Go.st (fun _ => XS.sipush X_6.here hx rfl (hb hby d3_83)) ?_
      show Go p e below s _ _ _ T_6 (mkF m 86 #[.val (.int k)] [(.int (8206 : Int32)), (.int k)])
      refine Go.st (fun _ => XS.sipush X_6.here hx rfl (hb hby d3_86)) ?_
      show Go p e below s _ _ _ T_6 (mkF m 89 #[.val (.int k)] [(.int (8303 : Int32)), (.int (8206 : Int32)), (.int k)])
      obtain ⟨_, _, ⟨T_7, L_7, kc_7, nc_7⟩, -, X_7, ⟨Lc_7, hQ_7, l_7, y_7, z_7⟩, st_7⟩ := Jvm.LawKit.callS X_6 hx (y := (⟨"com/example/moat/moat/xpath/NamesIsNameStartPinLaw", "in", "(III)Z"⟩ : MethodName)) hown (mvT hZ (hw _ (List.mem_of_getElem? (i := 27) rfl))) (mvT hZ (hw _ (List.mem_of_getElem? (i := 28) rfl))) (mvT hZ (hw _ (List.mem_of_getElem? (i := 22) rfl))) (mvT hZ (hw _ (List.mem_of_getElem? (i := 29) rfl))) (by decide) (backOf (W := 0) (rm4 l Z a0 hw [] k (8206 : Int32) (8303 : Int32) h0 n0 Z0 ) hZ (hw _ (List.mem_of_getElem? (i := 29) rfl)) (hw _ (List.mem_of_getElem? (i := 22) rfl)) (by decide) (by decide)) (g := (mkF m 89 #[.val (.int k)] [(.int (8303 : Int32)), (.int (8206 : Int32)), (.int k)])) rfl (by rw [hml]; rfl) (argsL := [(.int k), (.int (8206 : Int32)), (.int (8303 : Int32))]) (rest := []) (lenOf pd_0 rfl) rfl (by show 2 * 0 + _ ≤ _; exact Nat.le_of_eq rfl) (hb hby d3_89) (fun _ _ => ⟨rfl, e_6, (by decide : 0 + 0 ≤ _), (by decide : 0 + 0 ≤ _)⟩)
      dsimp only [Pt.U, Pt.locs, Pt.cells, Pt.slots] at X_7 l_7 y_7 z_7 st_7 hQ_7
      obtain rfl : kc_7 = 0 := y_7
      obtain rfl : nc_7 = 0 := z_7
      obtain ⟨h_7, e_7⟩ : ∃ hh, T_7.heap = hh := ⟨_, rfl⟩
      rw [e_7] at hQ_7
      obtain ⟨rfl, N_7q, sm_7⟩ := hQ_7
      have N_7 : Fr n0 L_7 := by rw [l_7]; exact Fr.app N_6 N_7q
      refine Go.st st_7 ?_
      rw [sm_7] at e_7
      show Go p e below s _ _ _ T_7 (mkF m 92 #[.val (.int k)] [(.int (b2i (¬ (k < (8206 : Int32)) ∧ ¬ ((8303 : Int32) < k))))])
      rw [show (b2i (¬ (k < (8206 : Int32)) ∧ ¬ ((8303 : Int32) < k))) = (0 : Int32) from b2i_neg (fun q => q.1 (own_i1 hc_3 (by decide) : k < (8206 : Int32)))]
      show Go p e below s _ _ _ T_7 (mkF m 92 #[.val (.int k)] [(.int (0 : Int32))])
      refine Go.st (fun _ => XS.ifNo X_7.here hx rfl (hb hby d3_92) rfl ((if0 _ _).trans (teq (by decide : (0 : Int32) = (0 : Int32))).2)) ?_
      show Go p e below s _ _ _ T_7 (mkF m 95 #[.val (.int k)] [])
      refine Go.st (fun _ => XS.iloadN X_7.here hx rfl (hb hby d3_95) rfl) ?_
      show Go p e below s _ _ _ T_7 (mkF m 96 #[.val (.int k)] [(.int k)])
      refine Go.st (fun _ => XS.sipush X_7.here hx rfl (hb hby d3_96)) ?_
      show Go p e below s _ _ _ T_7 (mkF m 99 #[.val (.int k)] [(.int (8592 : Int32)), (.int k)])
      refine Go.st (fun _ => XS.sipush X_7.here hx rfl (hb hby d3_99)) ?_
      show Go p e below s _ _ _ T_7 (mkF m 102 #[.val (.int k)] [(.int (11263 : Int32)), (.int (8592 : Int32)), (.int k)])
      obtain ⟨_, _, ⟨T_8, L_8, kc_8, nc_8⟩, -, X_8, ⟨Lc_8, hQ_8, l_8, y_8, z_8⟩, st_8⟩ := Jvm.LawKit.callS X_7 hx (y := (⟨"com/example/moat/moat/xpath/NamesIsNameStartPinLaw", "in", "(III)Z"⟩ : MethodName)) hown (mvT hZ (hw _ (List.mem_of_getElem? (i := 27) rfl))) (mvT hZ (hw _ (List.mem_of_getElem? (i := 28) rfl))) (mvT hZ (hw _ (List.mem_of_getElem? (i := 22) rfl))) (mvT hZ (hw _ (List.mem_of_getElem? (i := 29) rfl))) (by decide) (backOf (W := 0) (rm4 l Z a0 hw [] k (8592 : Int32) (11263 : Int32) h0 n0 Z0 ) hZ (hw _ (List.mem_of_getElem? (i := 29) rfl)) (hw _ (List.mem_of_getElem? (i := 22) rfl)) (by decide) (by decide)) (g := (mkF m 102 #[.val (.int k)] [(.int (11263 : Int32)), (.int (8592 : Int32)), (.int k)])) rfl (by rw [hml]; rfl) (argsL := [(.int k), (.int (8592 : Int32)), (.int (11263 : Int32))]) (rest := []) (lenOf pd_0 rfl) rfl (by show 2 * 0 + _ ≤ _; exact Nat.le_of_eq rfl) (hb hby d3_102) (fun _ _ => ⟨rfl, e_7, (by decide : 0 + 0 ≤ _), (by decide : 0 + 0 ≤ _)⟩)
      dsimp only [Pt.U, Pt.locs, Pt.cells, Pt.slots] at X_8 l_8 y_8 z_8 st_8 hQ_8
      obtain rfl : kc_8 = 0 := y_8
      obtain rfl : nc_8 = 0 := z_8
      obtain ⟨h_8, e_8⟩ : ∃ hh, T_8.heap = hh := ⟨_, rfl⟩
      rw [e_8] at hQ_8
      obtain ⟨rfl, N_8q, sm_8⟩ := hQ_8
      have N_8 : Fr n0 L_8 := by rw [l_8]; exact Fr.app N_7 N_8q
      refine Go.st st_8 ?_
      rw [sm_8] at e_8
      show Go p e below s _ _ _ T_8 (mkF m 105 #[.val (.int k)] [(.int (b2i (¬ (k < (8592 : Int32)) ∧ ¬ ((11263 : Int32) < k))))])
      rw [show (b2i (¬ (k < (8592 : Int32)) ∧ ¬ ((11263 : Int32) < k))) = (0 : Int32) from b2i_neg (fun q => q.1 (own_i1 hc_3 (by decide) : k < (8592 : Int32)))]
      show Go p e below s _ _ _ T_8 (mkF m 105 #[.val (.int k)] [(.int (0 : Int32))])
      refine Go.st (fun _ => XS.ifNo X_8.here hx rfl (hb hby d3_105) rfl ((if0 _ _).trans (teq (by decide : (0 : Int32) = (0 : Int32))).2)) ?_
      show Go p e below s _ _ _ T_8 (mkF m 108 #[.val (.int k)] [])
      refine Go.st (fun _ => XS.iloadN X_8.here hx rfl (hb hby d3_108) rfl) ?_
      show Go p e below s _ _ _ T_8 (mkF m 109 #[.val (.int k)] [(.int k)])
      refine Go.st (fun _ => XS.sipush X_8.here hx rfl (hb hby d3_109)) ?_
      show Go p e below s _ _ _ T_8 (mkF m 112 #[.val (.int k)] [(.int (12272 : Int32)), (.int k)])
      refine Go.st (fun _ => XS.sipush X_8.here hx rfl (hb hby d3_112)) ?_
      show Go p e below s _ _ _ T_8 (mkF m 115 #[.val (.int k)] [(.int (12288 : Int32)), (.int (12272 : Int32)), (.int k)])
      obtain ⟨_, _, ⟨T_9, L_9, kc_9, nc_9⟩, -, X_9, ⟨Lc_9, hQ_9, l_9, y_9, z_9⟩, st_9⟩ := Jvm.LawKit.callS X_8 hx (y := (⟨"com/example/moat/moat/xpath/NamesIsNameStartPinLaw", "in", "(III)Z"⟩ : MethodName)) hown (mvT hZ (hw _ (List.mem_of_getElem? (i := 27) rfl))) (mvT hZ (hw _ (List.mem_of_getElem? (i := 28) rfl))) (mvT hZ (hw _ (List.mem_of_getElem? (i := 22) rfl))) (mvT hZ (hw _ (List.mem_of_getElem? (i := 29) rfl))) (by decide) (backOf (W := 0) (rm4 l Z a0 hw [] k (12272 : Int32) (12288 : Int32) h0 n0 Z0 ) hZ (hw _ (List.mem_of_getElem? (i := 29) rfl)) (hw _ (List.mem_of_getElem? (i := 22) rfl)) (by decide) (by decide)) (g := (mkF m 115 #[.val (.int k)] [(.int (12288 : Int32)), (.int (12272 : Int32)), (.int k)])) rfl (by rw [hml]; rfl) (argsL := [(.int k), (.int (12272 : Int32)), (.int (12288 : Int32))]) (rest := []) (lenOf pd_0 rfl) rfl (by show 2 * 0 + _ ≤ _; exact Nat.le_of_eq rfl) (hb hby d3_115) (fun _ _ => ⟨rfl, e_8, (by decide : 0 + 0 ≤ _), (by decide : 0 + 0 ≤ _)⟩)
      dsimp only [Pt.U, Pt.locs, Pt.cells, Pt.slots] at X_9 l_9 y_9 z_9 st_9 hQ_9
      obtain rfl : kc_9 = 0 := y_9
      obtain rfl : nc_9 = 0 := z_9
      obtain ⟨h_9, e_9⟩ : ∃ hh, T_9.heap = hh := ⟨_, rfl⟩
      rw [e_9] at hQ_9
      obtain ⟨rfl, N_9q, sm_9⟩ := hQ_9
      have N_9 : Fr n0 L_9 := by rw [l_9]; exact Fr.app N_8 N_9q
      refine Go.st st_9 ?_
      rw [sm_9] at e_9
      show Go p e below s _ _ _ T_9 (mkF m 118 #[.val (.int k)] [(.int (b2i (¬ (k < (12272 : Int32)) ∧ ¬ ((12288 : Int32) < k))))])
      rw [show (b2i (¬ (k < (12272 : Int32)) ∧ ¬ ((12288 : Int32) < k))) = (0 : Int32) from b2i_neg (fun q => q.1 (own_i1 hc_3 (by decide) : k < (12272 : Int32)))]
      show Go p e below s _ _ _ T_9 (mkF m 118 #[.val (.int k)] [(.int (0 : Int32))])
      refine Go.st (fun _ => XS.ifNo X_9.here hx rfl (hb hby d3_118) rfl ((if0 _ _).trans (teq (by decide : (0 : Int32) = (0 : Int32))).2)) ?_
      show Go p e below s _ _ _ T_9 (mkF m 121 #[.val (.int k)] [])
      refine Go.st (fun _ => XS.iloadN X_9.here hx rfl (hb hby d3_121) rfl) ?_
      show Go p e below s _ _ _ T_9 (mkF m 122 #[.val (.int k)] [(.int k)])
      refine Go.st (fun tG => X_9.ldcInt hx hown (mvT hZ (hw _ (List.mem_of_getElem? (i := 30) rfl))) (g := (mkF m 122 #[.val (.int k)] [(.int k)])) rfl (hb hby d3_122) tG) ?_
      show Go p e below s _ _ _ T_9 (mkF m 124 #[.val (.int k)] [(.int (56192 : Int32)), (.int k)])
      refine Go.st (fun tG => X_9.ldcInt hx hown (mvT hZ (hw _ (List.mem_of_getElem? (i := 31) rfl))) (g := (mkF m 124 #[.val (.int k)] [(.int (56192 : Int32)), (.int k)])) rfl (hb hby d3_124) tG) ?_
      show Go p e below s _ _ _ T_9 (mkF m 126 #[.val (.int k)] [(.int (63743 : Int32)), (.int (56192 : Int32)), (.int k)])
      obtain ⟨_, _, ⟨T_10, L_10, kc_10, nc_10⟩, -, X_10, ⟨Lc_10, hQ_10, l_10, y_10, z_10⟩, st_10⟩ := Jvm.LawKit.callS X_9 hx (y := (⟨"com/example/moat/moat/xpath/NamesIsNameStartPinLaw", "in", "(III)Z"⟩ : MethodName)) hown (mvT hZ (hw _ (List.mem_of_getElem? (i := 27) rfl))) (mvT hZ (hw _ (List.mem_of_getElem? (i := 28) rfl))) (mvT hZ (hw _ (List.mem_of_getElem? (i := 22) rfl))) (mvT hZ (hw _ (List.mem_of_getElem? (i := 29) rfl))) (by decide) (backOf (W := 0) (rm4 l Z a0 hw [] k (56192 : Int32) (63743 : Int32) h0 n0 Z0 ) hZ (hw _ (List.mem_of_getElem? (i := 29) rfl)) (hw _ (List.mem_of_getElem? (i := 22) rfl)) (by decide) (by decide)) (g := (mkF m 126 #[.val (.int k)] [(.int (63743 : Int32)), (.int (56192 : Int32)), (.int k)])) rfl (by rw [hml]; rfl) (argsL := [(.int k), (.int (56192 : Int32)), (.int (63743 : Int32))]) (rest := []) (lenOf pd_0 rfl) rfl (by show 2 * 0 + _ ≤ _; exact Nat.le_of_eq rfl) (hb hby d3_126) (fun _ _ => ⟨rfl, e_9, (by decide : 0 + 0 ≤ _), (by decide : 0 + 0 ≤ _)⟩)
      dsimp only [Pt.U, Pt.locs, Pt.cells, Pt.slots] at X_10 l_10 y_10 z_10 st_10 hQ_10
      obtain rfl : kc_10 = 0 := y_10
      obtain rfl : nc_10 = 0 := z_10
      obtain ⟨h_10, e_10⟩ : ∃ hh, T_10.heap = hh := ⟨_, rfl⟩
      rw [e_10] at hQ_10
      obtain ⟨rfl, N_10q, sm_10⟩ := hQ_10
      have N_10 : Fr n0 L_10 := by rw [l_10]; exact Fr.app N_9 N_10q
      refine Go.st st_10 ?_
      rw [sm_10] at e_10
      show Go p e below s _ _ _ T_10 (mkF m 129 #[.val (.int k)] [(.int (b2i (¬ (k < (56192 : Int32)) ∧ ¬ ((63743 : Int32) < k))))])
      rw [show (b2i (¬ (k < (56192 : Int32)) ∧ ¬ ((63743 : Int32) < k))) = (0 : Int32) from b2i_neg (fun q => q.1 (own_i1 hc_3 (by decide) : k < (56192 : Int32)))]
      show Go p e below s _ _ _ T_10 (mkF m 129 #[.val (.int k)] [(.int (0 : Int32))])
      refine Go.st (fun _ => XS.ifNo X_10.here hx rfl (hb hby d3_129) rfl ((if0 _ _).trans (teq (by decide : (0 : Int32) = (0 : Int32))).2)) ?_
      show Go p e below s _ _ _ T_10 (mkF m 132 #[.val (.int k)] [])
      refine Go.st (fun _ => XS.iloadN X_10.here hx rfl (hb hby d3_132) rfl) ?_
      show Go p e below s _ _ _ T_10 (mkF m 133 #[.val (.int k)] [(.int k)])
      refine Go.st (fun tG => X_10.ldcInt hx hown (mvT hZ (hw _ (List.mem_of_getElem? (i := 32) rfl))) (g := (mkF m 133 #[.val (.int k)] [(.int k)])) rfl (hb hby d3_133) tG) ?_
      show Go p e below s _ _ _ T_10 (mkF m 135 #[.val (.int k)] [(.int (64976 : Int32)), (.int k)])
      refine Go.st (fun tG => X_10.ldcInt hx hown (mvT hZ (hw _ (List.mem_of_getElem? (i := 33) rfl))) (g := (mkF m 135 #[.val (.int k)] [(.int (64976 : Int32)), (.int k)])) rfl (hb hby d3_135) tG) ?_
      show Go p e below s _ _ _ T_10 (mkF m 137 #[.val (.int k)] [(.int (65007 : Int32)), (.int (64976 : Int32)), (.int k)])
      obtain ⟨_, _, ⟨T_11, L_11, kc_11, nc_11⟩, -, X_11, ⟨Lc_11, hQ_11, l_11, y_11, z_11⟩, st_11⟩ := Jvm.LawKit.callS X_10 hx (y := (⟨"com/example/moat/moat/xpath/NamesIsNameStartPinLaw", "in", "(III)Z"⟩ : MethodName)) hown (mvT hZ (hw _ (List.mem_of_getElem? (i := 27) rfl))) (mvT hZ (hw _ (List.mem_of_getElem? (i := 28) rfl))) (mvT hZ (hw _ (List.mem_of_getElem? (i := 22) rfl))) (mvT hZ (hw _ (List.mem_of_getElem? (i := 29) rfl))) (by decide) (backOf (W := 0) (rm4 l Z a0 hw [] k (64976 : Int32) (65007 : Int32) h0 n0 Z0 ) hZ (hw _ (List.mem_of_getElem? (i := 29) rfl)) (hw _ (List.mem_of_getElem? (i := 22) rfl)) (by decide) (by decide)) (g := (mkF m 137 #[.val (.int k)] [(.int (65007 : Int32)), (.int (64976 : Int32)), (.int k)])) rfl (by rw [hml]; rfl) (argsL := [(.int k), (.int (64976 : Int32)), (.int (65007 : Int32))]) (rest := []) (lenOf pd_0 rfl) rfl (by show 2 * 0 + _ ≤ _; exact Nat.le_of_eq rfl) (hb hby d3_137) (fun _ _ => ⟨rfl, e_10, (by decide : 0 + 0 ≤ _), (by decide : 0 + 0 ≤ _)⟩)
      dsimp only [Pt.U, Pt.locs, Pt.cells, Pt.slots] at X_11 l_11 y_11 z_11 st_11 hQ_11
      obtain rfl : kc_11 = 0 := y_11
      obtain rfl : nc_11 = 0 := z_11
      obtain ⟨h_11, e_11⟩ : ∃ hh, T_11.heap = hh := ⟨_, rfl⟩
      rw [e_11] at hQ_11
      obtain ⟨rfl, N_11q, sm_11⟩ := hQ_11
      have N_11 : Fr n0 L_11 := by rw [l_11]; exact Fr.app N_10 N_11q
      refine Go.st st_11 ?_
      rw [sm_11] at e_11
      show Go p e below s _ _ _ T_11 (mkF m 140 #[.val (.int k)] [(.int (b2i (¬ (k < (64976 : Int32)) ∧ ¬ ((65007 : Int32) < k))))])
      rw [show (b2i (¬ (k < (64976 : Int32)) ∧ ¬ ((65007 : Int32) < k))) = (0 : Int32) from b2i_neg (fun q => q.1 (own_i1 hc_3 (by decide) : k < (64976 : Int32)))]
      show Go p e below s _ _ _ T_11 (mkF m 140 #[.val (.int k)] [(.int (0 : Int32))])
      refine Go.st (fun _ => XS.ifNo X_11.here hx rfl (hb hby d3_140) rfl ((if0 _ _).trans (teq (by decide : (0 : Int32) = (0 : Int32))).2)) ?_
      show Go p e below s _ _ _ T_11 (mkF m 143 #[.val (.int k)] [])
      refine Go.st (fun _ => XS.iloadN X_11.here hx rfl (hb hby d3_143) rfl) ?_
      show Go p e below s _ _ _ T_11 (mkF m 144 #[.val (.int k)] [(.int k)])
      refine Go.st (fun tG => X_11.ldcInt hx hown (mvT hZ (hw _ (List.mem_of_getElem? (i := 34) rfl))) (g := (mkF m 144 #[.val (.int k)] [(.int k)])) rfl (hb hby d3_144) tG) ?_
      show Go p e below s _ _ _ T_11 (mkF m 146 #[.val (.int k)] [(.int (65534 : Int32)), (.int k)])
      refine Go.st (fun tG => X_11.ldcInt hx hown (mvT hZ (hw _ (List.mem_of_getElem? (i := 35) rfl))) (g := (mkF m 146 #[.val (.int k)] [(.int (65534 : Int32)), (.int k)])) rfl (hb hby d3_146) tG) ?_
      show Go p e below s _ _ _ T_11 (mkF m 148 #[.val (.int k)] [(.int (65535 : Int32)), (.int (65534 : Int32)), (.int k)])
      obtain ⟨_, _, ⟨T_12, L_12, kc_12, nc_12⟩, -, X_12, ⟨Lc_12, hQ_12, l_12, y_12, z_12⟩, st_12⟩ := Jvm.LawKit.callS X_11 hx (y := (⟨"com/example/moat/moat/xpath/NamesIsNameStartPinLaw", "in", "(III)Z"⟩ : MethodName)) hown (mvT hZ (hw _ (List.mem_of_getElem? (i := 27) rfl))) (mvT hZ (hw _ (List.mem_of_getElem? (i := 28) rfl))) (mvT hZ (hw _ (List.mem_of_getElem? (i := 22) rfl))) (mvT hZ (hw _ (List.mem_of_getElem? (i := 29) rfl))) (by decide) (backOf (W := 0) (rm4 l Z a0 hw [] k (65534 : Int32) (65535 : Int32) h0 n0 Z0 ) hZ (hw _ (List.mem_of_getElem? (i := 29) rfl)) (hw _ (List.mem_of_getElem? (i := 22) rfl)) (by decide) (by decide)) (g := (mkF m 148 #[.val (.int k)] [(.int (65535 : Int32)), (.int (65534 : Int32)), (.int k)])) rfl (by rw [hml]; rfl) (argsL := [(.int k), (.int (65534 : Int32)), (.int (65535 : Int32))]) (rest := []) (lenOf pd_0 rfl) rfl (by show 2 * 0 + _ ≤ _; exact Nat.le_of_eq rfl) (hb hby d3_148) (fun _ _ => ⟨rfl, e_11, (by decide : 0 + 0 ≤ _), (by decide : 0 + 0 ≤ _)⟩)
      dsimp only [Pt.U, Pt.locs, Pt.cells, Pt.slots] at X_12 l_12 y_12 z_12 st_12 hQ_12
      obtain rfl : kc_12 = 0 := y_12
      obtain rfl : nc_12 = 0 := z_12
      obtain ⟨h_12, e_12⟩ : ∃ hh, T_12.heap = hh := ⟨_, rfl⟩
      rw [e_12] at hQ_12
      obtain ⟨rfl, N_12q, sm_12⟩ := hQ_12
      have N_12 : Fr n0 L_12 := by rw [l_12]; exact Fr.app N_11 N_12q
      refine Go.st st_12 ?_
      rw [sm_12] at e_12
      show Go p e below s _ _ _ T_12 (mkF m 151 #[.val (.int k)] [(.int (b2i (¬ (k < (65534 : Int32)) ∧ ¬ ((65535 : Int32) < k))))])
      rw [show (b2i (¬ (k < (65534 : Int32)) ∧ ¬ ((65535 : Int32) < k))) = (0 : Int32) from b2i_neg (fun q => q.1 (own_i1 hc_3 (by decide) : k < (65534 : Int32)))]
      show Go p e below s _ _ _ T_12 (mkF m 151 #[.val (.int k)] [(.int (0 : Int32))])
      refine Go.st (fun _ => XS.ifNo X_12.here hx rfl (hb hby d3_151) rfl ((if0 _ _).trans (teq (by decide : (0 : Int32) = (0 : Int32))).2)) ?_
      show Go p e below s _ _ _ T_12 (mkF m 154 #[.val (.int k)] [])
      refine Go.st (fun _ => XS.iloadN X_12.here hx rfl (hb hby d3_154) rfl) ?_
      show Go p e below s _ _ _ T_12 (mkF m 155 #[.val (.int k)] [(.int k)])
      refine Go.st (fun tG => X_12.ldcInt hx hown (mvT hZ (hw _ (List.mem_of_getElem? (i := 9) rfl))) (g := (mkF m 155 #[.val (.int k)] [(.int k)])) rfl (hb hby d3_155) tG) ?_
      show Go p e below s _ _ _ T_12 (mkF m 157 #[.val (.int k)] [(.int (983039 : Int32)), (.int k)])
      refine Go.st (fun _ => XS.icmpYes X_12.here hx rfl (pc0 := 157) (pc' := 164) rfl (hb hby d3_157) rfl (flt (own_j1 hc_3 (by decide) : ¬ ((983039 : Int32) < k))).2.2.2 (by decide) (by decide)) ?_
      show Go p e below s _ _ _ T_12 (mkF m 164 #[.val (.int k)] [])
      refine Go.st (fun _ => XS.iconst X_12.here hx rfl (hb hby d3_164)) ?_
      show Go p e below s _ _ _ T_12 (mkF m 165 #[.val (.int k)] [(.int (0 : Int32))])
      exact Go.retZ X_12 hx hlk Bd.returns (hb hby d3_165) rfl (by rw [e_12]; exact ⟨(own_b2i_f (by have := own_c3 hc_1 (by decide : (65 : Int32).toInt = 65); have := own_c1 hc_3 (by decide : (91 : Int32).toInt = 91); exact own_gap_f (by omega))), N_12, rfl⟩) (by decide) (by decide)
    · by_cases hc_13 : (94 : Int32) < k
      · rw [show (b2i (¬ (k < (91 : Int32)) ∧ ¬ ((94 : Int32) < k))) = (0 : Int32) from b2i_neg (fun q => q.2 hc_13)]
        show Go p e below s _ _ _ T_2 (mkF m 14 #[.val (.int k)] [(.int (0 : Int32))])
        refine Go.st (fun _ => XS.ifNo X_2.here hx rfl (hb hby d3_14) rfl ((if0 _ _).trans (teq (by decide : (0 : Int32) = (0 : Int32))).2)) ?_
        show Go p e below s _ _ _ T_2 (mkF m 17 #[.val (.int k)] [])
        refine Go.st (fun _ => XS.iloadN X_2.here hx rfl (hb hby d3_17) rfl) ?_
        show Go p e below s _ _ _ T_2 (mkF m 18 #[.val (.int k)] [(.int k)])
        refine Go.st (fun _ => XS.bipush X_2.here hx rfl (hb hby d3_18)) ?_
        show Go p e below s _ _ _ T_2 (mkF m 20 #[.val (.int k)] [(.int (96 : Int32)), (.int k)])
        by_cases hc_14 : k = (96 : Int32)
        · refine Go.st (fun _ => XS.icmpYes X_2.here hx rfl (pc0 := 20) (pc' := 160) rfl (hb hby d3_20) rfl (teq hc_14).1 (by decide) (by decide)) ?_
          show Go p e below s _ _ _ T_2 (mkF m 160 #[.val (.int k)] [])
          refine Go.st (fun _ => XS.iconst X_2.here hx rfl (hb hby d3_160)) ?_
          show Go p e below s _ _ _ T_2 (mkF m 161 #[.val (.int k)] [(.int (1 : Int32))])
          refine Go.st (fun _ => XS.goto X_2.here hx rfl (pc0 := 161) (pc' := 165) rfl (hb hby d3_161) (by decide) (by decide)) ?_
          show Go p e below s _ _ _ T_2 (mkF m 165 #[.val (.int k)] [(.int (1 : Int32))])
          exact Go.retZ X_2 hx hlk Bd.returns (hb hby d3_165) rfl (by rw [e_2]; exact ⟨(own_b2i_t (by have := own_c4 hc_13 (by decide : (94 : Int32).toInt = 94); have := own_c5 hc_14 (by decide : (96 : Int32).toInt = 96); exact own_gap_t (by omega))), N_2, rfl⟩) (by decide) (by decide)
        · refine Go.st (fun _ => XS.icmpNo X_2.here hx rfl (hb hby d3_20) rfl (feq hc_14).1) ?_
          show Go p e below s _ _ _ T_2 (mkF m 23 #[.val (.int k)] [])
          refine Go.st (fun _ => XS.iloadN X_2.here hx rfl (hb hby d3_23) rfl) ?_
          show Go p e below s _ _ _ T_2 (mkF m 24 #[.val (.int k)] [(.int k)])
          refine Go.st (fun _ => XS.bipush X_2.here hx rfl (hb hby d3_24)) ?_
          show Go p e below s _ _ _ T_2 (mkF m 26 #[.val (.int k)] [(.int (123 : Int32)), (.int k)])
          refine Go.st (fun _ => XS.sipush X_2.here hx rfl (hb hby d3_26)) ?_
          show Go p e below s _ _ _ T_2 (mkF m 29 #[.val (.int k)] [(.int (191 : Int32)), (.int (123 : Int32)), (.int k)])
          obtain ⟨_, _, ⟨T_15, L_15, kc_15, nc_15⟩, -, X_15, ⟨Lc_15, hQ_15, l_15, y_15, z_15⟩, st_15⟩ := Jvm.LawKit.callS X_2 hx (y := (⟨"com/example/moat/moat/xpath/NamesIsNameStartPinLaw", "in", "(III)Z"⟩ : MethodName)) hown (mvT hZ (hw _ (List.mem_of_getElem? (i := 27) rfl))) (mvT hZ (hw _ (List.mem_of_getElem? (i := 28) rfl))) (mvT hZ (hw _ (List.mem_of_getElem? (i := 22) rfl))) (mvT hZ (hw _ (List.mem_of_getElem? (i := 29) rfl))) (by decide) (backOf (W := 0) (rm4 l Z a0 hw [] k (123 : Int32) (191 : Int32) h0 n0 Z0 ) hZ (hw _ (List.mem_of_getElem? (i := 29) rfl)) (hw _ (List.mem_of_getElem? (i := 22) rfl)) (by decide) (by decide)) (g := (mkF m 29 #[.val (.int k)] [(.int (191 : Int32)), (.int (123 : Int32)), (.int k)])) rfl (by rw [hml]; rfl) (argsL := [(.int k), (.int (123 : Int32)), (.int (191 : Int32))]) (rest := []) (lenOf pd_0 rfl) rfl (by show 2 * 0 + _ ≤ _; exact Nat.le_of_eq rfl) (hb hby d3_29) (fun _ _ => ⟨rfl, e_2, (by decide : 0 + 0 ≤ _), (by decide : 0 + 0 ≤ _)⟩)
          dsimp only [Pt.U, Pt.locs, Pt.cells, Pt.slots] at X_15 l_15 y_15 z_15 st_15 hQ_15
          obtain rfl : kc_15 = 0 := y_15
          obtain rfl : nc_15 = 0 := z_15
          obtain ⟨h_15, e_15⟩ : ∃ hh, T_15.heap = hh := ⟨_, rfl⟩
          rw [e_15] at hQ_15
          obtain ⟨rfl, N_15q, sm_15⟩ := hQ_15
          have N_15 : Fr n0 L_15 := by rw [l_15]; exact Fr.app N_2 N_15q
          refine Go.st st_15 ?_
          rw [sm_15] at e_15
          show Go p e below s _ _ _ T_15 (mkF m 32 #[.val (.int k)] [(.int (b2i (¬ (k < (123 : Int32)) ∧ ¬ ((191 : Int32) < k))))])
          by_cases hc_16 : k < (123 : Int32)
          · rw [show (b2i (¬ (k < (123 : Int32)) ∧ ¬ ((191 : Int32) < k))) = (0 : Int32) from b2i_neg (fun q => q.1 hc_16)]
            show Go p e below s _ _ _ T_15 (mkF m 32 #[.val (.int k)] [(.int (0 : Int32))])
            refine Go.st (fun _ => XS.ifNo X_15.here hx rfl (hb hby d3_32) rfl ((if0 _ _).trans (teq (by decide : (0 : Int32) = (0 : Int32))).2)) ?_
            show Go p e below s _ _ _ T_15 (mkF m 35 #[.val (.int k)] [])
            refine Go.st (fun _ => XS.iloadN X_15.here hx rfl (hb hby d3_35) rfl) ?_
            show Go p e below s _ _ _ T_15 (mkF m 36 #[.val (.int k)] [(.int k)])
            refine Go.st (fun _ => XS.sipush X_15.here hx rfl (hb hby d3_36)) ?_
            show Go p e below s _ _ _ T_15 (mkF m 39 #[.val (.int k)] [(.int (215 : Int32)), (.int k)])
            refine Go.st (fun _ => XS.icmpNo X_15.here hx rfl (hb hby d3_39) rfl (feq (own_k1 hc_16 (by decide) : ¬ (k = (215 : Int32)))).1) ?_
            show Go p e below s _ _ _ T_15 (mkF m 42 #[.val (.int k)] [])
            refine Go.st (fun _ => XS.iloadN X_15.here hx rfl (hb hby d3_42) rfl) ?_
            show Go p e below s _ _ _ T_15 (mkF m 43 #[.val (.int k)] [(.int k)])
            refine Go.st (fun _ => XS.sipush X_15.here hx rfl (hb hby d3_43)) ?_
            show Go p e below s _ _ _ T_15 (mkF m 46 #[.val (.int k)] [(.int (247 : Int32)), (.int k)])
            refine Go.st (fun _ => XS.icmpNo X_15.here hx rfl (hb hby d3_46) rfl (feq (own_k1 hc_16 (by decide) : ¬ (k = (247 : Int32)))).1) ?_
            show Go p e below s _ _ _ T_15 (mkF m 49 #[.val (.int k)] [])
            refine Go.st (fun _ => XS.iloadN X_15.here hx rfl (hb hby d3_49) rfl) ?_
            show Go p e below s _ _ _ T_15 (mkF m 50 #[.val (.int k)] [(.int k)])
            refine Go.st (fun _ => XS.sipush X_15.here hx rfl (hb hby d3_50)) ?_
            show Go p e below s _ _ _ T_15 (mkF m 53 #[.val (.int k)] [(.int (768 : Int32)), (.int k)])
            refine Go.st (fun _ => XS.sipush X_15.here hx rfl (hb hby d3_53)) ?_
            show Go p e below s _ _ _ T_15 (mkF m 56 #[.val (.int k)] [(.int (879 : Int32)), (.int (768 : Int32)), (.int k)])
            obtain ⟨_, _, ⟨T_17, L_17, kc_17, nc_17⟩, -, X_17, ⟨Lc_17, hQ_17, l_17, y_17, z_17⟩, st_17⟩ := Jvm.LawKit.callS X_15 hx (y := (⟨"com/example/moat/moat/xpath/NamesIsNameStartPinLaw", "in", "(III)Z"⟩ : MethodName)) hown (mvT hZ (hw _ (List.mem_of_getElem? (i := 27) rfl))) (mvT hZ (hw _ (List.mem_of_getElem? (i := 28) rfl))) (mvT hZ (hw _ (List.mem_of_getElem? (i := 22) rfl))) (mvT hZ (hw _ (List.mem_of_getElem? (i := 29) rfl))) (by decide) (backOf (W := 0) (rm4 l Z a0 hw [] k (768 : Int32) (879 : Int32) h0 n0 Z0 ) hZ (hw _ (List.mem_of_getElem? (i := 29) rfl)) (hw _ (List.mem_of_getElem? (i := 22) rfl)) (by decide) (by decide)) (g := (mkF m 56 #[.val (.int k)] [(.int (879 : Int32)), (.int (768 : Int32)), (.int k)])) rfl (by rw [hml]; rfl) (argsL := [(.int k), (.int (768 : Int32)), (.int (879 : Int32))]) (rest := []) (lenOf pd_0 rfl) rfl (by show 2 * 0 + _ ≤ _; exact Nat.le_of_eq rfl) (hb hby d3_56) (fun _ _ => ⟨rfl, e_15, (by decide : 0 + 0 ≤ _), (by decide : 0 + 0 ≤ _)⟩)
            dsimp only [Pt.U, Pt.locs, Pt.cells, Pt.slots] at X_17 l_17 y_17 z_17 st_17 hQ_17
            obtain rfl : kc_17 = 0 := y_17
            obtain rfl : nc_17 = 0 := z_17
            obtain ⟨h_17, e_17⟩ : ∃ hh, T_17.heap = hh := ⟨_, rfl⟩
            rw [e_17] at hQ_17
            obtain ⟨rfl, N_17q, sm_17⟩ := hQ_17
            have N_17 : Fr n0 L_17 := by rw [l_17]; exact Fr.app N_15 N_17q
            refine Go.st st_17 ?_
            rw [sm_17] at e_17
            show Go p e below s _ _ _ T_17 (mkF m 59 #[.val (.int k)] [(.int (b2i (¬ (k < (768 : Int32)) ∧ ¬ ((879 : Int32) < k))))])
            rw [show (b2i (¬ (k < (768 : Int32)) ∧ ¬ ((879 : Int32) < k))) = (0 : Int32) from b2i_neg (fun q => q.1 (own_i1 hc_16 (by decide) : k < (768 : Int32)))]
            show Go p e below s _ _ _ T_17 (mkF m 59 #[.val (.int k)] [(.int (0 : Int32))])
            refine Go.st (fun _ => XS.ifNo X_17.here hx rfl (hb hby d3_59) rfl ((if0 _ _).trans (teq (by decide : (0 : Int32) = (0 : Int32))).2)) ?_
            show Go p e below s _ _ _ T_17 (mkF m 62 #[.val (.int k)] [])
            refine Go.st (fun _ => XS.iloadN X_17.here hx rfl (hb hby d3_62) rfl) ?_
            show Go p e below s _ _ _ T_17 (mkF m 63 #[.val (.int k)] [(.int k)])
            refine Go.st (fun _ => XS.sipush X_17.here hx rfl (hb hby d3_63)) ?_
            show Go p e below s _ _ _ T_17 (mkF m 66 #[.val (.int k)] [(.int (894 : Int32)), (.int k)])
            refine Go.st (fun _ => XS.icmpNo X_17.here hx rfl (hb hby d3_66) rfl (feq (own_k1 hc_16 (by decide) : ¬ (k = (894 : Int32)))).1) ?_
            show Go p e below s _ _ _ T_17 (mkF m 69 #[.val (.int k)] [])
            refine Go.st (fun _ => XS.iloadN X_17.here hx rfl (hb hby d3_69) rfl) ?_
            show Go p e below s _ _ _ T_17 (mkF m 70 #[.val (.int k)] [(.int k)])
            refine Go.st (fun _ => XS.sipush X_17.here hx rfl (hb hby d3_70)) ?_
            show Go p e below s _ _ _ T_17 (mkF m 73 #[.val (.int k)] [(.int (8192 : Int32)), (.int k)])
            refine Go.st (fun _ => XS.sipush X_17.here hx rfl (hb hby d3_73)) ?_
            show Go p e below s _ _ _ T_17 (mkF m 76 #[.val (.int k)] [(.int (8203 : Int32)), (.int (8192 : Int32)), (.int k)])
            obtain ⟨_, _, ⟨T_18, L_18, kc_18, nc_18⟩, -, X_18, ⟨Lc_18, hQ_18, l_18, y_18, z_18⟩, st_18⟩ := Jvm.LawKit.callS X_17 hx (y := (⟨"com/example/moat/moat/xpath/NamesIsNameStartPinLaw", "in", "(III)Z"⟩ : MethodName)) hown (mvT hZ (hw _ (List.mem_of_getElem? (i := 27) rfl))) (mvT hZ (hw _ (List.mem_of_getElem? (i := 28) rfl))) (mvT hZ (hw _ (List.mem_of_getElem? (i := 22) rfl))) (mvT hZ (hw _ (List.mem_of_getElem? (i := 29) rfl))) (by decide) (backOf (W := 0) (rm4 l Z a0 hw [] k (8192 : Int32) (8203 : Int32) h0 n0 Z0 ) hZ (hw _ (List.mem_of_getElem? (i := 29) rfl)) (hw _ (List.mem_of_getElem? (i := 22) rfl)) (by decide) (by decide)) (g := (mkF m 76 #[.val (.int k)] [(.int (8203 : Int32)), (.int (8192 : Int32)), (.int k)])) rfl (by rw [hml]; rfl) (argsL := [(.int k), (.int (8192 : Int32)), (.int (8203 : Int32))]) (rest := []) (lenOf pd_0 rfl) rfl (by show 2 * 0 + _ ≤ _; exact Nat.le_of_eq rfl) (hb hby d3_76) (fun _ _ => ⟨rfl, e_17, (by decide : 0 + 0 ≤ _), (by decide : 0 + 0 ≤ _)⟩)
            dsimp only [Pt.U, Pt.locs, Pt.cells, Pt.slots] at X_18 l_18 y_18 z_18 st_18 hQ_18
            obtain rfl : kc_18 = 0 := y_18
            obtain rfl : nc_18 = 0 := z_18
            obtain ⟨h_18, e_18⟩ : ∃ hh, T_18.heap = hh := ⟨_, rfl⟩
            rw [e_18] at hQ_18
            obtain ⟨rfl, N_18q, sm_18⟩ := hQ_18
            have N_18 : Fr n0 L_18 := by rw [l_18]; exact Fr.app N_17 N_18q
            refine Go.st st_18 ?_
            rw [sm_18] at e_18
            show Go p e below s _ _ _ T_18 (mkF m 79 #[.val (.int k)] [(.int (b2i (¬ (k < (8192 : Int32)) ∧ ¬ ((8203 : Int32) < k))))])
            rw [show (b2i (¬ (k < (8192 : Int32)) ∧ ¬ ((8203 : Int32) < k))) = (0 : Int32) from b2i_neg (fun q => q.1 (own_i1 hc_16 (by decide) : k < (8192 : Int32)))]
            show Go p e below s _ _ _ T_18 (mkF m 79 #[.val (.int k)] [(.int (0 : Int32))])
            refine Go.st (fun _ => XS.ifNo X_18.here hx rfl (hb hby d3_79) rfl ((if0 _ _).trans (teq (by decide : (0 : Int32) = (0 : Int32))).2)) ?_
            show Go p e below s _ _ _ T_18 (mkF m 82 #[.val (.int k)] [])
            refine Go.st (fun _ => XS.iloadN X_18.here hx rfl (hb hby d3_82) rfl) ?_
            show Go p e below s _ _ _ T_18 (mkF m 83 #[.val (.int k)] [(.int k)])
            refine Go.st (fun _ => XS.sipush X_18.here hx rfl (hb hby d3_83)) ?_
            show Go p e below s _ _ _ T_18 (mkF m 86 #[.val (.int k)] [(.int (8206 : Int32)), (.int k)])
            refine Go.st (fun _ => XS.sipush X_18.here hx rfl (hb hby d3_86)) ?_
            show Go p e below s _ _ _ T_18 (mkF m 89 #[.val (.int k)] [(.int (8303 : Int32)), (.int (8206 : Int32)), (.int k)])
            obtain ⟨_, _, ⟨T_19, L_19, kc_19, nc_19⟩, -, X_19, ⟨Lc_19, hQ_19, l_19, y_19, z_19⟩, st_19⟩ := Jvm.LawKit.callS X_18 hx (y := (⟨"com/example/moat/moat/xpath/NamesIsNameStartPinLaw", "in", "(III)Z"⟩ : MethodName)) hown (mvT hZ (hw _ (List.mem_of_getElem? (i := 27) rfl))) (mvT hZ (hw _ (List.mem_of_getElem? (i := 28) rfl))) (mvT hZ (hw _ (List.mem_of_getElem? (i := 22) rfl))) (mvT hZ (hw _ (List.mem_of_getElem? (i := 29) rfl))) (by decide) (backOf (W := 0) (rm4 l Z a0 hw [] k (8206 : Int32) (8303 : Int32) h0 n0 Z0 ) hZ (hw _ (List.mem_of_getElem? (i := 29) rfl)) (hw _ (List.mem_of_getElem? (i := 22) rfl)) (by decide) (by decide)) (g := (mkF m 89 #[.val (.int k)] [(.int (8303 : Int32)), (.int (8206 : Int32)), (.int k)])) rfl (by rw [hml]; rfl) (argsL := [(.int k), (.int (8206 : Int32)), (.int (8303 : Int32))]) (rest := []) (lenOf pd_0 rfl) rfl (by show 2 * 0 + _ ≤ _; exact Nat.le_of_eq rfl) (hb hby d3_89) (fun _ _ => ⟨rfl, e_18, (by decide : 0 + 0 ≤ _), (by decide : 0 + 0 ≤ _)⟩)
            dsimp only [Pt.U, Pt.locs, Pt.cells, Pt.slots] at X_19 l_19 y_19 z_19 st_19 hQ_19
            obtain rfl : kc_19 = 0 := y_19
            obtain rfl : nc_19 = 0 := z_19
            obtain ⟨h_19, e_19⟩ : ∃ hh, T_19.heap = hh := ⟨_, rfl⟩
            rw [e_19] at hQ_19
            obtain ⟨rfl, N_19q, sm_19⟩ := hQ_19
            have N_19 : Fr n0 L_19 := by rw [l_19]; exact Fr.app N_18 N_19q
            refine Go.st st_19 ?_
            rw [sm_19] at e_19
            show Go p e below s _ _ _ T_19 (mkF m 92 #[.val (.int k)] [(.int (b2i (¬ (k < (8206 : Int32)) ∧ ¬ ((8303 : Int32) < k))))])
            rw [show (b2i (¬ (k < (8206 : Int32)) ∧ ¬ ((8303 : Int32) < k))) = (0 : Int32) from b2i_neg (fun q => q.1 (own_i1 hc_16 (by decide) : k < (8206 : Int32)))]
            show Go p e below s _ _ _ T_19 (mkF m 92 #[.val (.int k)] [(.int (0 : Int32))])
            refine Go.st (fun _ => XS.ifNo X_19.here hx rfl (hb hby d3_92) rfl ((if0 _ _).trans (teq (by decide : (0 : Int32) = (0 : Int32))).2)) ?_
            show Go p e below s _ _ _ T_19 (mkF m 95 #[.val (.int k)] [])
            refine Go.st (fun _ => XS.iloadN X_19.here hx rfl (hb hby d3_95) rfl) ?_
            show Go p e below s _ _ _ T_19 (mkF m 96 #[.val (.int k)] [(.int k)])
            refine Go.st (fun _ => XS.sipush X_19.here hx rfl (hb hby d3_96)) ?_
            show Go p e below s _ _ _ T_19 (mkF m 99 #[.val (.int k)] [(.int (8592 : Int32)), (.int k)])
            refine Go.st (fun _ => XS.sipush X_19.here hx rfl (hb hby d3_99)) ?_
            show Go p e below s _ _ _ T_19 (mkF m 102 #[.val (.int k)] [(.int (11263 : Int32)), (.int (8592 : Int32)), (.int k)])
            obtain ⟨_, _, ⟨T_20, L_20, kc_20, nc_20⟩, -, X_20, ⟨Lc_20, hQ_20, l_20, y_20, z_20⟩, st_20⟩ := Jvm.LawKit.callS X_19 hx (y := (⟨"com/example/moat/moat/xpath/NamesIsNameStartPinLaw", "in", "(III)Z"⟩ : MethodName)) hown (mvT hZ (hw _ (List.mem_of_getElem? (i := 27) rfl))) (mvT hZ (hw _ (List.mem_of_getElem? (i := 28) rfl))) (mvT hZ (hw _ (List.mem_of_getElem? (i := 22) rfl))) (mvT hZ (hw _ (List.mem_of_getElem? (i := 29) rfl))) (by decide) (backOf (W := 0) (rm4 l Z a0 hw [] k (8592 : Int32) (11263 : Int32) h0 n0 Z0 ) hZ (hw _ (List.mem_of_getElem? (i := 29) rfl)) (hw _ (List.mem_of_getElem? (i := 22) rfl)) (by decide) (by decide)) (g := (mkF m 102 #[.val (.int k)] [(.int (11263 : Int32)), (.int (8592 : Int32)), (.int k)])) rfl (by rw [hml]; rfl) (argsL := [(.int k), (.int (8592 : Int32)), (.int (11263 : Int32))]) (rest := []) (lenOf pd_0 rfl) rfl (by show 2 * 0 + _ ≤ _; exact Nat.le_of_eq rfl) (hb hby d3_102) (fun _ _ => ⟨rfl, e_19, (by decide : 0 + 0 ≤ _), (by decide : 0 + 0 ≤ _)⟩)
            dsimp only [Pt.U, Pt.locs, Pt.cells, Pt.slots] at X_20 l_20 y_20 z_20 st_20 hQ_20
            obtain rfl : kc_20 = 0 := y_20
            obtain rfl : nc_20 = 0 := z_20
            obtain ⟨h_20, e_20⟩ : ∃ hh, T_20.heap = hh := ⟨_, rfl⟩
            rw [e_20] at hQ_20
            obtain ⟨rfl, N_20q, sm_20⟩ := hQ_20
            have N_20 : Fr n0 L_20 := by rw [l_20]; exact Fr.app N_19 N_20q
            refine Go.st st_20 ?_
            rw [sm_20] at e_20
            show Go p e below s _ _ _ T_20 (mkF m 105 #[.val (.int k)] [(.int (b2i (¬ (k < (8592 : Int32)) ∧ ¬ ((11263 : Int32) < k))))])
            rw [show (b2i (¬ (k < (8592 : Int32)) ∧ ¬ ((11263 : Int32) < k))) = (0 : Int32) from b2i_neg (fun q => q.1 (own_i1 hc_16 (by decide) : k < (8592 : Int32)))]
            show Go p e below s _ _ _ T_20 (mkF m 105 #[.val (.int k)] [(.int (0 : Int32))])
            refine Go.st (fun _ => XS.ifNo X_20.here hx rfl (hb hby d3_105) rfl ((if0 _ _).trans (teq (by decide : (0 : Int32) = (0 : Int32))).2)) ?_
            show Go p e below s _ _ _ T_20 (mkF m 108 #[.val (.int k)] [])
            refine Go.st (fun _ => XS.iloadN X_20.here hx rfl (hb hby d3_108) rfl) ?_
            show Go p e below s _ _ _ T_20 (mkF m 109 #[.val (.int k)] [(.int k)])
            refine Go.st (fun _ => XS.sipush X_20.here hx rfl (hb hby d3_109)) ?_
            show Go p e below s _ _ _ T_20 (mkF m 112 #[.val (.int k)] [(.int (12272 : Int32)), (.int k)])
            refine Go.st (fun _ => XS.sipush X_20.here hx rfl (hb hby d3_112)) ?_
            show Go p e below s _ _ _ T_20 (mkF m 115 #[.val (.int k)] [(.int (12288 : Int32)), (.int (12272 : Int32)), (.int k)])
            obtain ⟨_, _, ⟨T_21, L_21, kc_21, nc_21⟩, -, X_21, ⟨Lc_21, hQ_21, l_21, y_21, z_21⟩, st_21⟩ := Jvm.LawKit.callS X_20 hx (y := (⟨"com/example/moat/moat/xpath/NamesIsNameStartPinLaw", "in", "(III)Z"⟩ : MethodName)) hown (mvT hZ (hw _ (List.mem_of_getElem? (i := 27) rfl))) (mvT hZ (hw _ (List.mem_of_getElem? (i := 28) rfl))) (mvT hZ (hw _ (List.mem_of_getElem? (i := 22) rfl))) (mvT hZ (hw _ (List.mem_of_getElem? (i := 29) rfl))) (by decide) (backOf (W := 0) (rm4 l Z a0 hw [] k (12272 : Int32) (12288 : Int32) h0 n0 Z0 ) hZ (hw _ (List.mem_of_getElem? (i := 29) rfl)) (hw _ (List.mem_of_getElem? (i := 22) rfl)) (by decide) (by decide)) (g := (mkF m 115 #[.val (.int k)] [(.int (12288 : Int32)), (.int (12272 : Int32)), (.int k)])) rfl (by rw [hml]; rfl) (argsL := [(.int k), (.int (12272 : Int32)), (.int (12288 : Int32))]) (rest := []) (lenOf pd_0 rfl) rfl (by show 2 * 0 + _ ≤ _; exact Nat.le_of_eq rfl) (hb hby d3_115) (fun _ _ => ⟨rfl, e_20, (by decide : 0 + 0 ≤ _), (by decide : 0 + 0 ≤ _)⟩)
            dsimp only [Pt.U, Pt.locs, Pt.cells, Pt.slots] at X_21 l_21 y_21 z_21 st_21 hQ_21
            obtain rfl : kc_21 = 0 := y_21
            obtain rfl : nc_21 = 0 := z_21
            obtain ⟨h_21, e_21⟩ : ∃ hh, T_21.heap = hh := ⟨_, rfl⟩
            rw [e_21] at hQ_21
            obtain ⟨rfl, N_21q, sm_21⟩ := hQ_21
            have N_21 : Fr n0 L_21 := by rw [l_21]; exact Fr.app N_20 N_21q
            refine Go.st st_21 ?_
            rw [sm_21] at e_21
            show Go p e below s _ _ _ T_21 (mkF m 118 #[.val (.int k)] [(.int (b2i (¬ (k < (12272 : Int32)) ∧ ¬ ((12288 : Int32) < k))))])
            rw [show (b2i (¬ (k < (12272 : Int32)) ∧ ¬ ((12288 : Int32) < k))) = (0 : Int32) from b2i_neg (fun q => q.1 (own_i1 hc_16 (by decide) : k < (12272 : Int32)))]
            show Go p e below s _ _ _ T_21 (mkF m 118 #[.val (.int k)] [(.int (0 : Int32))])
            refine Go.st (fun _ => XS.ifNo X_21.here hx rfl (hb hby d3_118) rfl ((if0 _ _).trans (teq (by decide : (0 : Int32) = (0 : Int32))).2)) ?_
            show Go p e below s _ _ _ T_21 (mkF m 121 #[.val (.int k)] [])
            refine Go.st (fun _ => XS.iloadN X_21.here hx rfl (hb hby d3_121) rfl) ?_
            show Go p e below s _ _ _ T_21 (mkF m 122 #[.val (.int k)] [(.int k)])
            refine Go.st (fun tG => X_21.ldcInt hx hown (mvT hZ (hw _ (List.mem_of_getElem? (i := 30) rfl))) (g := (mkF m 122 #[.val (.int k)] [(.int k)])) rfl (hb hby d3_122) tG) ?_
            show Go p e below s _ _ _ T_21 (mkF m 124 #[.val (.int k)] [(.int (56192 : Int32)), (.int k)])
            refine Go.st (fun tG => X_21.ldcInt hx hown (mvT hZ (hw _ (List.mem_of_getElem? (i := 31) rfl))) (g := (mkF m 124 #[.val (.int k)] [(.int (56192 : Int32)), (.int k)])) rfl (hb hby d3_124) tG) ?_
            show Go p e below s _ _ _ T_21 (mkF m 126 #[.val (.int k)] [(.int (63743 : Int32)), (.int (56192 : Int32)), (.int k)])
            obtain ⟨_, _, ⟨T_22, L_22, kc_22, nc_22⟩, -, X_22, ⟨Lc_22, hQ_22, l_22, y_22, z_22⟩, st_22⟩ := Jvm.LawKit.callS X_21 hx (y := (⟨"com/example/moat/moat/xpath/NamesIsNameStartPinLaw", "in", "(III)Z"⟩ : MethodName)) hown (mvT hZ (hw _ (List.mem_of_getElem? (i := 27) rfl))) (mvT hZ (hw _ (List.mem_of_getElem? (i := 28) rfl))) (mvT hZ (hw _ (List.mem_of_getElem? (i := 22) rfl))) (mvT hZ (hw _ (List.mem_of_getElem? (i := 29) rfl))) (by decide) (backOf (W := 0) (rm4 l Z a0 hw [] k (56192 : Int32) (63743 : Int32) h0 n0 Z0 ) hZ (hw _ (List.mem_of_getElem? (i := 29) rfl)) (hw _ (List.mem_of_getElem? (i := 22) rfl)) (by decide) (by decide)) (g := (mkF m 126 #[.val (.int k)] [(.int (63743 : Int32)), (.int (56192 : Int32)), (.int k)])) rfl (by rw [hml]; rfl) (argsL := [(.int k), (.int (56192 : Int32)), (.int (63743 : Int32))]) (rest := []) (lenOf pd_0 rfl) rfl (by show 2 * 0 + _ ≤ _; exact Nat.le_of_eq rfl) (hb hby d3_126) (fun _ _ => ⟨rfl, e_21, (by decide : 0 + 0 ≤ _), (by decide : 0 + 0 ≤ _)⟩)
            dsimp only [Pt.U, Pt.locs, Pt.cells, Pt.slots] at X_22 l_22 y_22 z_22 st_22 hQ_22
            obtain rfl : kc_22 = 0 := y_22
            obtain rfl : nc_22 = 0 := z_22
            obtain ⟨h_22, e_22⟩ : ∃ hh, T_22.heap = hh := ⟨_, rfl⟩
            rw [e_22] at hQ_22
            obtain ⟨rfl, N_22q, sm_22⟩ := hQ_22
            have N_22 : Fr n0 L_22 := by rw [l_22]; exact Fr.app N_21 N_22q
            refine Go.st st_22 ?_
            rw [sm_22] at e_22
            show Go p e below s _ _ _ T_22 (mkF m 129 #[.val (.int k)] [(.int (b2i (¬ (k < (56192 : Int32)) ∧ ¬ ((63743 : Int32) < k))))])
            rw [show (b2i (¬ (k < (56192 : Int32)) ∧ ¬ ((63743 : Int32) < k))) = (0 : Int32) from b2i_neg (fun q => q.1 (own_i1 hc_16 (by decide) : k < (56192 : Int32)))]
            show Go p e below s _ _ _ T_22 (mkF m 129 #[.val (.int k)] [(.int (0 : Int32))])
            refine Go.st (fun _ => XS.ifNo X_22.here hx rfl (hb hby d3_129) rfl ((if0 _ _).trans (teq (by decide : (0 : Int32) = (0 : Int32))).2)) ?_
            show Go p e below s _ _ _ T_22 (mkF m 132 #[.val (.int k)] [])
            refine Go.st (fun _ => XS.iloadN X_22.here hx rfl (hb hby d3_132) rfl) ?_
            show Go p e below s _ _ _ T_22 (mkF m 133 #[.val (.int k)] [(.int k)])
            refine Go.st (fun tG => X_22.ldcInt hx hown (mvT hZ (hw _ (List.mem_of_getElem? (i := 32) rfl))) (g := (mkF m 133 #[.val (.int k)] [(.int k)])) rfl (hb hby d3_133) tG) ?_
            show Go p e below s _ _ _ T_22 (mkF m 135 #[.val (.int k)] [(.int (64976 : Int32)), (.int k)])
            refine Go.st (fun tG => X_22.ldcInt hx hown (mvT hZ (hw _ (List.mem_of_getElem? (i := 33) rfl))) (g := (mkF m 135 #[.val (.int k)] [(.int (64976 : Int32)), (.int k)])) rfl (hb hby d3_135) tG) ?_
            show Go p e below s _ _ _ T_22 (mkF m 137 #[.val (.int k)] [(.int (65007 : Int32)), (.int (64976 : Int32)), (.int k)])
            obtain ⟨_, _, ⟨T_23, L_23, kc_23, nc_23⟩, -, X_23, ⟨Lc_23, hQ_23, l_23, y_23, z_23⟩, st_23⟩ := Jvm.LawKit.callS X_22 hx (y := (⟨"com/example/moat/moat/xpath/NamesIsNameStartPinLaw", "in", "(III)Z"⟩ : MethodName)) hown (mvT hZ (hw _ (List.mem_of_getElem? (i := 27) rfl))) (mvT hZ (hw _ (List.mem_of_getElem? (i := 28) rfl))) (mvT hZ (hw _ (List.mem_of_getElem? (i := 22) rfl))) (mvT hZ (hw _ (List.mem_of_getElem? (i := 29) rfl))) (by decide) (backOf (W := 0) (rm4 l Z a0 hw [] k (64976 : Int32) (65007 : Int32) h0 n0 Z0 ) hZ (hw _ (List.mem_of_getElem? (i := 29) rfl)) (hw _ (List.mem_of_getElem? (i := 22) rfl)) (by decide) (by decide)) (g := (mkF m 137 #[.val (.int k)] [(.int (65007 : Int32)), (.int (64976 : Int32)), (.int k)])) rfl (by rw [hml]; rfl) (argsL := [(.int k), (.int (64976 : Int32)), (.int (65007 : Int32))]) (rest := []) (lenOf pd_0 rfl) rfl (by show 2 * 0 + _ ≤ _; exact Nat.le_of_eq rfl) (hb hby d3_137) (fun _ _ => ⟨rfl, e_22, (by decide : 0 + 0 ≤ _), (by decide : 0 + 0 ≤ _)⟩)
            dsimp only [Pt.U, Pt.locs, Pt.cells, Pt.slots] at X_23 l_23 y_23 z_23 st_23 hQ_23
            obtain rfl : kc_23 = 0 := y_23
            obtain rfl : nc_23 = 0 := z_23
            obtain ⟨h_23, e_23⟩ : ∃ hh, T_23.heap = hh := ⟨_, rfl⟩
            rw [e_23] at hQ_23
            obtain ⟨rfl, N_23q, sm_23⟩ := hQ_23
            have N_23 : Fr n0 L_23 := by rw [l_23]; exact Fr.app N_22 N_23q
            refine Go.st st_23 ?_
            rw [sm_23] at e_23
            show Go p e below s _ _ _ T_23 (mkF m 140 #[.val (.int k)] [(.int (b2i (¬ (k < (64976 : Int32)) ∧ ¬ ((65007 : Int32) < k))))])
            rw [show (b2i (¬ (k < (64976 : Int32)) ∧ ¬ ((65007 : Int32) < k))) = (0 : Int32) from b2i_neg (fun q => q.1 (own_i1 hc_16 (by decide) : k < (64976 : Int32)))]
            show Go p e below s _ _ _ T_23 (mkF m 140 #[.val (.int k)] [(.int (0 : Int32))])
            refine Go.st (fun _ => XS.ifNo X_23.here hx rfl (hb hby d3_140) rfl ((if0 _ _).trans (teq (by decide : (0 : Int32) = (0 : Int32))).2)) ?_
            show Go p e below s _ _ _ T_23 (mkF m 143 #[.val (.int k)] [])
            refine Go.st (fun _ => XS.iloadN X_23.here hx rfl (hb hby d3_143) rfl) ?_
            show Go p e below s _ _ _ T_23 (mkF m 144 #[.val (.int k)] [(.int k)])
            refine Go.st (fun tG => X_23.ldcInt hx hown (mvT hZ (hw _ (List.mem_of_getElem? (i := 34) rfl))) (g := (mkF m 144 #[.val (.int k)] [(.int k)])) rfl (hb hby d3_144) tG) ?_
            show Go p e below s _ _ _ T_23 (mkF m 146 #[.val (.int k)] [(.int (65534 : Int32)), (.int k)])
            refine Go.st (fun tG => X_23.ldcInt hx hown (mvT hZ (hw _ (List.mem_of_getElem? (i := 35) rfl))) (g := (mkF m 146 #[.val (.int k)] [(.int (65534 : Int32)), (.int k)])) rfl (hb hby d3_146) tG) ?_
            show Go p e below s _ _ _ T_23 (mkF m 148 #[.val (.int k)] [(.int (65535 : Int32)), (.int (65534 : Int32)), (.int k)])
            obtain ⟨_, _, ⟨T_24, L_24, kc_24, nc_24⟩, -, X_24, ⟨Lc_24, hQ_24, l_24, y_24, z_24⟩, st_24⟩ := Jvm.LawKit.callS X_23 hx (y := (⟨"com/example/moat/moat/xpath/NamesIsNameStartPinLaw", "in", "(III)Z"⟩ : MethodName)) hown (mvT hZ (hw _ (List.mem_of_getElem? (i := 27) rfl))) (mvT hZ (hw _ (List.mem_of_getElem? (i := 28) rfl))) (mvT hZ (hw _ (List.mem_of_getElem? (i := 22) rfl))) (mvT hZ (hw _ (List.mem_of_getElem? (i := 29) rfl))) (by decide) (backOf (W := 0) (rm4 l Z a0 hw [] k (65534 : Int32) (65535 : Int32) h0 n0 Z0 ) hZ (hw _ (List.mem_of_getElem? (i := 29) rfl)) (hw _ (List.mem_of_getElem? (i := 22) rfl)) (by decide) (by decide)) (g := (mkF m 148 #[.val (.int k)] [(.int (65535 : Int32)), (.int (65534 : Int32)), (.int k)])) rfl (by rw [hml]; rfl) (argsL := [(.int k), (.int (65534 : Int32)), (.int (65535 : Int32))]) (rest := []) (lenOf pd_0 rfl) rfl (by show 2 * 0 + _ ≤ _; exact Nat.le_of_eq rfl) (hb hby d3_148) (fun _ _ => ⟨rfl, e_23, (by decide : 0 + 0 ≤ _), (by decide : 0 + 0 ≤ _)⟩)
            dsimp only [Pt.U, Pt.locs, Pt.cells, Pt.slots] at X_24 l_24 y_24 z_24 st_24 hQ_24
            obtain rfl : kc_24 = 0 := y_24
            obtain rfl : nc_24 = 0 := z_24
            obtain ⟨h_24, e_24⟩ : ∃ hh, T_24.heap = hh := ⟨_, rfl⟩
            rw [e_24] at hQ_24
            obtain ⟨rfl, N_24q, sm_24⟩ := hQ_24
            have N_24 : Fr n0 L_24 := by rw [l_24]; exact Fr.app N_23 N_24q
            refine Go.st st_24 ?_
            rw [sm_24] at e_24
            show Go p e below s _ _ _ T_24 (mkF m 151 #[.val (.int k)] [(.int (b2i (¬ (k < (65534 : Int32)) ∧ ¬ ((65535 : Int32) < k))))])
            rw [show (b2i (¬ (k < (65534 : Int32)) ∧ ¬ ((65535 : Int32) < k))) = (0 : Int32) from b2i_neg (fun q => q.1 (own_i1 hc_16 (by decide) : k < (65534 : Int32)))]
            show Go p e below s _ _ _ T_24 (mkF m 151 #[.val (.int k)] [(.int (0 : Int32))])
            refine Go.st (fun _ => XS.ifNo X_24.here hx rfl (hb hby d3_151) rfl ((if0 _ _).trans (teq (by decide : (0 : Int32) = (0 : Int32))).2)) ?_
            show Go p e below s _ _ _ T_24 (mkF m 154 #[.val (.int k)] [])
            refine Go.st (fun _ => XS.iloadN X_24.here hx rfl (hb hby d3_154) rfl) ?_
            show Go p e below s _ _ _ T_24 (mkF m 155 #[.val (.int k)] [(.int k)])
            refine Go.st (fun tG => X_24.ldcInt hx hown (mvT hZ (hw _ (List.mem_of_getElem? (i := 9) rfl))) (g := (mkF m 155 #[.val (.int k)] [(.int k)])) rfl (hb hby d3_155) tG) ?_
            show Go p e below s _ _ _ T_24 (mkF m 157 #[.val (.int k)] [(.int (983039 : Int32)), (.int k)])
            refine Go.st (fun _ => XS.icmpYes X_24.here hx rfl (pc0 := 157) (pc' := 164) rfl (hb hby d3_157) rfl (flt (own_j1 hc_16 (by decide) : ¬ ((983039 : Int32) < k))).2.2.2 (by decide) (by decide)) ?_
            show Go p e below s _ _ _ T_24 (mkF m 164 #[.val (.int k)] [])
            refine Go.st (fun _ => XS.iconst X_24.here hx rfl (hb hby d3_164)) ?_
            show Go p e below s _ _ _ T_24 (mkF m 165 #[.val (.int k)] [(.int (0 : Int32))])
            exact Go.retZ X_24 hx hlk Bd.returns (hb hby d3_165) rfl (by rw [e_24]; exact ⟨(own_b2i_f (by have := own_c4 hc_13 (by decide : (94 : Int32).toInt = 94); have := own_c1 hc_16 (by decide : (123 : Int32).toInt = 123); have := own_c6 hc_14 (by decide : (96 : Int32).toInt = 96); exact own_gap_f (by omega))), N_24, rfl⟩) (by decide) (by decide)
          · by_cases hc_25 : (191 : Int32) < k
            · rw [show (b2i (¬ (k < (123 : Int32)) ∧ ¬ ((191 : Int32) < k))) = (0 : Int32) from b2i_neg (fun q => q.2 hc_25)]
              show Go p e below s _ _ _ T_15 (mkF m 32 #[.val (.int k)] [(.int (0 : Int32))])
              refine Go.st (fun _ => XS.ifNo X_15.here hx rfl (hb hby d3_32) rfl ((if0 _ _).trans (teq (by decide : (0 : Int32) = (0 : Int32))).2)) ?_
              show Go p e below s _ _ _ T_15 (mkF m 35 #[.val (.int k)] [])
              refine Go.st (fun _ => XS.iloadN X_15.here hx rfl (hb hby d3_35) rfl) ?_
              show Go p e below s _ _ _ T_15 (mkF m 36 #[.val (.int k)] [(.int k)])
              refine Go.st (fun _ => XS.sipush X_15.here hx rfl (hb hby d3_36)) ?_
              show Go p e below s _ _ _ T_15 (mkF m 39 #[.val (.int k)] [(.int (215 : Int32)), (.int k)])
              by_cases hc_26 : k = (215 : Int32)
              · refine Go.st (fun _ => XS.icmpYes X_15.here hx rfl (pc0 := 39) (pc' := 160) rfl (hb hby d3_39) rfl (teq hc_26).1 (by decide) (by decide)) ?_
                show Go p e below s _ _ _ T_15 (mkF m 160 #[.val (.int k)] [])
                refine Go.st (fun _ => XS.iconst X_15.here hx rfl (hb hby d3_160)) ?_
                show Go p e below s _ _ _ T_15 (mkF m 161 #[.val (.int k)] [(.int (1 : Int32))])
                refine Go.st (fun _ => XS.goto X_15.here hx rfl (pc0 := 161) (pc' := 165) rfl (hb hby d3_161) (by decide) (by decide)) ?_
                show Go p e below s _ _ _ T_15 (mkF m 165 #[.val (.int k)] [(.int (1 : Int32))])
                exact Go.retZ X_15 hx hlk Bd.returns (hb hby d3_165) rfl (by rw [e_15]; exact ⟨(own_b2i_t (by have := own_c4 hc_25 (by decide : (191 : Int32).toInt = 191); have := own_c6 hc_14 (by decide : (96 : Int32).toInt = 96); have := own_c5 hc_26 (by decide : (215 : Int32).toInt = 215); exact own_gap_t (by omega))), N_15, rfl⟩) (by decide) (by decide)
              · refine Go.st (fun _ => XS.icmpNo X_15.here hx rfl (hb hby d3_39) rfl (feq hc_26).1) ?_
                show Go p e below s _ _ _ T_15 (mkF m 42 #[.val (.int k)] [])
                refine Go.st (fun _ => XS.iloadN X_15.here hx rfl (hb hby d3_42) rfl) ?_
                show Go p e below s _ _ _ T_15 (mkF m 43 #[.val (.int k)] [(.int k)])
                refine Go.st (fun _ => XS.sipush X_15.here hx rfl (hb hby d3_43)) ?_
                show Go p e below s _ _ _ T_15 (mkF m 46 #[.val (.int k)] [(.int (247 : Int32)), (.int k)])
                by_cases hc_27 : k = (247 : Int32)
                · refine Go.st (fun _ => XS.icmpYes X_15.here hx rfl (pc0 := 46) (pc' := 160) rfl (hb hby d3_46) rfl (teq hc_27).1 (by decide) (by decide)) ?_
                  show Go p e below s _ _ _ T_15 (mkF m 160 #[.val (.int k)] [])
                  refine Go.st (fun _ => XS.iconst X_15.here hx rfl (hb hby d3_160)) ?_
                  show Go p e below s _ _ _ T_15 (mkF m 161 #[.val (.int k)] [(.int (1 : Int32))])
                  refine Go.st (fun _ => XS.goto X_15.here hx rfl (pc0 := 161) (pc' := 165) rfl (hb hby d3_161) (by decide) (by decide)) ?_
                  show Go p e below s _ _ _ T_15 (mkF m 165 #[.val (.int k)] [(.int (1 : Int32))])
                  exact Go.retZ X_15 hx hlk Bd.returns (hb hby d3_165) rfl (by rw [e_15]; exact ⟨(own_b2i_t (by have := own_c4 hc_25 (by decide : (191 : Int32).toInt = 191); have := own_c6 hc_14 (by decide : (96 : Int32).toInt = 96); have := own_c6 hc_26 (by decide : (215 : Int32).toInt = 215); have := own_c5 hc_27 (by decide : (247 : Int32).toInt = 247); exact own_gap_t (by omega))), N_15, rfl⟩) (by decide) (by decide)
                · refine Go.st (fun _ => XS.icmpNo X_15.here hx rfl (hb hby d3_46) rfl (feq hc_27).1) ?_
                  show Go p e below s _ _ _ T_15 (mkF m 49 #[.val (.int k)] [])
                  refine Go.st (fun _ => XS.iloadN X_15.here hx rfl (hb hby d3_49) rfl) ?_
                  show Go p e below s _ _ _ T_15 (mkF m 50 #[.val (.int k)] [(.int k)])
                  refine Go.st (fun _ => XS.sipush X_15.here hx rfl (hb hby d3_50)) ?_
                  show Go p e below s _ _ _ T_15 (mkF m 53 #[.val (.int k)] [(.int (768 : Int32)), (.int k)])
                  refine Go.st (fun _ => XS.sipush X_15.here hx rfl (hb hby d3_53)) ?_
                  show Go p e below s _ _ _ T_15 (mkF m 56 #[.val (.int k)] [(.int (879 : Int32)), (.int (768 : Int32)), (.int k)])
                  obtain ⟨_, _, ⟨T_28, L_28, kc_28, nc_28⟩, -, X_28, ⟨Lc_28, hQ_28, l_28, y_28, z_28⟩, st_28⟩ := Jvm.LawKit.callS X_15 hx (y := (⟨"com/example/moat/moat/xpath/NamesIsNameStartPinLaw", "in", "(III)Z"⟩ : MethodName)) hown (mvT hZ (hw _ (List.mem_of_getElem? (i := 27) rfl))) (mvT hZ (hw _ (List.mem_of_getElem? (i := 28) rfl))) (mvT hZ (hw _ (List.mem_of_getElem? (i := 22) rfl))) (mvT hZ (hw _ (List.mem_of_getElem? (i := 29) rfl))) (by decide) (backOf (W := 0) (rm4 l Z a0 hw [] k (768 : Int32) (879 : Int32) h0 n0 Z0 ) hZ (hw _ (List.mem_of_getElem? (i := 29) rfl)) (hw _ (List.mem_of_getElem? (i := 22) rfl)) (by decide) (by decide)) (g := (mkF m 56 #[.val (.int k)] [(.int (879 : Int32)), (.int (768 : Int32)), (.int k)])) rfl (by rw [hml]; rfl) (argsL := [(.int k), (.int (768 : Int32)), (.int (879 : Int32))]) (rest := []) (lenOf pd_0 rfl) rfl (by show 2 * 0 + _ ≤ _; exact Nat.le_of_eq rfl) (hb hby d3_56) (fun _ _ => ⟨rfl, e_15, (by decide : 0 + 0 ≤ _), (by decide : 0 + 0 ≤ _)⟩)
                  dsimp only [Pt.U, Pt.locs, Pt.cells, Pt.slots] at X_28 l_28 y_28 z_28 st_28 hQ_28
                  obtain rfl : kc_28 = 0 := y_28
                  obtain rfl : nc_28 = 0 := z_28
                  obtain ⟨h_28, e_28⟩ : ∃ hh, T_28.heap = hh := ⟨_, rfl⟩
                  rw [e_28] at hQ_28
                  obtain ⟨rfl, N_28q, sm_28⟩ := hQ_28
                  have N_28 : Fr n0 L_28 := by rw [l_28]; exact Fr.app N_15 N_28q
                  refine Go.st st_28 ?_
                  rw [sm_28] at e_28
                  show Go p e below s _ _ _ T_28 (mkF m 59 #[.val (.int k)] [(.int (b2i (¬ (k < (768 : Int32)) ∧ ¬ ((879 : Int32) < k))))])
                  by_cases hc_29 : k < (768 : Int32)
                  · rw [show (b2i (¬ (k < (768 : Int32)) ∧ ¬ ((879 : Int32) < k))) = (0 : Int32) from b2i_neg (fun q => q.1 hc_29)]
                    show Go p e below s _ _ _ T_28 (mkF m 59 #[.val (.int k)] [(.int (0 : Int32))])
                    refine Go.st (fun _ => XS.ifNo X_28.here hx rfl (hb hby d3_59) rfl ((if0 _ _).trans (teq (by decide : (0 : Int32) = (0 : Int32))).2)) ?_
                    show Go p e below s _ _ _ T_28 (mkF m 62 #[.val (.int k)] [])
                    refine Go.st (fun _ => XS.iloadN X_28.here hx rfl (hb hby d3_62) rfl) ?_
                    show Go p e below s _ _ _ T_28 (mkF m 63 #[.val (.int k)] [(.int k)])
                    refine Go.st (fun _ => XS.sipush X_28.here hx rfl (hb hby d3_63)) ?_
                    show Go p e below s _ _ _ T_28 (mkF m 66 #[.val (.int k)] [(.int (894 : Int32)), (.int k)])
                    refine Go.st (fun _ => XS.icmpNo X_28.here hx rfl (hb hby d3_66) rfl (feq (own_k1 hc_29 (by decide) : ¬ (k = (894 : Int32)))).1) ?_
                    show Go p e below s _ _ _ T_28 (mkF m 69 #[.val (.int k)] [])
                    refine Go.st (fun _ => XS.iloadN X_28.here hx rfl (hb hby d3_69) rfl) ?_
                    show Go p e below s _ _ _ T_28 (mkF m 70 #[.val (.int k)] [(.int k)])
                    refine Go.st (fun _ => XS.sipush X_28.here hx rfl (hb hby d3_70)) ?_
                    show Go p e below s _ _ _ T_28 (mkF m 73 #[.val (.int k)] [(.int (8192 : Int32)), (.int k)])
                    refine Go.st (fun _ => XS.sipush X_28.here hx rfl (hb hby d3_73)) ?_
                    show Go p e below s _ _ _ T_28 (mkF m 76 #[.val (.int k)] [(.int (8203 : Int32)), (.int (8192 : Int32)), (.int k)])
                    obtain ⟨_, _, ⟨T_30, L_30, kc_30, nc_30⟩, -, X_30, ⟨Lc_30, hQ_30, l_30, y_30, z_30⟩, st_30⟩ := Jvm.LawKit.callS X_28 hx (y := (⟨"com/example/moat/moat/xpath/NamesIsNameStartPinLaw", "in", "(III)Z"⟩ : MethodName)) hown (mvT hZ (hw _ (List.mem_of_getElem? (i := 27) rfl))) (mvT hZ (hw _ (List.mem_of_getElem? (i := 28) rfl))) (mvT hZ (hw _ (List.mem_of_getElem? (i := 22) rfl))) (mvT hZ (hw _ (List.mem_of_getElem? (i := 29) rfl))) (by decide) (backOf (W := 0) (rm4 l Z a0 hw [] k (8192 : Int32) (8203 : Int32) h0 n0 Z0 ) hZ (hw _ (List.mem_of_getElem? (i := 29) rfl)) (hw _ (List.mem_of_getElem? (i := 22) rfl)) (by decide) (by decide)) (g := (mkF m 76 #[.val (.int k)] [(.int (8203 : Int32)), (.int (8192 : Int32)), (.int k)])) rfl (by rw [hml]; rfl) (argsL := [(.int k), (.int (8192 : Int32)), (.int (8203 : Int32))]) (rest := []) (lenOf pd_0 rfl) rfl (by show 2 * 0 + _ ≤ _; exact Nat.le_of_eq rfl) (hb hby d3_76) (fun _ _ => ⟨rfl, e_28, (by decide : 0 + 0 ≤ _), (by decide : 0 + 0 ≤ _)⟩)
                    dsimp only [Pt.U, Pt.locs, Pt.cells, Pt.slots] at X_30 l_30 y_30 z_30 st_30 hQ_30
                    obtain rfl : kc_30 = 0 := y_30
                    obtain rfl : nc_30 = 0 := z_30
                    obtain ⟨h_30, e_30⟩ : ∃ hh, T_30.heap = hh := ⟨_, rfl⟩
                    rw [e_30] at hQ_30
                    obtain ⟨rfl, N_30q, sm_30⟩ := hQ_30
                    have N_30 : Fr n0 L_30 := by rw [l_30]; exact Fr.app N_28 N_30q
                    refine Go.st st_30 ?_
                    rw [sm_30] at e_30
                    show Go p e below s _ _ _ T_30 (mkF m 79 #[.val (.int k)] [(.int (b2i (¬ (k < (8192 : Int32)) ∧ ¬ ((8203 : Int32) < k))))])
                    rw [show (b2i (¬ (k < (8192 : Int32)) ∧ ¬ ((8203 : Int32) < k))) = (0 : Int32) from b2i_neg (fun q => q.1 (own_i1 hc_29 (by decide) : k < (8192 : Int32)))]
                    show Go p e below s _ _ _ T_30 (mkF m 79 #[.val (.int k)] [(.int (0 : Int32))])
                    refine Go.st (fun _ => XS.ifNo X_30.here hx rfl (hb hby d3_79) rfl ((if0 _ _).trans (teq (by decide : (0 : Int32) = (0 : Int32))).2)) ?_
                    show Go p e below s _ _ _ T_30 (mkF m 82 #[.val (.int k)] [])
                    refine Go.st (fun _ => XS.iloadN X_30.here hx rfl (hb hby d3_82) rfl) ?_
                    show Go p e below s _ _ _ T_30 (mkF m 83 #[.val (.int k)] [(.int k)])
                    refine Go.st (fun _ => XS.sipush X_30.here hx rfl (hb hby d3_83)) ?_
                    show Go p e below s _ _ _ T_30 (mkF m 86 #[.val (.int k)] [(.int (8206 : Int32)), (.int k)])
                    refine Go.st (fun _ => XS.sipush X_30.here hx rfl (hb hby d3_86)) ?_
                    show Go p e below s _ _ _ T_30 (mkF m 89 #[.val (.int k)] [(.int (8303 : Int32)), (.int (8206 : Int32)), (.int k)])
                    obtain ⟨_, _, ⟨T_31, L_31, kc_31, nc_31⟩, -, X_31, ⟨Lc_31, hQ_31, l_31, y_31, z_31⟩, st_31⟩ := Jvm.LawKit.callS X_30 hx (y := (⟨"com/example/moat/moat/xpath/NamesIsNameStartPinLaw", "in", "(III)Z"⟩ : MethodName)) hown (mvT hZ (hw _ (List.mem_of_getElem? (i := 27) rfl))) (mvT hZ (hw _ (List.mem_of_getElem? (i := 28) rfl))) (mvT hZ (hw _ (List.mem_of_getElem? (i := 22) rfl))) (mvT hZ (hw _ (List.mem_of_getElem? (i := 29) rfl))) (by decide) (backOf (W := 0) (rm4 l Z a0 hw [] k (8206 : Int32) (8303 : Int32) h0 n0 Z0 ) hZ (hw _ (List.mem_of_getElem? (i := 29) rfl)) (hw _ (List.mem_of_getElem? (i := 22) rfl)) (by decide) (by decide)) (g := (mkF m 89 #[.val (.int k)] [(.int (8303 : Int32)), (.int (8206 : Int32)), (.int k)])) rfl (by rw [hml]; rfl) (argsL := [(.int k), (.int (8206 : Int32)), (.int (8303 : Int32))]) (rest := []) (lenOf pd_0 rfl) rfl (by show 2 * 0 + _ ≤ _; exact Nat.le_of_eq rfl) (hb hby d3_89) (fun _ _ => ⟨rfl, e_30, (by decide : 0 + 0 ≤ _), (by decide : 0 + 0 ≤ _)⟩)
                    dsimp only [Pt.U, Pt.locs, Pt.cells, Pt.slots] at X_31 l_31 y_31 z_31 st_31 hQ_31
                    obtain rfl : kc_31 = 0 := y_31
                    obtain rfl : nc_31 = 0 := z_31
                    obtain ⟨h_31, e_31⟩ : ∃ hh, T_31.heap = hh := ⟨_, rfl⟩
                    rw [e_31] at hQ_31
                    obtain ⟨rfl, N_31q, sm_31⟩ := hQ_31
                    have N_31 : Fr n0 L_31 := by rw [l_31]; exact Fr.app N_30 N_31q
                    refine Go.st st_31 ?_
                    rw [sm_31] at e_31
                    show Go p e below s _ _ _ T_31 (mkF m 92 #[.val (.int k)] [(.int (b2i (¬ (k < (8206 : Int32)) ∧ ¬ ((8303 : Int32) < k))))])
                    rw [show (b2i (¬ (k < (8206 : Int32)) ∧ ¬ ((8303 : Int32) < k))) = (0 : Int32) from b2i_neg (fun q => q.1 (own_i1 hc_29 (by decide) : k < (8206 : Int32)))]
                    show Go p e below s _ _ _ T_31 (mkF m 92 #[.val (.int k)] [(.int (0 : Int32))])
                    refine Go.st (fun _ => XS.ifNo X_31.here hx rfl (hb hby d3_92) rfl ((if0 _ _).trans (teq (by decide : (0 : Int32) = (0 : Int32))).2)) ?_
                    show Go p e below s _ _ _ T_31 (mkF m 95 #[.val (.int k)] [])
                    refine Go.st (fun _ => XS.iloadN X_31.here hx rfl (hb hby d3_95) rfl) ?_
                    show Go p e below s _ _ _ T_31 (mkF m 96 #[.val (.int k)] [(.int k)])
                    refine Go.st (fun _ => XS.sipush X_31.here hx rfl (hb hby d3_96)) ?_
                    show Go p e below s _ _ _ T_31 (mkF m 99 #[.val (.int k)] [(.int (8592 : Int32)), (.int k)])
                    refine Go.st (fun _ => XS.sipush X_31.here hx rfl (hb hby d3_99)) ?_
                    show Go p e below s _ _ _ T_31 (mkF m 102 #[.val (.int k)] [(.int (11263 : Int32)), (.int (8592 : Int32)), (.int k)])
                    obtain ⟨_, _, ⟨T_32, L_32, kc_32, nc_32⟩, -, X_32, ⟨Lc_32, hQ_32, l_32, y_32, z_32⟩, st_32⟩ := Jvm.LawKit.callS X_31 hx (y := (⟨"com/example/moat/moat/xpath/NamesIsNameStartPinLaw", "in", "(III)Z"⟩ : MethodName)) hown (mvT hZ (hw _ (List.mem_of_getElem? (i := 27) rfl))) (mvT hZ (hw _ (List.mem_of_getElem? (i := 28) rfl))) (mvT hZ (hw _ (List.mem_of_getElem? (i := 22) rfl))) (mvT hZ (hw _ (List.mem_of_getElem? (i := 29) rfl))) (by decide) (backOf (W := 0) (rm4 l Z a0 hw [] k (8592 : Int32) (11263 : Int32) h0 n0 Z0 ) hZ (hw _ (List.mem_of_getElem? (i := 29) rfl)) (hw _ (List.mem_of_getElem? (i := 22) rfl)) (by decide) (by decide)) (g := (mkF m 102 #[.val (.int k)] [(.int (11263 : Int32)), (.int (8592 : Int32)), (.int k)])) rfl (by rw [hml]; rfl) (argsL := [(.int k), (.int (8592 : Int32)), (.int (11263 : Int32))]) (rest := []) (lenOf pd_0 rfl) rfl (by show 2 * 0 + _ ≤ _; exact Nat.le_of_eq rfl) (hb hby d3_102) (fun _ _ => ⟨rfl, e_31, (by decide : 0 + 0 ≤ _), (by decide : 0 + 0 ≤ _)⟩)
                    dsimp only [Pt.U, Pt.locs, Pt.cells, Pt.slots] at X_32 l_32 y_32 z_32 st_32 hQ_32
                    obtain rfl : kc_32 = 0 := y_32
                    obtain rfl : nc_32 = 0 := z_32
                    obtain ⟨h_32, e_32⟩ : ∃ hh, T_32.heap = hh := ⟨_, rfl⟩
                    rw [e_32] at hQ_32
                    obtain ⟨rfl, N_32q, sm_32⟩ := hQ_32
                    have N_32 : Fr n0 L_32 := by rw [l_32]; exact Fr.app N_31 N_32q
                    refine Go.st st_32 ?_
                    rw [sm_32] at e_32
                    show Go p e below s _ _ _ T_32 (mkF m 105 #[.val (.int k)] [(.int (b2i (¬ (k < (8592 : Int32)) ∧ ¬ ((11263 : Int32) < k))))])
                    rw [show (b2i (¬ (k < (8592 : Int32)) ∧ ¬ ((11263 : Int32) < k))) = (0 : Int32) from b2i_neg (fun q => q.1 (own_i1 hc_29 (by decide) : k < (8592 : Int32)))]
                    show Go p e below s _ _ _ T_32 (mkF m 105 #[.val (.int k)] [(.int (0 : Int32))])
                    refine Go.st (fun _ => XS.ifNo X_32.here hx rfl (hb hby d3_105) rfl ((if0 _ _).trans (teq (by decide : (0 : Int32) = (0 : Int32))).2)) ?_
                    show Go p e below s _ _ _ T_32 (mkF m 108 #[.val (.int k)] [])
                    refine Go.st (fun _ => XS.iloadN X_32.here hx rfl (hb hby d3_108) rfl) ?_
                    show Go p e below s _ _ _ T_32 (mkF m 109 #[.val (.int k)] [(.int k)])
                    refine Go.st (fun _ => XS.sipush X_32.here hx rfl (hb hby d3_109)) ?_
                    show Go p e below s _ _ _ T_32 (mkF m 112 #[.val (.int k)] [(.int (12272 : Int32)), (.int k)])
                    refine Go.st (fun _ => XS.sipush X_32.here hx rfl (hb hby d3_112)) ?_
                    show Go p e below s _ _ _ T_32 (mkF m 115 #[.val (.int k)] [(.int (12288 : Int32)), (.int (12272 : Int32)), (.int k)])
                    obtain ⟨_, _, ⟨T_33, L_33, kc_33, nc_33⟩, -, X_33, ⟨Lc_33, hQ_33, l_33, y_33, z_33⟩, st_33⟩ := Jvm.LawKit.callS X_32 hx (y := (⟨"com/example/moat/moat/xpath/NamesIsNameStartPinLaw", "in", "(III)Z"⟩ : MethodName)) hown (mvT hZ (hw _ (List.mem_of_getElem? (i := 27) rfl))) (mvT hZ (hw _ (List.mem_of_getElem? (i := 28) rfl))) (mvT hZ (hw _ (List.mem_of_getElem? (i := 22) rfl))) (mvT hZ (hw _ (List.mem_of_getElem? (i := 29) rfl))) (by decide) (backOf (W := 0) (rm4 l Z a0 hw [] k (12272 : Int32) (12288 : Int32) h0 n0 Z0 ) hZ (hw _ (List.mem_of_getElem? (i := 29) rfl)) (hw _ (List.mem_of_getElem? (i := 22) rfl)) (by decide) (by decide)) (g := (mkF m 115 #[.val (.int k)] [(.int (12288 : Int32)), (.int (12272 : Int32)), (.int k)])) rfl (by rw [hml]; rfl) (argsL := [(.int k), (.int (12272 : Int32)), (.int (12288 : Int32))]) (rest := []) (lenOf pd_0 rfl) rfl (by show 2 * 0 + _ ≤ _; exact Nat.le_of_eq rfl) (hb hby d3_115) (fun _ _ => ⟨rfl, e_32, (by decide : 0 + 0 ≤ _), (by decide : 0 + 0 ≤ _)⟩)
                    dsimp only [Pt.U, Pt.locs, Pt.cells, Pt.slots] at X_33 l_33 y_33 z_33 st_33 hQ_33
                    obtain rfl : kc_33 = 0 := y_33
                    obtain rfl : nc_33 = 0 := z_33
                    obtain ⟨h_33, e_33⟩ : ∃ hh, T_33.heap = hh := ⟨_, rfl⟩
                    rw [e_33] at hQ_33
                    obtain ⟨rfl, N_33q, sm_33⟩ := hQ_33
                    have N_33 : Fr n0 L_33 := by rw [l_33]; exact Fr.app N_32 N_33q
                    refine Go.st st_33 ?_
                    rw [sm_33] at e_33
                    show Go p e below s _ _ _ T_33 (mkF m 118 #[.val (.int k)] [(.int (b2i (¬ (k < (12272 : Int32)) ∧ ¬ ((12288 : Int32) < k))))])
                    rw [show (b2i (¬ (k < (12272 : Int32)) ∧ ¬ ((12288 : Int32) < k))) = (0 : Int32) from b2i_neg (fun q => q.1 (own_i1 hc_29 (by decide) : k < (12272 : Int32)))]
                    show Go p e below s _ _ _ T_33 (mkF m 118 #[.val (.int k)] [(.int (0 : Int32))])
                    refine Go.st (fun _ => XS.ifNo X_33.here hx rfl (hb hby d3_118) rfl ((if0 _ _).trans (teq (by decide : (0 : Int32) = (0 : Int32))).2)) ?_
                    show Go p e below s _ _ _ T_33 (mkF m 121 #[.val (.int k)] [])
                    refine Go.st (fun _ => XS.iloadN X_33.here hx rfl (hb hby d3_121) rfl) ?_
                    show Go p e below s _ _ _ T_33 (mkF m 122 #[.val (.int k)] [(.int k)])
                    refine Go.st (fun tG => X_33.ldcInt hx hown (mvT hZ (hw _ (List.mem_of_getElem? (i := 30) rfl))) (g := (mkF m 122 #[.val (.int k)] [(.int k)])) rfl (hb hby d3_122) tG) ?_
                    show Go p e below s _ _ _ T_33 (mkF m 124 #[.val (.int k)] [(.int (56192 : Int32)), (.int k)])
                    refine Go.st (fun tG => X_33.ldcInt hx hown (mvT hZ (hw _ (List.mem_of_getElem? (i := 31) rfl))) (g := (mkF m 124 #[.val (.int k)] [(.int (56192 : Int32)), (.int k)])) rfl (hb hby d3_124) tG) ?_
                    show Go p e below s _ _ _ T_33 (mkF m 126 #[.val (.int k)] [(.int (63743 : Int32)), (.int (56192 : Int32)), (.int k)])
                    obtain ⟨_, _, ⟨T_34, L_34, kc_34, nc_34⟩, -, X_34, ⟨Lc_34, hQ_34, l_34, y_34, z_34⟩, st_34⟩ := Jvm.LawKit.callS X_33 hx (y := (⟨"com/example/moat/moat/xpath/NamesIsNameStartPinLaw", "in", "(III)Z"⟩ : MethodName)) hown (mvT hZ (hw _ (List.mem_of_getElem? (i := 27) rfl))) (mvT hZ (hw _ (List.mem_of_getElem? (i := 28) rfl))) (mvT hZ (hw _ (List.mem_of_getElem? (i := 22) rfl))) (mvT hZ (hw _ (List.mem_of_getElem? (i := 29) rfl))) (by decide) (backOf (W := 0) (rm4 l Z a0 hw [] k (56192 : Int32) (63743 : Int32) h0 n0 Z0 ) hZ (hw _ (List.mem_of_getElem? (i := 29) rfl)) (hw _ (List.mem_of_getElem? (i := 22) rfl)) (by decide) (by decide)) (g := (mkF m 126 #[.val (.int k)] [(.int (63743 : Int32)), (.int (56192 : Int32)), (.int k)])) rfl (by rw [hml]; rfl) (argsL := [(.int k), (.int (56192 : Int32)), (.int (63743 : Int32))]) (rest := []) (lenOf pd_0 rfl) rfl (by show 2 * 0 + _ ≤ _; exact Nat.le_of_eq rfl) (hb hby d3_126) (fun _ _ => ⟨rfl, e_33, (by decide : 0 + 0 ≤ _), (by decide : 0 + 0 ≤ _)⟩)
                    dsimp only [Pt.U, Pt.locs, Pt.cells, Pt.slots] at X_34 l_34 y_34 z_34 st_34 hQ_34
                    obtain rfl : kc_34 = 0 := y_34
                    obtain rfl : nc_34 = 0 := z_34
                    obtain ⟨h_34, e_34⟩ : ∃ hh, T_34.heap = hh := ⟨_, rfl⟩
                    rw [e_34] at hQ_34
                    obtain ⟨rfl, N_34q, sm_34⟩ := hQ_34
                    have N_34 : Fr n0 L_34 := by rw [l_34]; exact Fr.app N_33 N_34q
                    refine Go.st st_34 ?_
                    rw [sm_34] at e_34
                    show Go p e below s _ _ _ T_34 (mkF m 129 #[.val (.int k)] [(.int (b2i (¬ (k < (56192 : Int32)) ∧ ¬ ((63743 : Int32) < k))))])
                    rw [show (b2i (¬ (k < (56192 : Int32)) ∧ ¬ ((63743 : Int32) < k))) = (0 : Int32) from b2i_neg (fun q => q.1 (own_i1 hc_29 (by decide) : k < (56192 : Int32)))]
                    show Go p e below s _ _ _ T_34 (mkF m 129 #[.val (.int k)] [(.int (0 : Int32))])
                    refine Go.st (fun _ => XS.ifNo X_34.here hx rfl (hb hby d3_129) rfl ((if0 _ _).trans (teq (by decide : (0 : Int32) = (0 : Int32))).2)) ?_
                    show Go p e below s _ _ _ T_34 (mkF m 132 #[.val (.int k)] [])
                    refine Go.st (fun _ => XS.iloadN X_34.here hx rfl (hb hby d3_132) rfl) ?_
                    show Go p e below s _ _ _ T_34 (mkF m 133 #[.val (.int k)] [(.int k)])
                    refine Go.st (fun tG => X_34.ldcInt hx hown (mvT hZ (hw _ (List.mem_of_getElem? (i := 32) rfl))) (g := (mkF m 133 #[.val (.int k)] [(.int k)])) rfl (hb hby d3_133) tG) ?_
                    show Go p e below s _ _ _ T_34 (mkF m 135 #[.val (.int k)] [(.int (64976 : Int32)), (.int k)])
                    refine Go.st (fun tG => X_34.ldcInt hx hown (mvT hZ (hw _ (List.mem_of_getElem? (i := 33) rfl))) (g := (mkF m 135 #[.val (.int k)] [(.int (64976 : Int32)), (.int k)])) rfl (hb hby d3_135) tG) ?_
                    show Go p e below s _ _ _ T_34 (mkF m 137 #[.val (.int k)] [(.int (65007 : Int32)), (.int (64976 : Int32)), (.int k)])
                    obtain ⟨_, _, ⟨T_35, L_35, kc_35, nc_35⟩, -, X_35, ⟨Lc_35, hQ_35, l_35, y_35, z_35⟩, st_35⟩ := Jvm.LawKit.callS X_34 hx (y := (⟨"com/example/moat/moat/xpath/NamesIsNameStartPinLaw", "in", "(III)Z"⟩ : MethodName)) hown (mvT hZ (hw _ (List.mem_of_getElem? (i := 27) rfl))) (mvT hZ (hw _ (List.mem_of_getElem? (i := 28) rfl))) (mvT hZ (hw _ (List.mem_of_getElem? (i := 22) rfl))) (mvT hZ (hw _ (List.mem_of_getElem? (i := 29) rfl))) (by decide) (backOf (W := 0) (rm4 l Z a0 hw [] k (64976 : Int32) (65007 : Int32) h0 n0 Z0 ) hZ (hw _ (List.mem_of_getElem? (i := 29) rfl)) (hw _ (List.mem_of_getElem? (i := 22) rfl)) (by decide) (by decide)) (g := (mkF m 137 #[.val (.int k)] [(.int (65007 : Int32)), (.int (64976 : Int32)), (.int k)])) rfl (by rw [hml]; rfl) (argsL := [(.int k), (.int (64976 : Int32)), (.int (65007 : Int32))]) (rest := []) (lenOf pd_0 rfl) rfl (by show 2 * 0 + _ ≤ _; exact Nat.le_of_eq rfl) (hb hby d3_137) (fun _ _ => ⟨rfl, e_34, (by decide : 0 + 0 ≤ _), (by decide : 0 + 0 ≤ _)⟩)
                    dsimp only [Pt.U, Pt.locs, Pt.cells, Pt.slots] at X_35 l_35 y_35 z_35 st_35 hQ_35
                    obtain rfl : kc_35 = 0 := y_35
                    obtain rfl : nc_35 = 0 := z_35
                    obtain ⟨h_35, e_35⟩ : ∃ hh, T_35.heap = hh := ⟨_, rfl⟩
                    rw [e_35] at hQ_35
                    obtain ⟨rfl, N_35q, sm_35⟩ := hQ_35
                    have N_35 : Fr n0 L_35 := by rw [l_35]; exact Fr.app N_34 N_35q
                    refine Go.st st_35 ?_
                    rw [sm_35] at e_35
                    show Go p e below s _ _ _ T_35 (mkF m 140 #[.val (.int k)] [(.int (b2i (¬ (k < (64976 : Int32)) ∧ ¬ ((65007 : Int32) < k))))])
                    rw [show (b2i (¬ (k < (64976 : Int32)) ∧ ¬ ((65007 : Int32) < k))) = (0 : Int32) from b2i_neg (fun q => q.1 (own_i1 hc_29 (by decide) : k < (64976 : Int32)))]
                    show Go p e below s _ _ _ T_35 (mkF m 140 #[.val (.int k)] [(.int (0 : Int32))])
                    refine Go.st (fun _ => XS.ifNo X_35.here hx rfl (hb hby d3_140) rfl ((if0 _ _).trans (teq (by decide : (0 : Int32) = (0 : Int32))).2)) ?_
                    show Go p e below s _ _ _ T_35 (mkF m 143 #[.val (.int k)] [])
                    refine Go.st (fun _ => XS.iloadN X_35.here hx rfl (hb hby d3_143) rfl) ?_
                    show Go p e below s _ _ _ T_35 (mkF m 144 #[.val (.int k)] [(.int k)])
                    refine Go.st (fun tG => X_35.ldcInt hx hown (mvT hZ (hw _ (List.mem_of_getElem? (i := 34) rfl))) (g := (mkF m 144 #[.val (.int k)] [(.int k)])) rfl (hb hby d3_144) tG) ?_
                    show Go p e below s _ _ _ T_35 (mkF m 146 #[.val (.int k)] [(.int (65534 : Int32)), (.int k)])
                    refine Go.st (fun tG => X_35.ldcInt hx hown (mvT hZ (hw _ (List.mem_of_getElem? (i := 35) rfl))) (g := (mkF m 146 #[.val (.int k)] [(.int (65534 : Int32)), (.int k)])) rfl (hb hby d3_146) tG) ?_
                    show Go p e below s _ _ _ T_35 (mkF m 148 #[.val (.int k)] [(.int (65535 : Int32)), (.int (65534 : Int32)), (.int k)])
                    obtain ⟨_, _, ⟨T_36, L_36, kc_36, nc_36⟩, -, X_36, ⟨Lc_36, hQ_36, l_36, y_36, z_36⟩, st_36⟩ := Jvm.LawKit.callS X_35 hx (y := (⟨"com/example/moat/moat/xpath/NamesIsNameStartPinLaw", "in", "(III)Z"⟩ : MethodName)) hown (mvT hZ (hw _ (List.mem_of_getElem? (i := 27) rfl))) (mvT hZ (hw _ (List.mem_of_getElem? (i := 28) rfl))) (mvT hZ (hw _ (List.mem_of_getElem? (i := 22) rfl))) (mvT hZ (hw _ (List.mem_of_getElem? (i := 29) rfl))) (by decide) (backOf (W := 0) (rm4 l Z a0 hw [] k (65534 : Int32) (65535 : Int32) h0 n0 Z0 ) hZ (hw _ (List.mem_of_getElem? (i := 29) rfl)) (hw _ (List.mem_of_getElem? (i := 22) rfl)) (by decide) (by decide)) (g := (mkF m 148 #[.val (.int k)] [(.int (65535 : Int32)), (.int (65534 : Int32)), (.int k)])) rfl (by rw [hml]; rfl) (argsL := [(.int k), (.int (65534 : Int32)), (.int (65535 : Int32))]) (rest := []) (lenOf pd_0 rfl) rfl (by show 2 * 0 + _ ≤ _; exact Nat.le_of_eq rfl) (hb hby d3_148) (fun _ _ => ⟨rfl, e_35, (by decide : 0 + 0 ≤ _), (by decide : 0 + 0 ≤ _)⟩)
                    dsimp only [Pt.U, Pt.locs, Pt.cells, Pt.slots] at X_36 l_36 y_36 z_36 st_36 hQ_36
                    obtain rfl : kc_36 = 0 := y_36
                    obtain rfl : nc_36 = 0 := z_36
                    obtain ⟨h_36, e_36⟩ : ∃ hh, T_36.heap = hh := ⟨_, rfl⟩
                    rw [e_36] at hQ_36
                    obtain ⟨rfl, N_36q, sm_36⟩ := hQ_36
                    have N_36 : Fr n0 L_36 := by rw [l_36]; exact Fr.app N_35 N_36q
                    refine Go.st st_36 ?_
                    rw [sm_36] at e_36
                    show Go p e below s _ _ _ T_36 (mkF m 151 #[.val (.int k)] [(.int (b2i (¬ (k < (65534 : Int32)) ∧ ¬ ((65535 : Int32) < k))))])
                    rw [show (b2i (¬ (k < (65534 : Int32)) ∧ ¬ ((65535 : Int32) < k))) = (0 : Int32) from b2i_neg (fun q => q.1 (own_i1 hc_29 (by decide) : k < (65534 : Int32)))]
                    show Go p e below s _ _ _ T_36 (mkF m 151 #[.val (.int k)] [(.int (0 : Int32))])
                    refine Go.st (fun _ => XS.ifNo X_36.here hx rfl (hb hby d3_151) rfl ((if0 _ _).trans (teq (by decide : (0 : Int32) = (0 : Int32))).2)) ?_
                    show Go p e below s _ _ _ T_36 (mkF m 154 #[.val (.int k)] [])
                    refine Go.st (fun _ => XS.iloadN X_36.here hx rfl (hb hby d3_154) rfl) ?_
                    show Go p e below s _ _ _ T_36 (mkF m 155 #[.val (.int k)] [(.int k)])
                    refine Go.st (fun tG => X_36.ldcInt hx hown (mvT hZ (hw _ (List.mem_of_getElem? (i := 9) rfl))) (g := (mkF m 155 #[.val (.int k)] [(.int k)])) rfl (hb hby d3_155) tG) ?_
                    show Go p e below s _ _ _ T_36 (mkF m 157 #[.val (.int k)] [(.int (983039 : Int32)), (.int k)])
                    refine Go.st (fun _ => XS.icmpYes X_36.here hx rfl (pc0 := 157) (pc' := 164) rfl (hb hby d3_157) rfl (flt (own_j1 hc_29 (by decide) : ¬ ((983039 : Int32) < k))).2.2.2 (by decide) (by decide)) ?_
                    show Go p e below s _ _ _ T_36 (mkF m 164 #[.val (.int k)] [])
                    refine Go.st (fun _ => XS.iconst X_36.here hx rfl (hb hby d3_164)) ?_
                    show Go p e below s _ _ _ T_36 (mkF m 165 #[.val (.int k)] [(.int (0 : Int32))])
                    exact Go.retZ X_36 hx hlk Bd.returns (hb hby d3_165) rfl (by rw [e_36]; exact ⟨(own_b2i_f (by have := own_c4 hc_25 (by decide : (191 : Int32).toInt = 191); have := own_c1 hc_29 (by decide : (768 : Int32).toInt = 768); have := own_c6 hc_14 (by decide : (96 : Int32).toInt = 96); have := own_c6 hc_26 (by decide : (215 : Int32).toInt = 215); have := own_c6 hc_27 (by decide : (247 : Int32).toInt = 247); exact own_gap_f (by omega))), N_36, rfl⟩) (by decide) (by decide)
                  · by_cases hc_37 : (879 : Int32) < k
                    · rw [show (b2i (¬ (k < (768 : Int32)) ∧ ¬ ((879 : Int32) < k))) = (0 : Int32) from b2i_neg (fun q => q.2 hc_37)]
                      show Go p e below s _ _ _ T_28 (mkF m 59 #[.val (.int k)] [(.int (0 : Int32))])
                      refine Go.st (fun _ => XS.ifNo X_28.here hx rfl (hb hby d3_59) rfl ((if0 _ _).trans (teq (by decide : (0 : Int32) = (0 : Int32))).2)) ?_
                      show Go p e below s _ _ _ T_28 (mkF m 62 #[.val (.int k)] [])
                      refine Go.st (fun _ => XS.iloadN X_28.here hx rfl (hb hby d3_62) rfl) ?_
                      show Go p e below s _ _ _ T_28 (mkF m 63 #[.val (.int k)] [(.int k)])
                      refine Go.st (fun _ => XS.sipush X_28.here hx rfl (hb hby d3_63)) ?_
                      show Go p e below s _ _ _ T_28 (mkF m 66 #[.val (.int k)] [(.int (894 : Int32)), (.int k)])
                      by_cases hc_38 : k = (894 : Int32)
                      · refine Go.st (fun _ => XS.icmpYes X_28.here hx rfl (pc0 := 66) (pc' := 160) rfl (hb hby d3_66) rfl (teq hc_38).1 (by decide) (by decide)) ?_
                        show Go p e below s _ _ _ T_28 (mkF m 160 #[.val (.int k)] [])
                        refine Go.st (fun _ => XS.iconst X_28.here hx rfl (hb hby d3_160)) ?_
                        show Go p e below s _ _ _ T_28 (mkF m 161 #[.val (.int k)] [(.int (1 : Int32))])
                        refine Go.st (fun _ => XS.goto X_28.here hx rfl (pc0 := 161) (pc' := 165) rfl (hb hby d3_161) (by decide) (by decide)) ?_
                        show Go p e below s _ _ _ T_28 (mkF m 165 #[.val (.int k)] [(.int (1 : Int32))])
                        exact Go.retZ X_28 hx hlk Bd.returns (hb hby d3_165) rfl (by rw [e_28]; exact ⟨(own_b2i_t (by have := own_c4 hc_37 (by decide : (879 : Int32).toInt = 879); have := own_c6 hc_14 (by decide : (96 : Int32).toInt = 96); have := own_c6 hc_26 (by decide : (215 : Int32).toInt = 215); have := own_c6 hc_27 (by decide : (247 : Int32).toInt = 247); have := own_c5 hc_38 (by decide : (894 : Int32).toInt = 894); exact own_gap_t (by omega))), N_28, rfl⟩) (by decide) (by decide)
                      · refine Go.st (fun _ => XS.icmpNo X_28.here hx rfl (hb hby d3_66) rfl (feq hc_38).1) ?_
                        show Go p e below s _ _ _ T_28 (mkF m 69 #[.val (.int k)] [])
                        refine Go.st (fun _ => XS.iloadN X_28.here hx rfl (hb hby d3_69) rfl) ?_
                        show Go p e below s _ _ _ T_28 (mkF m 70 #[.val (.int k)] [(.int k)])
                        refine Go.st (fun _ => XS.sipush X_28.here hx rfl (hb hby d3_70)) ?_
                        show Go p e below s _ _ _ T_28 (mkF m 73 #[.val (.int k)] [(.int (8192 : Int32)), (.int k)])
                        refine Go.st (fun _ => XS.sipush X_28.here hx rfl (hb hby d3_73)) ?_
                        show Go p e below s _ _ _ T_28 (mkF m 76 #[.val (.int k)] [(.int (8203 : Int32)), (.int (8192 : Int32)), (.int k)])
                        obtain ⟨_, _, ⟨T_39, L_39, kc_39, nc_39⟩, -, X_39, ⟨Lc_39, hQ_39, l_39, y_39, z_39⟩, st_39⟩ := Jvm.LawKit.callS X_28 hx (y := (⟨"com/example/moat/moat/xpath/NamesIsNameStartPinLaw", "in", "(III)Z"⟩ : MethodName)) hown (mvT hZ (hw _ (List.mem_of_getElem? (i := 27) rfl))) (mvT hZ (hw _ (List.mem_of_getElem? (i := 28) rfl))) (mvT hZ (hw _ (List.mem_of_getElem? (i := 22) rfl))) (mvT hZ (hw _ (List.mem_of_getElem? (i := 29) rfl))) (by decide) (backOf (W := 0) (rm4 l Z a0 hw [] k (8192 : Int32) (8203 : Int32) h0 n0 Z0 ) hZ (hw _ (List.mem_of_getElem? (i := 29) rfl)) (hw _ (List.mem_of_getElem? (i := 22) rfl)) (by decide) (by decide)) (g := (mkF m 76 #[.val (.int k)] [(.int (8203 : Int32)), (.int (8192 : Int32)), (.int k)])) rfl (by rw [hml]; rfl) (argsL := [(.int k), (.int (8192 : Int32)), (.int (8203 : Int32))]) (rest := []) (lenOf pd_0 rfl) rfl (by show 2 * 0 + _ ≤ _; exact Nat.le_of_eq rfl) (hb hby d3_76) (fun _ _ => ⟨rfl, e_28, (by decide : 0 + 0 ≤ _), (by decide : 0 + 0 ≤ _)⟩)
                        dsimp only [Pt.U, Pt.locs, Pt.cells, Pt.slots] at X_39 l_39 y_39 z_39 st_39 hQ_39
                        obtain rfl : kc_39 = 0 := y_39
                        obtain rfl : nc_39 = 0 := z_39
                        obtain ⟨h_39, e_39⟩ : ∃ hh, T_39.heap = hh := ⟨_, rfl⟩
                        rw [e_39] at hQ_39
                        obtain ⟨rfl, N_39q, sm_39⟩ := hQ_39
                        have N_39 : Fr n0 L_39 := by rw [l_39]; exact Fr.app N_28 N_39q
                        refine Go.st st_39 ?_
                        rw [sm_39] at e_39
                        show Go p e below s _ _ _ T_39 (mkF m 79 #[.val (.int k)] [(.int (b2i (¬ (k < (8192 : Int32)) ∧ ¬ ((8203 : Int32) < k))))])
                        by_cases hc_40 : k < (8192 : Int32)
                        · rw [show (b2i (¬ (k < (8192 : Int32)) ∧ ¬ ((8203 : Int32) < k))) = (0 : Int32) from b2i_neg (fun q => q.1 hc_40)]
                          show Go p e below s _ _ _ T_39 (mkF m 79 #[.val (.int k)] [(.int (0 : Int32))])
                          refine Go.st (fun _ => XS.ifNo X_39.here hx rfl (hb hby d3_79) rfl ((if0 _ _).trans (teq (by decide : (0 : Int32) = (0 : Int32))).2)) ?_
                          show Go p e below s _ _ _ T_39 (mkF m 82 #[.val (.int k)] [])
                          refine Go.st (fun _ => XS.iloadN X_39.here hx rfl (hb hby d3_82) rfl) ?_
                          show Go p e below s _ _ _ T_39 (mkF m 83 #[.val (.int k)] [(.int k)])
                          refine Go.st (fun _ => XS.sipush X_39.here hx rfl (hb hby d3_83)) ?_
                          show Go p e below s _ _ _ T_39 (mkF m 86 #[.val (.int k)] [(.int (8206 : Int32)), (.int k)])
                          refine Go.st (fun _ => XS.sipush X_39.here hx rfl (hb hby d3_86)) ?_
                          show Go p e below s _ _ _ T_39 (mkF m 89 #[.val (.int k)] [(.int (8303 : Int32)), (.int (8206 : Int32)), (.int k)])
                          obtain ⟨_, _, ⟨T_41, L_41, kc_41, nc_41⟩, -, X_41, ⟨Lc_41, hQ_41, l_41, y_41, z_41⟩, st_41⟩ := Jvm.LawKit.callS X_39 hx (y := (⟨"com/example/moat/moat/xpath/NamesIsNameStartPinLaw", "in", "(III)Z"⟩ : MethodName)) hown (mvT hZ (hw _ (List.mem_of_getElem? (i := 27) rfl))) (mvT hZ (hw _ (List.mem_of_getElem? (i := 28) rfl))) (mvT hZ (hw _ (List.mem_of_getElem? (i := 22) rfl))) (mvT hZ (hw _ (List.mem_of_getElem? (i := 29) rfl))) (by decide) (backOf (W := 0) (rm4 l Z a0 hw [] k (8206 : Int32) (8303 : Int32) h0 n0 Z0 ) hZ (hw _ (List.mem_of_getElem? (i := 29) rfl)) (hw _ (List.mem_of_getElem? (i := 22) rfl)) (by decide) (by decide)) (g := (mkF m 89 #[.val (.int k)] [(.int (8303 : Int32)), (.int (8206 : Int32)), (.int k)])) rfl (by rw [hml]; rfl) (argsL := [(.int k), (.int (8206 : Int32)), (.int (8303 : Int32))]) (rest := []) (lenOf pd_0 rfl) rfl (by show 2 * 0 + _ ≤ _; exact Nat.le_of_eq rfl) (hb hby d3_89) (fun _ _ => ⟨rfl, e_39, (by decide : 0 + 0 ≤ _), (by decide : 0 + 0 ≤ _)⟩)
                          dsimp only [Pt.U, Pt.locs, Pt.cells, Pt.slots] at X_41 l_41 y_41 z_41 st_41 hQ_41
                          obtain rfl : kc_41 = 0 := y_41
                          obtain rfl : nc_41 = 0 := z_41
                          obtain ⟨h_41, e_41⟩ : ∃ hh, T_41.heap = hh := ⟨_, rfl⟩
                          rw [e_41] at hQ_41
                          obtain ⟨rfl, N_41q, sm_41⟩ := hQ_41
                          have N_41 : Fr n0 L_41 := by rw [l_41]; exact Fr.app N_39 N_41q
                          refine Go.st st_41 ?_
                          rw [sm_41] at e_41
                          show Go p e below s _ _ _ T_41 (mkF m 92 #[.val (.int k)] [(.int (b2i (¬ (k < (8206 : Int32)) ∧ ¬ ((8303 : Int32) < k))))])
                          rw [show (b2i (¬ (k < (8206 : Int32)) ∧ ¬ ((8303 : Int32) < k))) = (0 : Int32) from b2i_neg (fun q => q.1 (own_i1 hc_40 (by decide) : k < (8206 : Int32)))]
                          show Go p e below s _ _ _ T_41 (mkF m 92 #[.val (.int k)] [(.int (0 : Int32))])
                          refine Go.st (fun _ => XS.ifNo X_41.here hx rfl (hb hby d3_92) rfl ((if0 _ _).trans (teq (by decide : (0 : Int32) = (0 : Int32))).2)) ?_
                          show Go p e below s _ _ _ T_41 (mkF m 95 #[.val (.int k)] [])
                          refine Go.st (fun _ => XS.iloadN X_41.here hx rfl (hb hby d3_95) rfl) ?_
                          show Go p e below s _ _ _ T_41 (mkF m 96 #[.val (.int k)] [(.int k)])
                          refine Go.st (fun _ => XS.sipush X_41.here hx rfl (hb hby d3_96)) ?_
                          show Go p e below s _ _ _ T_41 (mkF m 99 #[.val (.int k)] [(.int (8592 : Int32)), (.int k)])
                          refine Go.st (fun _ => XS.sipush X_41.here hx rfl (hb hby d3_99)) ?_
                          show Go p e below s _ _ _ T_41 (mkF m 102 #[.val (.int k)] [(.int (11263 : Int32)), (.int (8592 : Int32)), (.int k)])
                          obtain ⟨_, _, ⟨T_42, L_42, kc_42, nc_42⟩, -, X_42, ⟨Lc_42, hQ_42, l_42, y_42, z_42⟩, st_42⟩ := Jvm.LawKit.callS X_41 hx (y := (⟨"com/example/moat/moat/xpath/NamesIsNameStartPinLaw", "in", "(III)Z"⟩ : MethodName)) hown (mvT hZ (hw _ (List.mem_of_getElem? (i := 27) rfl))) (mvT hZ (hw _ (List.mem_of_getElem? (i := 28) rfl))) (mvT hZ (hw _ (List.mem_of_getElem? (i := 22) rfl))) (mvT hZ (hw _ (List.mem_of_getElem? (i := 29) rfl))) (by decide) (backOf (W := 0) (rm4 l Z a0 hw [] k (8592 : Int32) (11263 : Int32) h0 n0 Z0 ) hZ (hw _ (List.mem_of_getElem? (i := 29) rfl)) (hw _ (List.mem_of_getElem? (i := 22) rfl)) (by decide) (by decide)) (g := (mkF m 102 #[.val (.int k)] [(.int (11263 : Int32)), (.int (8592 : Int32)), (.int k)])) rfl (by rw [hml]; rfl) (argsL := [(.int k), (.int (8592 : Int32)), (.int (11263 : Int32))]) (rest := []) (lenOf pd_0 rfl) rfl (by show 2 * 0 + _ ≤ _; exact Nat.le_of_eq rfl) (hb hby d3_102) (fun _ _ => ⟨rfl, e_41, (by decide : 0 + 0 ≤ _), (by decide : 0 + 0 ≤ _)⟩)
                          dsimp only [Pt.U, Pt.locs, Pt.cells, Pt.slots] at X_42 l_42 y_42 z_42 st_42 hQ_42
                          obtain rfl : kc_42 = 0 := y_42
                          obtain rfl : nc_42 = 0 := z_42
                          obtain ⟨h_42, e_42⟩ : ∃ hh, T_42.heap = hh := ⟨_, rfl⟩
                          rw [e_42] at hQ_42
                          obtain ⟨rfl, N_42q, sm_42⟩ := hQ_42
                          have N_42 : Fr n0 L_42 := by rw [l_42]; exact Fr.app N_41 N_42q
                          refine Go.st st_42 ?_
                          rw [sm_42] at e_42
                          show Go p e below s _ _ _ T_42 (mkF m 105 #[.val (.int k)] [(.int (b2i (¬ (k < (8592 : Int32)) ∧ ¬ ((11263 : Int32) < k))))])
                          rw [show (b2i (¬ (k < (8592 : Int32)) ∧ ¬ ((11263 : Int32) < k))) = (0 : Int32) from b2i_neg (fun q => q.1 (own_i1 hc_40 (by decide) : k < (8592 : Int32)))]
                          show Go p e below s _ _ _ T_42 (mkF m 105 #[.val (.int k)] [(.int (0 : Int32))])
                          refine Go.st (fun _ => XS.ifNo X_42.here hx rfl (hb hby d3_105) rfl ((if0 _ _).trans (teq (by decide : (0 : Int32) = (0 : Int32))).2)) ?_
                          show Go p e below s _ _ _ T_42 (mkF m 108 #[.val (.int k)] [])
                          refine Go.st (fun _ => XS.iloadN X_42.here hx rfl (hb hby d3_108) rfl) ?_
                          show Go p e below s _ _ _ T_42 (mkF m 109 #[.val (.int k)] [(.int k)])
                          refine Go.st (fun _ => XS.sipush X_42.here hx rfl (hb hby d3_109)) ?_
                          show Go p e below s _ _ _ T_42 (mkF m 112 #[.val (.int k)] [(.int (12272 : Int32)), (.int k)])
                          refine Go.st (fun _ => XS.sipush X_42.here hx rfl (hb hby d3_112)) ?_
                          show Go p e below s _ _ _ T_42 (mkF m 115 #[.val (.int k)] [(.int (12288 : Int32)), (.int (12272 : Int32)), (.int k)])
                          obtain ⟨_, _, ⟨T_43, L_43, kc_43, nc_43⟩, -, X_43, ⟨Lc_43, hQ_43, l_43, y_43, z_43⟩, st_43⟩ := Jvm.LawKit.callS X_42 hx (y := (⟨"com/example/moat/moat/xpath/NamesIsNameStartPinLaw", "in", "(III)Z"⟩ : MethodName)) hown (mvT hZ (hw _ (List.mem_of_getElem? (i := 27) rfl))) (mvT hZ (hw _ (List.mem_of_getElem? (i := 28) rfl))) (mvT hZ (hw _ (List.mem_of_getElem? (i := 22) rfl))) (mvT hZ (hw _ (List.mem_of_getElem? (i := 29) rfl))) (by decide) (backOf (W := 0) (rm4 l Z a0 hw [] k (12272 : Int32) (12288 : Int32) h0 n0 Z0 ) hZ (hw _ (List.mem_of_getElem? (i := 29) rfl)) (hw _ (List.mem_of_getElem? (i := 22) rfl)) (by decide) (by decide)) (g := (mkF m 115 #[.val (.int k)] [(.int (12288 : Int32)), (.int (12272 : Int32)), (.int k)])) rfl (by rw [hml]; rfl) (argsL := [(.int k), (.int (12272 : Int32)), (.int (12288 : Int32))]) (rest := []) (lenOf pd_0 rfl) rfl (by show 2 * 0 + _ ≤ _; exact Nat.le_of_eq rfl) (hb hby d3_115) (fun _ _ => ⟨rfl, e_42, (by decide : 0 + 0 ≤ _), (by decide : 0 + 0 ≤ _)⟩)
                          dsimp only [Pt.U, Pt.locs, Pt.cells, Pt.slots] at X_43 l_43 y_43 z_43 st_43 hQ_43
                          obtain rfl : kc_43 = 0 := y_43
                          obtain rfl : nc_43 = 0 := z_43
                          obtain ⟨h_43, e_43⟩ : ∃ hh, T_43.heap = hh := ⟨_, rfl⟩
                          rw [e_43] at hQ_43
                          obtain ⟨rfl, N_43q, sm_43⟩ := hQ_43
                          have N_43 : Fr n0 L_43 := by rw [l_43]; exact Fr.app N_42 N_43q
                          refine Go.st st_43 ?_
                          rw [sm_43] at e_43
                          show Go p e below s _ _ _ T_43 (mkF m 118 #[.val (.int k)] [(.int (b2i (¬ (k < (12272 : Int32)) ∧ ¬ ((12288 : Int32) < k))))])
                          rw [show (b2i (¬ (k < (12272 : Int32)) ∧ ¬ ((12288 : Int32) < k))) = (0 : Int32) from b2i_neg (fun q => q.1 (own_i1 hc_40 (by decide) : k < (12272 : Int32)))]
                          show Go p e below s _ _ _ T_43 (mkF m 118 #[.val (.int k)] [(.int (0 : Int32))])
                          refine Go.st (fun _ => XS.ifNo X_43.here hx rfl (hb hby d3_118) rfl ((if0 _ _).trans (teq (by decide : (0 : Int32) = (0 : Int32))).2)) ?_
                          show Go p e below s _ _ _ T_43 (mkF m 121 #[.val (.int k)] [])
                          refine Go.st (fun _ => XS.iloadN X_43.here hx rfl (hb hby d3_121) rfl) ?_
                          show Go p e below s _ _ _ T_43 (mkF m 122 #[.val (.int k)] [(.int k)])
                          refine Go.st (fun tG => X_43.ldcInt hx hown (mvT hZ (hw _ (List.mem_of_getElem? (i := 30) rfl))) (g := (mkF m 122 #[.val (.int k)] [(.int k)])) rfl (hb hby d3_122) tG) ?_
                          show Go p e below s _ _ _ T_43 (mkF m 124 #[.val (.int k)] [(.int (56192 : Int32)), (.int k)])
                          refine Go.st (fun tG => X_43.ldcInt hx hown (mvT hZ (hw _ (List.mem_of_getElem? (i := 31) rfl))) (g := (mkF m 124 #[.val (.int k)] [(.int (56192 : Int32)), (.int k)])) rfl (hb hby d3_124) tG) ?_
                          show Go p e below s _ _ _ T_43 (mkF m 126 #[.val (.int k)] [(.int (63743 : Int32)), (.int (56192 : Int32)), (.int k)])
                          obtain ⟨_, _, ⟨T_44, L_44, kc_44, nc_44⟩, -, X_44, ⟨Lc_44, hQ_44, l_44, y_44, z_44⟩, st_44⟩ := Jvm.LawKit.callS X_43 hx (y := (⟨"com/example/moat/moat/xpath/NamesIsNameStartPinLaw", "in", "(III)Z"⟩ : MethodName)) hown (mvT hZ (hw _ (List.mem_of_getElem? (i := 27) rfl))) (mvT hZ (hw _ (List.mem_of_getElem? (i := 28) rfl))) (mvT hZ (hw _ (List.mem_of_getElem? (i := 22) rfl))) (mvT hZ (hw _ (List.mem_of_getElem? (i := 29) rfl))) (by decide) (backOf (W := 0) (rm4 l Z a0 hw [] k (56192 : Int32) (63743 : Int32) h0 n0 Z0 ) hZ (hw _ (List.mem_of_getElem? (i := 29) rfl)) (hw _ (List.mem_of_getElem? (i := 22) rfl)) (by decide) (by decide)) (g := (mkF m 126 #[.val (.int k)] [(.int (63743 : Int32)), (.int (56192 : Int32)), (.int k)])) rfl (by rw [hml]; rfl) (argsL := [(.int k), (.int (56192 : Int32)), (.int (63743 : Int32))]) (rest := []) (lenOf pd_0 rfl) rfl (by show 2 * 0 + _ ≤ _; exact Nat.le_of_eq rfl) (hb hby d3_126) (fun _ _ => ⟨rfl, e_43, (by decide : 0 + 0 ≤ _), (by decide : 0 + 0 ≤ _)⟩)
                          dsimp only [Pt.U, Pt.locs, Pt.cells, Pt.slots] at X_44 l_44 y_44 z_44 st_44 hQ_44
                          obtain rfl : kc_44 = 0 := y_44
                          obtain rfl : nc_44 = 0 := z_44
                          obtain ⟨h_44, e_44⟩ : ∃ hh, T_44.heap = hh := ⟨_, rfl⟩
                          rw [e_44] at hQ_44
                          obtain ⟨rfl, N_44q, sm_44⟩ := hQ_44
                          have N_44 : Fr n0 L_44 := by rw [l_44]; exact Fr.app N_43 N_44q
                          refine Go.st st_44 ?_
                          rw [sm_44] at e_44
                          show Go p e below s _ _ _ T_44 (mkF m 129 #[.val (.int k)] [(.int (b2i (¬ (k < (56192 : Int32)) ∧ ¬ ((63743 : Int32) < k))))])
                          rw [show (b2i (¬ (k < (56192 : Int32)) ∧ ¬ ((63743 : Int32) < k))) = (0 : Int32) from b2i_neg (fun q => q.1 (own_i1 hc_40 (by decide) : k < (56192 : Int32)))]
                          show Go p e below s _ _ _ T_44 (mkF m 129 #[.val (.int k)] [(.int (0 : Int32))])
                          refine Go.st (fun _ => XS.ifNo X_44.here hx rfl (hb hby d3_129) rfl ((if0 _ _).trans (teq (by decide : (0 : Int32) = (0 : Int32))).2)) ?_
                          show Go p e below s _ _ _ T_44 (mkF m 132 #[.val (.int k)] [])
                          refine Go.st (fun _ => XS.iloadN X_44.here hx rfl (hb hby d3_132) rfl) ?_
                          show Go p e below s _ _ _ T_44 (mkF m 133 #[.val (.int k)] [(.int k)])
                          refine Go.st (fun tG => X_44.ldcInt hx hown (mvT hZ (hw _ (List.mem_of_getElem? (i := 32) rfl))) (g := (mkF m 133 #[.val (.int k)] [(.int k)])) rfl (hb hby d3_133) tG) ?_
                          show Go p e below s _ _ _ T_44 (mkF m 135 #[.val (.int k)] [(.int (64976 : Int32)), (.int k)])
                          refine Go.st (fun tG => X_44.ldcInt hx hown (mvT hZ (hw _ (List.mem_of_getElem? (i := 33) rfl))) (g := (mkF m 135 #[.val (.int k)] [(.int (64976 : Int32)), (.int k)])) rfl (hb hby d3_135) tG) ?_
                          show Go p e below s _ _ _ T_44 (mkF m 137 #[.val (.int k)] [(.int (65007 : Int32)), (.int (64976 : Int32)), (.int k)])
                          obtain ⟨_, _, ⟨T_45, L_45, kc_45, nc_45⟩, -, X_45, ⟨Lc_45, hQ_45, l_45, y_45, z_45⟩, st_45⟩ := Jvm.LawKit.callS X_44 hx (y := (⟨"com/example/moat/moat/xpath/NamesIsNameStartPinLaw", "in", "(III)Z"⟩ : MethodName)) hown (mvT hZ (hw _ (List.mem_of_getElem? (i := 27) rfl))) (mvT hZ (hw _ (List.mem_of_getElem? (i := 28) rfl))) (mvT hZ (hw _ (List.mem_of_getElem? (i := 22) rfl))) (mvT hZ (hw _ (List.mem_of_getElem? (i := 29) rfl))) (by decide) (backOf (W := 0) (rm4 l Z a0 hw [] k (64976 : Int32) (65007 : Int32) h0 n0 Z0 ) hZ (hw _ (List.mem_of_getElem? (i := 29) rfl)) (hw _ (List.mem_of_getElem? (i := 22) rfl)) (by decide) (by decide)) (g := (mkF m 137 #[.val (.int k)] [(.int (65007 : Int32)), (.int (64976 : Int32)), (.int k)])) rfl (by rw [hml]; rfl) (argsL := [(.int k), (.int (64976 : Int32)), (.int (65007 : Int32))]) (rest := []) (lenOf pd_0 rfl) rfl (by show 2 * 0 + _ ≤ _; exact Nat.le_of_eq rfl) (hb hby d3_137) (fun _ _ => ⟨rfl, e_44, (by decide : 0 + 0 ≤ _), (by decide : 0 + 0 ≤ _)⟩)
                          dsimp only [Pt.U, Pt.locs, Pt.cells, Pt.slots] at X_45 l_45 y_45 z_45 st_45 hQ_45
                          obtain rfl : kc_45 = 0 := y_45
                          obtain rfl : nc_45 = 0 := z_45
                          obtain ⟨h_45, e_45⟩ : ∃ hh, T_45.heap = hh := ⟨_, rfl⟩
                          rw [e_45] at hQ_45
                          obtain ⟨rfl, N_45q, sm_45⟩ := hQ_45
                          have N_45 : Fr n0 L_45 := by rw [l_45]; exact Fr.app N_44 N_45q
                          refine Go.st st_45 ?_
                          rw [sm_45] at e_45
                          show Go p e below s _ _ _ T_45 (mkF m 140 #[.val (.int k)] [(.int (b2i (¬ (k < (64976 : Int32)) ∧ ¬ ((65007 : Int32) < k))))])
                          rw [show (b2i (¬ (k < (64976 : Int32)) ∧ ¬ ((65007 : Int32) < k))) = (0 : Int32) from b2i_neg (fun q => q.1 (own_i1 hc_40 (by decide) : k < (64976 : Int32)))]
                          show Go p e below s _ _ _ T_45 (mkF m 140 #[.val (.int k)] [(.int (0 : Int32))])
                          refine Go.st (fun _ => XS.ifNo X_45.here hx rfl (hb hby d3_140) rfl ((if0 _ _).trans (teq (by decide : (0 : Int32) = (0 : Int32))).2)) ?_
                          show Go p e below s _ _ _ T_45 (mkF m 143 #[.val (.int k)] [])
                          refine Go.st (fun _ => XS.iloadN X_45.here hx rfl (hb hby d3_143) rfl) ?_
                          show Go p e below s _ _ _ T_45 (mkF m 144 #[.val (.int k)] [(.int k)])
                          refine Go.st (fun tG => X_45.ldcInt hx hown (mvT hZ (hw _ (List.mem_of_getElem? (i := 34) rfl))) (g := (mkF m 144 #[.val (.int k)] [(.int k)])) rfl (hb hby d3_144) tG) ?_
                          show Go p e below s _ _ _ T_45 (mkF m 146 #[.val (.int k)] [(.int (65534 : Int32)), (.int k)])
                          refine Go.st (fun tG => X_45.ldcInt hx hown (mvT hZ (hw _ (List.mem_of_getElem? (i := 35) rfl))) (g := (mkF m 146 #[.val (.int k)] [(.int (65534 : Int32)), (.int k)])) rfl (hb hby d3_146) tG) ?_
                          show Go p e below s _ _ _ T_45 (mkF m 148 #[.val (.int k)] [(.int (65535 : Int32)), (.int (65534 : Int32)), (.int k)])
                          obtain ⟨_, _, ⟨T_46, L_46, kc_46, nc_46⟩, -, X_46, ⟨Lc_46, hQ_46, l_46, y_46, z_46⟩, st_46⟩ := Jvm.LawKit.callS X_45 hx (y := (⟨"com/example/moat/moat/xpath/NamesIsNameStartPinLaw", "in", "(III)Z"⟩ : MethodName)) hown (mvT hZ (hw _ (List.mem_of_getElem? (i := 27) rfl))) (mvT hZ (hw _ (List.mem_of_getElem? (i := 28) rfl))) (mvT hZ (hw _ (List.mem_of_getElem? (i := 22) rfl))) (mvT hZ (hw _ (List.mem_of_getElem? (i := 29) rfl))) (by decide) (backOf (W := 0) (rm4 l Z a0 hw [] k (65534 : Int32) (65535 : Int32) h0 n0 Z0 ) hZ (hw _ (List.mem_of_getElem? (i := 29) rfl)) (hw _ (List.mem_of_getElem? (i := 22) rfl)) (by decide) (by decide)) (g := (mkF m 148 #[.val (.int k)] [(.int (65535 : Int32)), (.int (65534 : Int32)), (.int k)])) rfl (by rw [hml]; rfl) (argsL := [(.int k), (.int (65534 : Int32)), (.int (65535 : Int32))]) (rest := []) (lenOf pd_0 rfl) rfl (by show 2 * 0 + _ ≤ _; exact Nat.le_of_eq rfl) (hb hby d3_148) (fun _ _ => ⟨rfl, e_45, (by decide : 0 + 0 ≤ _), (by decide : 0 + 0 ≤ _)⟩)
                          dsimp only [Pt.U, Pt.locs, Pt.cells, Pt.slots] at X_46 l_46 y_46 z_46 st_46 hQ_46
                          obtain rfl : kc_46 = 0 := y_46
                          obtain rfl : nc_46 = 0 := z_46
                          obtain ⟨h_46, e_46⟩ : ∃ hh, T_46.heap = hh := ⟨_, rfl⟩
                          rw [e_46] at hQ_46
                          obtain ⟨rfl, N_46q, sm_46⟩ := hQ_46
                          have N_46 : Fr n0 L_46 := by rw [l_46]; exact Fr.app N_45 N_46q
                          refine Go.st st_46 ?_
                          rw [sm_46] at e_46
                          show Go p e below s _ _ _ T_46 (mkF m 151 #[.val (.int k)] [(.int (b2i (¬ (k < (65534 : Int32)) ∧ ¬ ((65535 : Int32) < k))))])
                          rw [show (b2i (¬ (k < (65534 : Int32)) ∧ ¬ ((65535 : Int32) < k))) = (0 : Int32) from b2i_neg (fun q => q.1 (own_i1 hc_40 (by decide) : k < (65534 : Int32)))]
                          show Go p e below s _ _ _ T_46 (mkF m 151 #[.val (.int k)] [(.int (0 : Int32))])
                          refine Go.st (fun _ => XS.ifNo X_46.here hx rfl (hb hby d3_151) rfl ((if0 _ _).trans (teq (by decide : (0 : Int32) = (0 : Int32))).2)) ?_
                          show Go p e below s _ _ _ T_46 (mkF m 154 #[.val (.int k)] [])
                          refine Go.st (fun _ => XS.iloadN X_46.here hx rfl (hb hby d3_154) rfl) ?_
                          show Go p e below s _ _ _ T_46 (mkF m 155 #[.val (.int k)] [(.int k)])
                          refine Go.st (fun tG => X_46.ldcInt hx hown (mvT hZ (hw _ (List.mem_of_getElem? (i := 9) rfl))) (g := (mkF m 155 #[.val (.int k)] [(.int k)])) rfl (hb hby d3_155) tG) ?_
                          show Go p e below s _ _ _ T_46 (mkF m 157 #[.val (.int k)] [(.int (983039 : Int32)), (.int k)])
                          refine Go.st (fun _ => XS.icmpYes X_46.here hx rfl (pc0 := 157) (pc' := 164) rfl (hb hby d3_157) rfl (flt (own_j1 hc_40 (by decide) : ¬ ((983039 : Int32) < k))).2.2.2 (by decide) (by decide)) ?_
                          show Go p e below s _ _ _ T_46 (mkF m 164 #[.val (.int k)] [])
                          refine Go.st (fun _ => XS.iconst X_46.here hx rfl (hb hby d3_164)) ?_
                          show Go p e below s _ _ _ T_46 (mkF m 165 #[.val (.int k)] [(.int (0 : Int32))])
                          exact Go.retZ X_46 hx hlk Bd.returns (hb hby d3_165) rfl (by rw [e_46]; exact ⟨(own_b2i_f (by have := own_c4 hc_37 (by decide : (879 : Int32).toInt = 879); have := own_c1 hc_40 (by decide : (8192 : Int32).toInt = 8192); have := own_c6 hc_14 (by decide : (96 : Int32).toInt = 96); have := own_c6 hc_26 (by decide : (215 : Int32).toInt = 215); have := own_c6 hc_27 (by decide : (247 : Int32).toInt = 247); have := own_c6 hc_38 (by decide : (894 : Int32).toInt = 894); exact own_gap_f (by omega))), N_46, rfl⟩) (by decide) (by decide)
                        · by_cases hc_47 : (8203 : Int32) < k
                          · rw [show (b2i (¬ (k < (8192 : Int32)) ∧ ¬ ((8203 : Int32) < k))) = (0 : Int32) from b2i_neg (fun q => q.2 hc_47)]
                            show Go p e below s _ _ _ T_39 (mkF m 79 #[.val (.int k)] [(.int (0 : Int32))])
                            refine Go.st (fun _ => XS.ifNo X_39.here hx rfl (hb hby d3_79) rfl ((if0 _ _).trans (teq (by decide : (0 : Int32) = (0 : Int32))).2)) ?_
                            show Go p e below s _ _ _ T_39 (mkF m 82 #[.val (.int k)] [])
                            refine Go.st (fun _ => XS.iloadN X_39.here hx rfl (hb hby d3_82) rfl) ?_
                            show Go p e below s _ _ _ T_39 (mkF m 83 #[.val (.int k)] [(.int k)])
                            refine Go.st (fun _ => XS.sipush X_39.here hx rfl (hb hby d3_83)) ?_
                            show Go p e below s _ _ _ T_39 (mkF m 86 #[.val (.int k)] [(.int (8206 : Int32)), (.int k)])
                            refine Go.st (fun _ => XS.sipush X_39.here hx rfl (hb hby d3_86)) ?_
                            show Go p e below s _ _ _ T_39 (mkF m 89 #[.val (.int k)] [(.int (8303 : Int32)), (.int (8206 : Int32)), (.int k)])
                            obtain ⟨_, _, ⟨T_48, L_48, kc_48, nc_48⟩, -, X_48, ⟨Lc_48, hQ_48, l_48, y_48, z_48⟩, st_48⟩ := Jvm.LawKit.callS X_39 hx (y := (⟨"com/example/moat/moat/xpath/NamesIsNameStartPinLaw", "in", "(III)Z"⟩ : MethodName)) hown (mvT hZ (hw _ (List.mem_of_getElem? (i := 27) rfl))) (mvT hZ (hw _ (List.mem_of_getElem? (i := 28) rfl))) (mvT hZ (hw _ (List.mem_of_getElem? (i := 22) rfl))) (mvT hZ (hw _ (List.mem_of_getElem? (i := 29) rfl))) (by decide) (backOf (W := 0) (rm4 l Z a0 hw [] k (8206 : Int32) (8303 : Int32) h0 n0 Z0 ) hZ (hw _ (List.mem_of_getElem? (i := 29) rfl)) (hw _ (List.mem_of_getElem? (i := 22) rfl)) (by decide) (by decide)) (g := (mkF m 89 #[.val (.int k)] [(.int (8303 : Int32)), (.int (8206 : Int32)), (.int k)])) rfl (by rw [hml]; rfl) (argsL := [(.int k), (.int (8206 : Int32)), (.int (8303 : Int32))]) (rest := []) (lenOf pd_0 rfl) rfl (by show 2 * 0 + _ ≤ _; exact Nat.le_of_eq rfl) (hb hby d3_89) (fun _ _ => ⟨rfl, e_39, (by decide : 0 + 0 ≤ _), (by decide : 0 + 0 ≤ _)⟩)
                            dsimp only [Pt.U, Pt.locs, Pt.cells, Pt.slots] at X_48 l_48 y_48 z_48 st_48 hQ_48
                            obtain rfl : kc_48 = 0 := y_48
                            obtain rfl : nc_48 = 0 := z_48
                            obtain ⟨h_48, e_48⟩ : ∃ hh, T_48.heap = hh := ⟨_, rfl⟩
                            rw [e_48] at hQ_48
                            obtain ⟨rfl, N_48q, sm_48⟩ := hQ_48
                            have N_48 : Fr n0 L_48 := by rw [l_48]; exact Fr.app N_39 N_48q
                            refine Go.st st_48 ?_
                            rw [sm_48] at e_48
                            show Go p e below s _ _ _ T_48 (mkF m 92 #[.val (.int k)] [(.int (b2i (¬ (k < (8206 : Int32)) ∧ ¬ ((8303 : Int32) < k))))])
                            by_cases hc_49 : k < (8206 : Int32)
                            · rw [show (b2i (¬ (k < (8206 : Int32)) ∧ ¬ ((8303 : Int32) < k))) = (0 : Int32) from b2i_neg (fun q => q.1 hc_49)]
                              show Go p e below s _ _ _ T_48 (mkF m 92 #[.val (.int k)] [(.int (0 : Int32))])
                              refine Go.st (fun _ => XS.ifNo X_48.here hx rfl (hb hby d3_92) rfl ((if0 _ _).trans (teq (by decide : (0 : Int32) = (0 : Int32))).2)) ?_
                              show Go p e below s _ _ _ T_48 (mkF m 95 #[.val (.int k)] [])
                              refine Go.st (fun _ => XS.iloadN X_48.here hx rfl (hb hby d3_95) rfl) ?_
                              show Go p e below s _ _ _ T_48 (mkF m 96 #[.val (.int k)] [(.int k)])
                              refine Go.st (fun _ => XS.sipush X_48.here hx rfl (hb hby d3_96)) ?_
                              show Go p e below s _ _ _ T_48 (mkF m 99 #[.val (.int k)] [(.int (8592 : Int32)), (.int k)])
                              refine Go.st (fun _ => XS.sipush X_48.here hx rfl (hb hby d3_99)) ?_
                              show Go p e below s _ _ _ T_48 (mkF m 102 #[.val (.int k)] [(.int (11263 : Int32)), (.int (8592 : Int32)), (.int k)])
                              obtain ⟨_, _, ⟨T_50, L_50, kc_50, nc_50⟩, -, X_50, ⟨Lc_50, hQ_50, l_50, y_50, z_50⟩, st_50⟩ := Jvm.LawKit.callS X_48 hx (y := (⟨"com/example/moat/moat/xpath/NamesIsNameStartPinLaw", "in", "(III)Z"⟩ : MethodName)) hown (mvT hZ (hw _ (List.mem_of_getElem? (i := 27) rfl))) (mvT hZ (hw _ (List.mem_of_getElem? (i := 28) rfl))) (mvT hZ (hw _ (List.mem_of_getElem? (i := 22) rfl))) (mvT hZ (hw _ (List.mem_of_getElem? (i := 29) rfl))) (by decide) (backOf (W := 0) (rm4 l Z a0 hw [] k (8592 : Int32) (11263 : Int32) h0 n0 Z0 ) hZ (hw _ (List.mem_of_getElem? (i := 29) rfl)) (hw _ (List.mem_of_getElem? (i := 22) rfl)) (by decide) (by decide)) (g := (mkF m 102 #[.val (.int k)] [(.int (11263 : Int32)), (.int (8592 : Int32)), (.int k)])) rfl (by rw [hml]; rfl) (argsL := [(.int k), (.int (8592 : Int32)), (.int (11263 : Int32))]) (rest := []) (lenOf pd_0 rfl) rfl (by show 2 * 0 + _ ≤ _; exact Nat.le_of_eq rfl) (hb hby d3_102) (fun _ _ => ⟨rfl, e_48, (by decide : 0 + 0 ≤ _), (by decide : 0 + 0 ≤ _)⟩)
                              dsimp only [Pt.U, Pt.locs, Pt.cells, Pt.slots] at X_50 l_50 y_50 z_50 st_50 hQ_50
                              obtain rfl : kc_50 = 0 := y_50
                              obtain rfl : nc_50 = 0 := z_50
                              obtain ⟨h_50, e_50⟩ : ∃ hh, T_50.heap = hh := ⟨_, rfl⟩
                              rw [e_50] at hQ_50
                              obtain ⟨rfl, N_50q, sm_50⟩ := hQ_50
                              have N_50 : Fr n0 L_50 := by rw [l_50]; exact Fr.app N_48 N_50q
                              refine Go.st st_50 ?_
                              rw [sm_50] at e_50
                              show Go p e below s _ _ _ T_50 (mkF m 105 #[.val (.int k)] [(.int (b2i (¬ (k < (8592 : Int32)) ∧ ¬ ((11263 : Int32) < k))))])
                              rw [show (b2i (¬ (k < (8592 : Int32)) ∧ ¬ ((11263 : Int32) < k))) = (0 : Int32) from b2i_neg (fun q => q.1 (own_i1 hc_49 (by decide) : k < (8592 : Int32)))]
                              show Go p e below s _ _ _ T_50 (mkF m 105 #[.val (.int k)] [(.int (0 : Int32))])
                              refine Go.st (fun _ => XS.ifNo X_50.here hx rfl (hb hby d3_105) rfl ((if0 _ _).trans (teq (by decide : (0 : Int32) = (0 : Int32))).2)) ?_
                              show Go p e below s _ _ _ T_50 (mkF m 108 #[.val (.int k)] [])
                              refine Go.st (fun _ => XS.iloadN X_50.here hx rfl (hb hby d3_108) rfl) ?_
                              show Go p e below s _ _ _ T_50 (mkF m 109 #[.val (.int k)] [(.int k)])
                              refine Go.st (fun _ => XS.sipush X_50.here hx rfl (hb hby d3_109)) ?_
                              show Go p e below s _ _ _ T_50 (mkF m 112 #[.val (.int k)] [(.int (12272 : Int32)), (.int k)])
                              refine Go.st (fun _ => XS.sipush X_50.here hx rfl (hb hby d3_112)) ?_
                              show Go p e below s _ _ _ T_50 (mkF m 115 #[.val (.int k)] [(.int (12288 : Int32)), (.int (12272 : Int32)), (.int k)])
                              obtain ⟨_, _, ⟨T_51, L_51, kc_51, nc_51⟩, -, X_51, ⟨Lc_51, hQ_51, l_51, y_51, z_51⟩, st_51⟩ := Jvm.LawKit.callS X_50 hx (y := (⟨"com/example/moat/moat/xpath/NamesIsNameStartPinLaw", "in", "(III)Z"⟩ : MethodName)) hown (mvT hZ (hw _ (List.mem_of_getElem? (i := 27) rfl))) (mvT hZ (hw _ (List.mem_of_getElem? (i := 28) rfl))) (mvT hZ (hw _ (List.mem_of_getElem? (i := 22) rfl))) (mvT hZ (hw _ (List.mem_of_getElem? (i := 29) rfl))) (by decide) (backOf (W := 0) (rm4 l Z a0 hw [] k (12272 : Int32) (12288 : Int32) h0 n0 Z0 ) hZ (hw _ (List.mem_of_getElem? (i := 29) rfl)) (hw _ (List.mem_of_getElem? (i := 22) rfl)) (by decide) (by decide)) (g := (mkF m 115 #[.val (.int k)] [(.int (12288 : Int32)), (.int (12272 : Int32)), (.int k)])) rfl (by rw [hml]; rfl) (argsL := [(.int k), (.int (12272 : Int32)), (.int (12288 : Int32))]) (rest := []) (lenOf pd_0 rfl) rfl (by show 2 * 0 + _ ≤ _; exact Nat.le_of_eq rfl) (hb hby d3_115) (fun _ _ => ⟨rfl, e_50, (by decide : 0 + 0 ≤ _), (by decide : 0 + 0 ≤ _)⟩)
                              dsimp only [Pt.U, Pt.locs, Pt.cells, Pt.slots] at X_51 l_51 y_51 z_51 st_51 hQ_51
                              obtain rfl : kc_51 = 0 := y_51
                              obtain rfl : nc_51 = 0 := z_51
                              obtain ⟨h_51, e_51⟩ : ∃ hh, T_51.heap = hh := ⟨_, rfl⟩
                              rw [e_51] at hQ_51
                              obtain ⟨rfl, N_51q, sm_51⟩ := hQ_51
                              have N_51 : Fr n0 L_51 := by rw [l_51]; exact Fr.app N_50 N_51q
                              refine Go.st st_51 ?_
                              rw [sm_51] at e_51
                              show Go p e below s _ _ _ T_51 (mkF m 118 #[.val (.int k)] [(.int (b2i (¬ (k < (12272 : Int32)) ∧ ¬ ((12288 : Int32) < k))))])
                              rw [show (b2i (¬ (k < (12272 : Int32)) ∧ ¬ ((12288 : Int32) < k))) = (0 : Int32) from b2i_neg (fun q => q.1 (own_i1 hc_49 (by decide) : k < (12272 : Int32)))]
                              show Go p e below s _ _ _ T_51 (mkF m 118 #[.val (.int k)] [(.int (0 : Int32))])
                              refine Go.st (fun _ => XS.ifNo X_51.here hx rfl (hb hby d3_118) rfl ((if0 _ _).trans (teq (by decide : (0 : Int32) = (0 : Int32))).2)) ?_
                              show Go p e below s _ _ _ T_51 (mkF m 121 #[.val (.int k)] [])
                              refine Go.st (fun _ => XS.iloadN X_51.here hx rfl (hb hby d3_121) rfl) ?_
                              show Go p e below s _ _ _ T_51 (mkF m 122 #[.val (.int k)] [(.int k)])
                              refine Go.st (fun tG => X_51.ldcInt hx hown (mvT hZ (hw _ (List.mem_of_getElem? (i := 30) rfl))) (g := (mkF m 122 #[.val (.int k)] [(.int k)])) rfl (hb hby d3_122) tG) ?_
                              show Go p e below s _ _ _ T_51 (mkF m 124 #[.val (.int k)] [(.int (56192 : Int32)), (.int k)])
                              refine Go.st (fun tG => X_51.ldcInt hx hown (mvT hZ (hw _ (List.mem_of_getElem? (i := 31) rfl))) (g := (mkF m 124 #[.val (.int k)] [(.int (56192 : Int32)), (.int k)])) rfl (hb hby d3_124) tG) ?_
                              show Go p e below s _ _ _ T_51 (mkF m 126 #[.val (.int k)] [(.int (63743 : Int32)), (.int (56192 : Int32)), (.int k)])
                              obtain ⟨_, _, ⟨T_52, L_52, kc_52, nc_52⟩, -, X_52, ⟨Lc_52, hQ_52, l_52, y_52, z_52⟩, st_52⟩ := Jvm.LawKit.callS X_51 hx (y := (⟨"com/example/moat/moat/xpath/NamesIsNameStartPinLaw", "in", "(III)Z"⟩ : MethodName)) hown (mvT hZ (hw _ (List.mem_of_getElem? (i := 27) rfl))) (mvT hZ (hw _ (List.mem_of_getElem? (i := 28) rfl))) (mvT hZ (hw _ (List.mem_of_getElem? (i := 22) rfl))) (mvT hZ (hw _ (List.mem_of_getElem? (i := 29) rfl))) (by decide) (backOf (W := 0) (rm4 l Z a0 hw [] k (56192 : Int32) (63743 : Int32) h0 n0 Z0 ) hZ (hw _ (List.mem_of_getElem? (i := 29) rfl)) (hw _ (List.mem_of_getElem? (i := 22) rfl)) (by decide) (by decide)) (g := (mkF m 126 #[.val (.int k)] [(.int (63743 : Int32)), (.int (56192 : Int32)), (.int k)])) rfl (by rw [hml]; rfl) (argsL := [(.int k), (.int (56192 : Int32)), (.int (63743 : Int32))]) (rest := []) (lenOf pd_0 rfl) rfl (by show 2 * 0 + _ ≤ _; exact Nat.le_of_eq rfl) (hb hby d3_126) (fun _ _ => ⟨rfl, e_51, (by decide : 0 + 0 ≤ _), (by decide : 0 + 0 ≤ _)⟩)
                              dsimp only [Pt.U, Pt.locs, Pt.cells, Pt.slots] at X_52 l_52 y_52 z_52 st_52 hQ_52
                              obtain rfl : kc_52 = 0 := y_52
                              obtain rfl : nc_52 = 0 := z_52
                              obtain ⟨h_52, e_52⟩ : ∃ hh, T_52.heap = hh := ⟨_, rfl⟩
                              rw [e_52] at hQ_52
                              obtain ⟨rfl, N_52q, sm_52⟩ := hQ_52
                              have N_52 : Fr n0 L_52 := by rw [l_52]; exact Fr.app N_51 N_52q
                              refine Go.st st_52 ?_
                              rw [sm_52] at e_52
                              show Go p e below s _ _ _ T_52 (mkF m 129 #[.val (.int k)] [(.int (b2i (¬ (k < (56192 : Int32)) ∧ ¬ ((63743 : Int32) < k))))])
                              rw [show (b2i (¬ (k < (56192 : Int32)) ∧ ¬ ((63743 : Int32) < k))) = (0 : Int32) from b2i_neg (fun q => q.1 (own_i1 hc_49 (by decide) : k < (56192 : Int32)))]
                              show Go p e below s _ _ _ T_52 (mkF m 129 #[.val (.int k)] [(.int (0 : Int32))])
                              refine Go.st (fun _ => XS.ifNo X_52.here hx rfl (hb hby d3_129) rfl ((if0 _ _).trans (teq (by decide : (0 : Int32) = (0 : Int32))).2)) ?_
                              show Go p e below s _ _ _ T_52 (mkF m 132 #[.val (.int k)] [])
                              refine Go.st (fun _ => XS.iloadN X_52.here hx rfl (hb hby d3_132) rfl) ?_
                              show Go p e below s _ _ _ T_52 (mkF m 133 #[.val (.int k)] [(.int k)])
                              refine Go.st (fun tG => X_52.ldcInt hx hown (mvT hZ (hw _ (List.mem_of_getElem? (i := 32) rfl))) (g := (mkF m 133 #[.val (.int k)] [(.int k)])) rfl (hb hby d3_133) tG) ?_
                              show Go p e below s _ _ _ T_52 (mkF m 135 #[.val (.int k)] [(.int (64976 : Int32)), (.int k)])
                              refine Go.st (fun tG => X_52.ldcInt hx hown (mvT hZ (hw _ (List.mem_of_getElem? (i := 33) rfl))) (g := (mkF m 135 #[.val (.int k)] [(.int (64976 : Int32)), (.int k)])) rfl (hb hby d3_135) tG) ?_
                              show Go p e below s _ _ _ T_52 (mkF m 137 #[.val (.int k)] [(.int (65007 : Int32)), (.int (64976 : Int32)), (.int k)])
                              obtain ⟨_, _, ⟨T_53, L_53, kc_53, nc_53⟩, -, X_53, ⟨Lc_53, hQ_53, l_53, y_53, z_53⟩, st_53⟩ := Jvm.LawKit.callS X_52 hx (y := (⟨"com/example/moat/moat/xpath/NamesIsNameStartPinLaw", "in", "(III)Z"⟩ : MethodName)) hown (mvT hZ (hw _ (List.mem_of_getElem? (i := 27) rfl))) (mvT hZ (hw _ (List.mem_of_getElem? (i := 28) rfl))) (mvT hZ (hw _ (List.mem_of_getElem? (i := 22) rfl))) (mvT hZ (hw _ (List.mem_of_getElem? (i := 29) rfl))) (by decide) (backOf (W := 0) (rm4 l Z a0 hw [] k (64976 : Int32) (65007 : Int32) h0 n0 Z0 ) hZ (hw _ (List.mem_of_getElem? (i := 29) rfl)) (hw _ (List.mem_of_getElem? (i := 22) rfl)) (by decide) (by decide)) (g := (mkF m 137 #[.val (.int k)] [(.int (65007 : Int32)), (.int (64976 : Int32)), (.int k)])) rfl (by rw [hml]; rfl) (argsL := [(.int k), (.int (64976 : Int32)), (.int (65007 : Int32))]) (rest := []) (lenOf pd_0 rfl) rfl (by show 2 * 0 + _ ≤ _; exact Nat.le_of_eq rfl) (hb hby d3_137) (fun _ _ => ⟨rfl, e_52, (by decide : 0 + 0 ≤ _), (by decide : 0 + 0 ≤ _)⟩)
                              dsimp only [Pt.U, Pt.locs, Pt.cells, Pt.slots] at X_53 l_53 y_53 z_53 st_53 hQ_53
                              obtain rfl : kc_53 = 0 := y_53
                              obtain rfl : nc_53 = 0 := z_53
                              obtain ⟨h_53, e_53⟩ : ∃ hh, T_53.heap = hh := ⟨_, rfl⟩
                              rw [e_53] at hQ_53
                              obtain ⟨rfl, N_53q, sm_53⟩ := hQ_53
                              have N_53 : Fr n0 L_53 := by rw [l_53]; exact Fr.app N_52 N_53q
                              refine Go.st st_53 ?_
                              rw [sm_53] at e_53
                              show Go p e below s _ _ _ T_53 (mkF m 140 #[.val (.int k)] [(.int (b2i (¬ (k < (64976 : Int32)) ∧ ¬ ((65007 : Int32) < k))))])
                              rw [show (b2i (¬ (k < (64976 : Int32)) ∧ ¬ ((65007 : Int32) < k))) = (0 : Int32) from b2i_neg (fun q => q.1 (own_i1 hc_49 (by decide) : k < (64976 : Int32)))]
                              show Go p e below s _ _ _ T_53 (mkF m 140 #[.val (.int k)] [(.int (0 : Int32))])
                              refine Go.st (fun _ => XS.ifNo X_53.here hx rfl (hb hby d3_140) rfl ((if0 _ _).trans (teq (by decide : (0 : Int32) = (0 : Int32))).2)) ?_
                              show Go p e below s _ _ _ T_53 (mkF m 143 #[.val (.int k)] [])
                              refine Go.st (fun _ => XS.iloadN X_53.here hx rfl (hb hby d3_143) rfl) ?_
                              show Go p e below s _ _ _ T_53 (mkF m 144 #[.val (.int k)] [(.int k)])
                              refine Go.st (fun tG => X_53.ldcInt hx hown (mvT hZ (hw _ (List.mem_of_getElem? (i := 34) rfl))) (g := (mkF m 144 #[.val (.int k)] [(.int k)])) rfl (hb hby d3_144) tG) ?_
                              show Go p e below s _ _ _ T_53 (mkF m 146 #[.val (.int k)] [(.int (65534 : Int32)), (.int k)])
                              refine Go.st (fun tG => X_53.ldcInt hx hown (mvT hZ (hw _ (List.mem_of_getElem? (i := 35) rfl))) (g := (mkF m 146 #[.val (.int k)] [(.int (65534 : Int32)), (.int k)])) rfl (hb hby d3_146) tG) ?_
                              show Go p e below s _ _ _ T_53 (mkF m 148 #[.val (.int k)] [(.int (65535 : Int32)), (.int (65534 : Int32)), (.int k)])
                              obtain ⟨_, _, ⟨T_54, L_54, kc_54, nc_54⟩, -, X_54, ⟨Lc_54, hQ_54, l_54, y_54, z_54⟩, st_54⟩ := Jvm.LawKit.callS X_53 hx (y := (⟨"com/example/moat/moat/xpath/NamesIsNameStartPinLaw", "in", "(III)Z"⟩ : MethodName)) hown (mvT hZ (hw _ (List.mem_of_getElem? (i := 27) rfl))) (mvT hZ (hw _ (List.mem_of_getElem? (i := 28) rfl))) (mvT hZ (hw _ (List.mem_of_getElem? (i := 22) rfl))) (mvT hZ (hw _ (List.mem_of_getElem? (i := 29) rfl))) (by decide) (backOf (W := 0) (rm4 l Z a0 hw [] k (65534 : Int32) (65535 : Int32) h0 n0 Z0 ) hZ (hw _ (List.mem_of_getElem? (i := 29) rfl)) (hw _ (List.mem_of_getElem? (i := 22) rfl)) (by decide) (by decide)) (g := (mkF m 148 #[.val (.int k)] [(.int (65535 : Int32)), (.int (65534 : Int32)), (.int k)])) rfl (by rw [hml]; rfl) (argsL := [(.int k), (.int (65534 : Int32)), (.int (65535 : Int32))]) (rest := []) (lenOf pd_0 rfl) rfl (by show 2 * 0 + _ ≤ _; exact Nat.le_of_eq rfl) (hb hby d3_148) (fun _ _ => ⟨rfl, e_53, (by decide : 0 + 0 ≤ _), (by decide : 0 + 0 ≤ _)⟩)
                              dsimp only [Pt.U, Pt.locs, Pt.cells, Pt.slots] at X_54 l_54 y_54 z_54 st_54 hQ_54
                              obtain rfl : kc_54 = 0 := y_54
                              obtain rfl : nc_54 = 0 := z_54
                              obtain ⟨h_54, e_54⟩ : ∃ hh, T_54.heap = hh := ⟨_, rfl⟩
                              rw [e_54] at hQ_54
                              obtain ⟨rfl, N_54q, sm_54⟩ := hQ_54
                              have N_54 : Fr n0 L_54 := by rw [l_54]; exact Fr.app N_53 N_54q
                              refine Go.st st_54 ?_
                              rw [sm_54] at e_54
                              show Go p e below s _ _ _ T_54 (mkF m 151 #[.val (.int k)] [(.int (b2i (¬ (k < (65534 : Int32)) ∧ ¬ ((65535 : Int32) < k))))])
                              rw [show (b2i (¬ (k < (65534 : Int32)) ∧ ¬ ((65535 : Int32) < k))) = (0 : Int32) from b2i_neg (fun q => q.1 (own_i1 hc_49 (by decide) : k < (65534 : Int32)))]
                              show Go p e below s _ _ _ T_54 (mkF m 151 #[.val (.int k)] [(.int (0 : Int32))])
                              refine Go.st (fun _ => XS.ifNo X_54.here hx rfl (hb hby d3_151) rfl ((if0 _ _).trans (teq (by decide : (0 : Int32) = (0 : Int32))).2)) ?_
                              show Go p e below s _ _ _ T_54 (mkF m 154 #[.val (.int k)] [])
                              refine Go.st (fun _ => XS.iloadN X_54.here hx rfl (hb hby d3_154) rfl) ?_
                              show Go p e below s _ _ _ T_54 (mkF m 155 #[.val (.int k)] [(.int k)])
                              refine Go.st (fun tG => X_54.ldcInt hx hown (mvT hZ (hw _ (List.mem_of_getElem? (i := 9) rfl))) (g := (mkF m 155 #[.val (.int k)] [(.int k)])) rfl (hb hby d3_155) tG) ?_
                              show Go p e below s _ _ _ T_54 (mkF m 157 #[.val (.int k)] [(.int (983039 : Int32)), (.int k)])
                              refine Go.st (fun _ => XS.icmpYes X_54.here hx rfl (pc0 := 157) (pc' := 164) rfl (hb hby d3_157) rfl (flt (own_j1 hc_49 (by decide) : ¬ ((983039 : Int32) < k))).2.2.2 (by decide) (by decide)) ?_
                              show Go p e below s _ _ _ T_54 (mkF m 164 #[.val (.int k)] [])
                              refine Go.st (fun _ => XS.iconst X_54.here hx rfl (hb hby d3_164)) ?_
                              show Go p e below s _ _ _ T_54 (mkF m 165 #[.val (.int k)] [(.int (0 : Int32))])
                              exact Go.retZ X_54 hx hlk Bd.returns (hb hby d3_165) rfl (by rw [e_54]; exact ⟨(own_b2i_f (by have := own_c4 hc_47 (by decide : (8203 : Int32).toInt = 8203); have := own_c1 hc_49 (by decide : (8206 : Int32).toInt = 8206); have := own_c6 hc_14 (by decide : (96 : Int32).toInt = 96); have := own_c6 hc_26 (by decide : (215 : Int32).toInt = 215); have := own_c6 hc_27 (by decide : (247 : Int32).toInt = 247); have := own_c6 hc_38 (by decide : (894 : Int32).toInt = 894); exact own_gap_f (by omega))), N_54, rfl⟩) (by decide) (by decide)
                            · by_cases hc_55 : (8303 : Int32) < k
                              · rw [show (b2i (¬ (k < (8206 : Int32)) ∧ ¬ ((8303 : Int32) < k))) = (0 : Int32) from b2i_neg (fun q => q.2 hc_55)]
                                show Go p e below s _ _ _ T_48 (mkF m 92 #[.val (.int k)] [(.int (0 : Int32))])
                                refine Go.st (fun _ => XS.ifNo X_48.here hx rfl (hb hby d3_92) rfl ((if0 _ _).trans (teq (by decide : (0 : Int32) = (0 : Int32))).2)) ?_
                                show Go p e below s _ _ _ T_48 (mkF m 95 #[.val (.int k)] [])
                                refine Go.st (fun _ => XS.iloadN X_48.here hx rfl (hb hby d3_95) rfl) ?_
                                show Go p e below s _ _ _ T_48 (mkF m 96 #[.val (.int k)] [(.int k)])
                                refine Go.st (fun _ => XS.sipush X_48.here hx rfl (hb hby d3_96)) ?_
                                show Go p e below s _ _ _ T_48 (mkF m 99 #[.val (.int k)] [(.int (8592 : Int32)), (.int k)])
                                refine Go.st (fun _ => XS.sipush X_48.here hx rfl (hb hby d3_99)) ?_
                                show Go p e below s _ _ _ T_48 (mkF m 102 #[.val (.int k)] [(.int (11263 : Int32)), (.int (8592 : Int32)), (.int k)])
                                obtain ⟨_, _, ⟨T_56, L_56, kc_56, nc_56⟩, -, X_56, ⟨Lc_56, hQ_56, l_56, y_56, z_56⟩, st_56⟩ := Jvm.LawKit.callS X_48 hx (y := (⟨"com/example/moat/moat/xpath/NamesIsNameStartPinLaw", "in", "(III)Z"⟩ : MethodName)) hown (mvT hZ (hw _ (List.mem_of_getElem? (i := 27) rfl))) (mvT hZ (hw _ (List.mem_of_getElem? (i := 28) rfl))) (mvT hZ (hw _ (List.mem_of_getElem? (i := 22) rfl))) (mvT hZ (hw _ (List.mem_of_getElem? (i := 29) rfl))) (by decide) (backOf (W := 0) (rm4 l Z a0 hw [] k (8592 : Int32) (11263 : Int32) h0 n0 Z0 ) hZ (hw _ (List.mem_of_getElem? (i := 29) rfl)) (hw _ (List.mem_of_getElem? (i := 22) rfl)) (by decide) (by decide)) (g := (mkF m 102 #[.val (.int k)] [(.int (11263 : Int32)), (.int (8592 : Int32)), (.int k)])) rfl (by rw [hml]; rfl) (argsL := [(.int k), (.int (8592 : Int32)), (.int (11263 : Int32))]) (rest := []) (lenOf pd_0 rfl) rfl (by show 2 * 0 + _ ≤ _; exact Nat.le_of_eq rfl) (hb hby d3_102) (fun _ _ => ⟨rfl, e_48, (by decide : 0 + 0 ≤ _), (by decide : 0 + 0 ≤ _)⟩)
                                dsimp only [Pt.U, Pt.locs, Pt.cells, Pt.slots] at X_56 l_56 y_56 z_56 st_56 hQ_56
                                obtain rfl : kc_56 = 0 := y_56
                                obtain rfl : nc_56 = 0 := z_56
                                obtain ⟨h_56, e_56⟩ : ∃ hh, T_56.heap = hh := ⟨_, rfl⟩
                                rw [e_56] at hQ_56
                                obtain ⟨rfl, N_56q, sm_56⟩ := hQ_56
                                have N_56 : Fr n0 L_56 := by rw [l_56]; exact Fr.app N_48 N_56q
                                refine Go.st st_56 ?_
                                rw [sm_56] at e_56
                                show Go p e below s _ _ _ T_56 (mkF m 105 #[.val (.int k)] [(.int (b2i (¬ (k < (8592 : Int32)) ∧ ¬ ((11263 : Int32) < k))))])
                                by_cases hc_57 : k < (8592 : Int32)
                                · rw [show (b2i (¬ (k < (8592 : Int32)) ∧ ¬ ((11263 : Int32) < k))) = (0 : Int32) from b2i_neg (fun q => q.1 hc_57)]
                                  show Go p e below s _ _ _ T_56 (mkF m 105 #[.val (.int k)] [(.int (0 : Int32))])
                                  refine Go.st (fun _ => XS.ifNo X_56.here hx rfl (hb hby d3_105) rfl ((if0 _ _).trans (teq (by decide : (0 : Int32) = (0 : Int32))).2)) ?_
                                  show Go p e below s _ _ _ T_56 (mkF m 108 #[.val (.int k)] [])
                                  refine Go.st (fun _ => XS.iloadN X_56.here hx rfl (hb hby d3_108) rfl) ?_
                                  show Go p e below s _ _ _ T_56 (mkF m 109 #[.val (.int k)] [(.int k)])
                                  refine Go.st (fun _ => XS.sipush X_56.here hx rfl (hb hby d3_109)) ?_
                                  show Go p e below s _ _ _ T_56 (mkF m 112 #[.val (.int k)] [(.int (12272 : Int32)), (.int k)])
                                  refine Go.st (fun _ => XS.sipush X_56.here hx rfl (hb hby d3_112)) ?_
                                  show Go p e below s _ _ _ T_56 (mkF m 115 #[.val (.int k)] [(.int (12288 : Int32)), (.int (12272 : Int32)), (.int k)])
                                  obtain ⟨_, _, ⟨T_58, L_58, kc_58, nc_58⟩, -, X_58, ⟨Lc_58, hQ_58, l_58, y_58, z_58⟩, st_58⟩ := Jvm.LawKit.callS X_56 hx (y := (⟨"com/example/moat/moat/xpath/NamesIsNameStartPinLaw", "in", "(III)Z"⟩ : MethodName)) hown (mvT hZ (hw _ (List.mem_of_getElem? (i := 27) rfl))) (mvT hZ (hw _ (List.mem_of_getElem? (i := 28) rfl))) (mvT hZ (hw _ (List.mem_of_getElem? (i := 22) rfl))) (mvT hZ (hw _ (List.mem_of_getElem? (i := 29) rfl))) (by decide) (backOf (W := 0) (rm4 l Z a0 hw [] k (12272 : Int32) (12288 : Int32) h0 n0 Z0 ) hZ (hw _ (List.mem_of_getElem? (i := 29) rfl)) (hw _ (List.mem_of_getElem? (i := 22) rfl)) (by decide) (by decide)) (g := (mkF m 115 #[.val (.int k)] [(.int (12288 : Int32)), (.int (12272 : Int32)), (.int k)])) rfl (by rw [hml]; rfl) (argsL := [(.int k), (.int (12272 : Int32)), (.int (12288 : Int32))]) (rest := []) (lenOf pd_0 rfl) rfl (by show 2 * 0 + _ ≤ _; exact Nat.le_of_eq rfl) (hb hby d3_115) (fun _ _ => ⟨rfl, e_56, (by decide : 0 + 0 ≤ _), (by decide : 0 + 0 ≤ _)⟩)
                                  dsimp only [Pt.U, Pt.locs, Pt.cells, Pt.slots] at X_58 l_58 y_58 z_58 st_58 hQ_58
                                  obtain rfl : kc_58 = 0 := y_58
                                  obtain rfl : nc_58 = 0 := z_58
                                  obtain ⟨h_58, e_58⟩ : ∃ hh, T_58.heap = hh := ⟨_, rfl⟩
                                  rw [e_58] at hQ_58
                                  obtain ⟨rfl, N_58q, sm_58⟩ := hQ_58
                                  have N_58 : Fr n0 L_58 := by rw [l_58]; exact Fr.app N_56 N_58q
                                  refine Go.st st_58 ?_
                                  rw [sm_58] at e_58
                                  show Go p e below s _ _ _ T_58 (mkF m 118 #[.val (.int k)] [(.int (b2i (¬ (k < (12272 : Int32)) ∧ ¬ ((12288 : Int32) < k))))])
                                  rw [show (b2i (¬ (k < (12272 : Int32)) ∧ ¬ ((12288 : Int32) < k))) = (0 : Int32) from b2i_neg (fun q => q.1 (own_i1 hc_57 (by decide) : k < (12272 : Int32)))]
                                  show Go p e below s _ _ _ T_58 (mkF m 118 #[.val (.int k)] [(.int (0 : Int32))])
                                  refine Go.st (fun _ => XS.ifNo X_58.here hx rfl (hb hby d3_118) rfl ((if0 _ _).trans (teq (by decide : (0 : Int32) = (0 : Int32))).2)) ?_
                                  show Go p e below s _ _ _ T_58 (mkF m 121 #[.val (.int k)] [])
                                  refine Go.st (fun _ => XS.iloadN X_58.here hx rfl (hb hby d3_121) rfl) ?_
                                  show Go p e below s _ _ _ T_58 (mkF m 122 #[.val (.int k)] [(.int k)])
                                  refine Go.st (fun tG => X_58.ldcInt hx hown (mvT hZ (hw _ (List.mem_of_getElem? (i := 30) rfl))) (g := (mkF m 122 #[.val (.int k)] [(.int k)])) rfl (hb hby d3_122) tG) ?_
                                  show Go p e below s _ _ _ T_58 (mkF m 124 #[.val (.int k)] [(.int (56192 : Int32)), (.int k)])
                                  refine Go.st (fun tG => X_58.ldcInt hx hown (mvT hZ (hw _ (List.mem_of_getElem? (i := 31) rfl))) (g := (mkF m 124 #[.val (.int k)] [(.int (56192 : Int32)), (.int k)])) rfl (hb hby d3_124) tG) ?_
                                  show Go p e below s _ _ _ T_58 (mkF m 126 #[.val (.int k)] [(.int (63743 : Int32)), (.int (56192 : Int32)), (.int k)])
                                  obtain ⟨_, _, ⟨T_59, L_59, kc_59, nc_59⟩, -, X_59, ⟨Lc_59, hQ_59, l_59, y_59, z_59⟩, st_59⟩ := Jvm.LawKit.callS X_58 hx (y := (⟨"com/example/moat/moat/xpath/NamesIsNameStartPinLaw", "in", "(III)Z"⟩ : MethodName)) hown (mvT hZ (hw _ (List.mem_of_getElem? (i := 27) rfl))) (mvT hZ (hw _ (List.mem_of_getElem? (i := 28) rfl))) (mvT hZ (hw _ (List.mem_of_getElem? (i := 22) rfl))) (mvT hZ (hw _ (List.mem_of_getElem? (i := 29) rfl))) (by decide) (backOf (W := 0) (rm4 l Z a0 hw [] k (56192 : Int32) (63743 : Int32) h0 n0 Z0 ) hZ (hw _ (List.mem_of_getElem? (i := 29) rfl)) (hw _ (List.mem_of_getElem? (i := 22) rfl)) (by decide) (by decide)) (g := (mkF m 126 #[.val (.int k)] [(.int (63743 : Int32)), (.int (56192 : Int32)), (.int k)])) rfl (by rw [hml]; rfl) (argsL := [(.int k), (.int (56192 : Int32)), (.int (63743 : Int32))]) (rest := []) (lenOf pd_0 rfl) rfl (by show 2 * 0 + _ ≤ _; exact Nat.le_of_eq rfl) (hb hby d3_126) (fun _ _ => ⟨rfl, e_58, (by decide : 0 + 0 ≤ _), (by decide : 0 + 0 ≤ _)⟩)
                                  dsimp only [Pt.U, Pt.locs, Pt.cells, Pt.slots] at X_59 l_59 y_59 z_59 st_59 hQ_59
                                  obtain rfl : kc_59 = 0 := y_59
                                  obtain rfl : nc_59 = 0 := z_59
                                  obtain ⟨h_59, e_59⟩ : ∃ hh, T_59.heap = hh := ⟨_, rfl⟩
                                  rw [e_59] at hQ_59
                                  obtain ⟨rfl, N_59q, sm_59⟩ := hQ_59
                                  have N_59 : Fr n0 L_59 := by rw [l_59]; exact Fr.app N_58 N_59q
                                  refine Go.st st_59 ?_
                                  rw [sm_59] at e_59
                                  show Go p e below s _ _ _ T_59 (mkF m 129 #[.val (.int k)] [(.int (b2i (¬ (k < (56192 : Int32)) ∧ ¬ ((63743 : Int32) < k))))])
                                  rw [show (b2i (¬ (k < (56192 : Int32)) ∧ ¬ ((63743 : Int32) < k))) = (0 : Int32) from b2i_neg (fun q => q.1 (own_i1 hc_57 (by decide) : k < (56192 : Int32)))]
                                  show Go p e below s _ _ _ T_59 (mkF m 129 #[.val (.int k)] [(.int (0 : Int32))])
                                  refine Go.st (fun _ => XS.ifNo X_59.here hx rfl (hb hby d3_129) rfl ((if0 _ _).trans (teq (by decide : (0 : Int32) = (0 : Int32))).2)) ?_
                                  show Go p e below s _ _ _ T_59 (mkF m 132 #[.val (.int k)] [])
                                  refine Go.st (fun _ => XS.iloadN X_59.here hx rfl (hb hby d3_132) rfl) ?_
                                  show Go p e below s _ _ _ T_59 (mkF m 133 #[.val (.int k)] [(.int k)])
                                  refine Go.st (fun tG => X_59.ldcInt hx hown (mvT hZ (hw _ (List.mem_of_getElem? (i := 32) rfl))) (g := (mkF m 133 #[.val (.int k)] [(.int k)])) rfl (hb hby d3_133) tG) ?_
                                  show Go p e below s _ _ _ T_59 (mkF m 135 #[.val (.int k)] [(.int (64976 : Int32)), (.int k)])
                                  refine Go.st (fun tG => X_59.ldcInt hx hown (mvT hZ (hw _ (List.mem_of_getElem? (i := 33) rfl))) (g := (mkF m 135 #[.val (.int k)] [(.int (64976 : Int32)), (.int k)])) rfl (hb hby d3_135) tG) ?_
                                  show Go p e below s _ _ _ T_59 (mkF m 137 #[.val (.int k)] [(.int (65007 : Int32)), (.int (64976 : Int32)), (.int k)])
                                  obtain ⟨_, _, ⟨T_60, L_60, kc_60, nc_60⟩, -, X_60, ⟨Lc_60, hQ_60, l_60, y_60, z_60⟩, st_60⟩ := Jvm.LawKit.callS X_59 hx (y := (⟨"com/example/moat/moat/xpath/NamesIsNameStartPinLaw", "in", "(III)Z"⟩ : MethodName)) hown (mvT hZ (hw _ (List.mem_of_getElem? (i := 27) rfl))) (mvT hZ (hw _ (List.mem_of_getElem? (i := 28) rfl))) (mvT hZ (hw _ (List.mem_of_getElem? (i := 22) rfl))) (mvT hZ (hw _ (List.mem_of_getElem? (i := 29) rfl))) (by decide) (backOf (W := 0) (rm4 l Z a0 hw [] k (64976 : Int32) (65007 : Int32) h0 n0 Z0 ) hZ (hw _ (List.mem_of_getElem? (i := 29) rfl)) (hw _ (List.mem_of_getElem? (i := 22) rfl)) (by decide) (by decide)) (g := (mkF m 137 #[.val (.int k)] [(.int (65007 : Int32)), (.int (64976 : Int32)), (.int k)])) rfl (by rw [hml]; rfl) (argsL := [(.int k), (.int (64976 : Int32)), (.int (65007 : Int32))]) (rest := []) (lenOf pd_0 rfl) rfl (by show 2 * 0 + _ ≤ _; exact Nat.le_of_eq rfl) (hb hby d3_137) (fun _ _ => ⟨rfl, e_59, (by decide : 0 + 0 ≤ _), (by decide : 0 + 0 ≤ _)⟩)
                                  dsimp only [Pt.U, Pt.locs, Pt.cells, Pt.slots] at X_60 l_60 y_60 z_60 st_60 hQ_60
                                  obtain rfl : kc_60 = 0 := y_60
                                  obtain rfl : nc_60 = 0 := z_60
                                  obtain ⟨h_60, e_60⟩ : ∃ hh, T_60.heap = hh := ⟨_, rfl⟩
                                  rw [e_60] at hQ_60
                                  obtain ⟨rfl, N_60q, sm_60⟩ := hQ_60
                                  have N_60 : Fr n0 L_60 := by rw [l_60]; exact Fr.app N_59 N_60q
                                  refine Go.st st_60 ?_
                                  rw [sm_60] at e_60
                                  show Go p e below s _ _ _ T_60 (mkF m 140 #[.val (.int k)] [(.int (b2i (¬ (k < (64976 : Int32)) ∧ ¬ ((65007 : Int32) < k))))])
                                  rw [show (b2i (¬ (k < (64976 : Int32)) ∧ ¬ ((65007 : Int32) < k))) = (0 : Int32) from b2i_neg (fun q => q.1 (own_i1 hc_57 (by decide) : k < (64976 : Int32)))]
                                  show Go p e below s _ _ _ T_60 (mkF m 140 #[.val (.int k)] [(.int (0 : Int32))])
                                  refine Go.st (fun _ => XS.ifNo X_60.here hx rfl (hb hby d3_140) rfl ((if0 _ _).trans (teq (by decide : (0 : Int32) = (0 : Int32))).2)) ?_
                                  show Go p e below s _ _ _ T_60 (mkF m 143 #[.val (.int k)] [])
                                  refine Go.st (fun _ => XS.iloadN X_60.here hx rfl (hb hby d3_143) rfl) ?_
                                  show Go p e below s _ _ _ T_60 (mkF m 144 #[.val (.int k)] [(.int k)])
                                  refine Go.st (fun tG => X_60.ldcInt hx hown (mvT hZ (hw _ (List.mem_of_getElem? (i := 34) rfl))) (g := (mkF m 144 #[.val (.int k)] [(.int k)])) rfl (hb hby d3_144) tG) ?_
                                  show Go p e below s _ _ _ T_60 (mkF m 146 #[.val (.int k)] [(.int (65534 : Int32)), (.int k)])
                                  refine Go.st (fun tG => X_60.ldcInt hx hown (mvT hZ (hw _ (List.mem_of_getElem? (i := 35) rfl))) (g := (mkF m 146 #[.val (.int k)] [(.int (65534 : Int32)), (.int k)])) rfl (hb hby d3_146) tG) ?_
                                  show Go p e below s _ _ _ T_60 (mkF m 148 #[.val (.int k)] [(.int (65535 : Int32)), (.int (65534 : Int32)), (.int k)])
                                  obtain ⟨_, _, ⟨T_61, L_61, kc_61, nc_61⟩, -, X_61, ⟨Lc_61, hQ_61, l_61, y_61, z_61⟩, st_61⟩ := Jvm.LawKit.callS X_60 hx (y := (⟨"com/example/moat/moat/xpath/NamesIsNameStartPinLaw", "in", "(III)Z"⟩ : MethodName)) hown (mvT hZ (hw _ (List.mem_of_getElem? (i := 27) rfl))) (mvT hZ (hw _ (List.mem_of_getElem? (i := 28) rfl))) (mvT hZ (hw _ (List.mem_of_getElem? (i := 22) rfl))) (mvT hZ (hw _ (List.mem_of_getElem? (i := 29) rfl))) (by decide) (backOf (W := 0) (rm4 l Z a0 hw [] k (65534 : Int32) (65535 : Int32) h0 n0 Z0 ) hZ (hw _ (List.mem_of_getElem? (i := 29) rfl)) (hw _ (List.mem_of_getElem? (i := 22) rfl)) (by decide) (by decide)) (g := (mkF m 148 #[.val (.int k)] [(.int (65535 : Int32)), (.int (65534 : Int32)), (.int k)])) rfl (by rw [hml]; rfl) (argsL := [(.int k), (.int (65534 : Int32)), (.int (65535 : Int32))]) (rest := []) (lenOf pd_0 rfl) rfl (by show 2 * 0 + _ ≤ _; exact Nat.le_of_eq rfl) (hb hby d3_148) (fun _ _ => ⟨rfl, e_60, (by decide : 0 + 0 ≤ _), (by decide : 0 + 0 ≤ _)⟩)
                                  dsimp only [Pt.U, Pt.locs, Pt.cells, Pt.slots] at X_61 l_61 y_61 z_61 st_61 hQ_61
                                  obtain rfl : kc_61 = 0 := y_61
                                  obtain rfl : nc_61 = 0 := z_61
                                  obtain ⟨h_61, e_61⟩ : ∃ hh, T_61.heap = hh := ⟨_, rfl⟩
                                  rw [e_61] at hQ_61
                                  obtain ⟨rfl, N_61q, sm_61⟩ := hQ_61
                                  have N_61 : Fr n0 L_61 := by rw [l_61]; exact Fr.app N_60 N_61q
                                  refine Go.st st_61 ?_
                                  rw [sm_61] at e_61
                                  show Go p e below s _ _ _ T_61 (mkF m 151 #[.val (.int k)] [(.int (b2i (¬ (k < (65534 : Int32)) ∧ ¬ ((65535 : Int32) < k))))])
                                  rw [show (b2i (¬ (k < (65534 : Int32)) ∧ ¬ ((65535 : Int32) < k))) = (0 : Int32) from b2i_neg (fun q => q.1 (own_i1 hc_57 (by decide) : k < (65534 : Int32)))]
                                  show Go p e below s _ _ _ T_61 (mkF m 151 #[.val (.int k)] [(.int (0 : Int32))])
                                  refine Go.st (fun _ => XS.ifNo X_61.here hx rfl (hb hby d3_151) rfl ((if0 _ _).trans (teq (by decide : (0 : Int32) = (0 : Int32))).2)) ?_
                                  show Go p e below s _ _ _ T_61 (mkF m 154 #[.val (.int k)] [])
                                  refine Go.st (fun _ => XS.iloadN X_61.here hx rfl (hb hby d3_154) rfl) ?_
                                  show Go p e below s _ _ _ T_61 (mkF m 155 #[.val (.int k)] [(.int k)])
                                  refine Go.st (fun tG => X_61.ldcInt hx hown (mvT hZ (hw _ (List.mem_of_getElem? (i := 9) rfl))) (g := (mkF m 155 #[.val (.int k)] [(.int k)])) rfl (hb hby d3_155) tG) ?_
                                  show Go p e below s _ _ _ T_61 (mkF m 157 #[.val (.int k)] [(.int (983039 : Int32)), (.int k)])
                                  refine Go.st (fun _ => XS.icmpYes X_61.here hx rfl (pc0 := 157) (pc' := 164) rfl (hb hby d3_157) rfl (flt (own_j1 hc_57 (by decide) : ¬ ((983039 : Int32) < k))).2.2.2 (by decide) (by decide)) ?_
                                  show Go p e below s _ _ _ T_61 (mkF m 164 #[.val (.int k)] [])
                                  refine Go.st (fun _ => XS.iconst X_61.here hx rfl (hb hby d3_164)) ?_
                                  show Go p e below s _ _ _ T_61 (mkF m 165 #[.val (.int k)] [(.int (0 : Int32))])
                                  exact Go.retZ X_61 hx hlk Bd.returns (hb hby d3_165) rfl (by rw [e_61]; exact ⟨(own_b2i_f (by have := own_c4 hc_55 (by decide : (8303 : Int32).toInt = 8303); have := own_c1 hc_57 (by decide : (8592 : Int32).toInt = 8592); have := own_c6 hc_14 (by decide : (96 : Int32).toInt = 96); have := own_c6 hc_26 (by decide : (215 : Int32).toInt = 215); have := own_c6 hc_27 (by decide : (247 : Int32).toInt = 247); have := own_c6 hc_38 (by decide : (894 : Int32).toInt = 894); exact own_gap_f (by omega))), N_61, rfl⟩) (by decide) (by decide)
                                · by_cases hc_62 : (11263 : Int32) < k
                                  · rw [show (b2i (¬ (k < (8592 : Int32)) ∧ ¬ ((11263 : Int32) < k))) = (0 : Int32) from b2i_neg (fun q => q.2 hc_62)]
                                    show Go p e below s _ _ _ T_56 (mkF m 105 #[.val (.int k)] [(.int (0 : Int32))])
                                    refine Go.st (fun _ => XS.ifNo X_56.here hx rfl (hb hby d3_105) rfl ((if0 _ _).trans (teq (by decide : (0 : Int32) = (0 : Int32))).2)) ?_
                                    show Go p e below s _ _ _ T_56 (mkF m 108 #[.val (.int k)] [])
                                    refine Go.st (fun _ => XS.iloadN X_56.here hx rfl (hb hby d3_108) rfl) ?_
                                    show Go p e below s _ _ _ T_56 (mkF m 109 #[.val (.int k)] [(.int k)])
                                    refine Go.st (fun _ => XS.sipush X_56.here hx rfl (hb hby d3_109)) ?_
                                    show Go p e below s _ _ _ T_56 (mkF m 112 #[.val (.int k)] [(.int (12272 : Int32)), (.int k)])
                                    refine Go.st (fun _ => XS.sipush X_56.here hx rfl (hb hby d3_112)) ?_
                                    show Go p e below s _ _ _ T_56 (mkF m 115 #[.val (.int k)] [(.int (12288 : Int32)), (.int (12272 : Int32)), (.int k)])
                                    obtain ⟨_, _, ⟨T_63, L_63, kc_63, nc_63⟩, -, X_63, ⟨Lc_63, hQ_63, l_63, y_63, z_63⟩, st_63⟩ := Jvm.LawKit.callS X_56 hx (y := (⟨"com/example/moat/moat/xpath/NamesIsNameStartPinLaw", "in", "(III)Z"⟩ : MethodName)) hown (mvT hZ (hw _ (List.mem_of_getElem? (i := 27) rfl))) (mvT hZ (hw _ (List.mem_of_getElem? (i := 28) rfl))) (mvT hZ (hw _ (List.mem_of_getElem? (i := 22) rfl))) (mvT hZ (hw _ (List.mem_of_getElem? (i := 29) rfl))) (by decide) (backOf (W := 0) (rm4 l Z a0 hw [] k (12272 : Int32) (12288 : Int32) h0 n0 Z0 ) hZ (hw _ (List.mem_of_getElem? (i := 29) rfl)) (hw _ (List.mem_of_getElem? (i := 22) rfl)) (by decide) (by decide)) (g := (mkF m 115 #[.val (.int k)] [(.int (12288 : Int32)), (.int (12272 : Int32)), (.int k)])) rfl (by rw [hml]; rfl) (argsL := [(.int k), (.int (12272 : Int32)), (.int (12288 : Int32))]) (rest := []) (lenOf pd_0 rfl) rfl (by show 2 * 0 + _ ≤ _; exact Nat.le_of_eq rfl) (hb hby d3_115) (fun _ _ => ⟨rfl, e_56, (by decide : 0 + 0 ≤ _), (by decide : 0 + 0 ≤ _)⟩)
                                    dsimp only [Pt.U, Pt.locs, Pt.cells, Pt.slots] at X_63 l_63 y_63 z_63 st_63 hQ_63
                                    obtain rfl : kc_63 = 0 := y_63
                                    obtain rfl : nc_63 = 0 := z_63
                                    obtain ⟨h_63, e_63⟩ : ∃ hh, T_63.heap = hh := ⟨_, rfl⟩
                                    rw [e_63] at hQ_63
                                    obtain ⟨rfl, N_63q, sm_63⟩ := hQ_63
                                    have N_63 : Fr n0 L_63 := by rw [l_63]; exact Fr.app N_56 N_63q
                                    refine Go.st st_63 ?_
                                    rw [sm_63] at e_63
                                    show Go p e below s _ _ _ T_63 (mkF m 118 #[.val (.int k)] [(.int (b2i (¬ (k < (12272 : Int32)) ∧ ¬ ((12288 : Int32) < k))))])
                                    by_cases hc_64 : k < (12272 : Int32)
                                    · rw [show (b2i (¬ (k < (12272 : Int32)) ∧ ¬ ((12288 : Int32) < k))) = (0 : Int32) from b2i_neg (fun q => q.1 hc_64)]
                                      show Go p e below s _ _ _ T_63 (mkF m 118 #[.val (.int k)] [(.int (0 : Int32))])
                                      refine Go.st (fun _ => XS.ifNo X_63.here hx rfl (hb hby d3_118) rfl ((if0 _ _).trans (teq (by decide : (0 : Int32) = (0 : Int32))).2)) ?_
                                      show Go p e below s _ _ _ T_63 (mkF m 121 #[.val (.int k)] [])
                                      refine Go.st (fun _ => XS.iloadN X_63.here hx rfl (hb hby d3_121) rfl) ?_
                                      show Go p e below s _ _ _ T_63 (mkF m 122 #[.val (.int k)] [(.int k)])
                                      refine Go.st (fun tG => X_63.ldcInt hx hown (mvT hZ (hw _ (List.mem_of_getElem? (i := 30) rfl))) (g := (mkF m 122 #[.val (.int k)] [(.int k)])) rfl (hb hby d3_122) tG) ?_
                                      show Go p e below s _ _ _ T_63 (mkF m 124 #[.val (.int k)] [(.int (56192 : Int32)), (.int k)])
                                      refine Go.st (fun tG => X_63.ldcInt hx hown (mvT hZ (hw _ (List.mem_of_getElem? (i := 31) rfl))) (g := (mkF m 124 #[.val (.int k)] [(.int (56192 : Int32)), (.int k)])) rfl (hb hby d3_124) tG) ?_
                                      show Go p e below s _ _ _ T_63 (mkF m 126 #[.val (.int k)] [(.int (63743 : Int32)), (.int (56192 : Int32)), (.int k)])
                                      obtain ⟨_, _, ⟨T_65, L_65, kc_65, nc_65⟩, -, X_65, ⟨Lc_65, hQ_65, l_65, y_65, z_65⟩, st_65⟩ := Jvm.LawKit.callS X_63 hx (y := (⟨"com/example/moat/moat/xpath/NamesIsNameStartPinLaw", "in", "(III)Z"⟩ : MethodName)) hown (mvT hZ (hw _ (List.mem_of_getElem? (i := 27) rfl))) (mvT hZ (hw _ (List.mem_of_getElem? (i := 28) rfl))) (mvT hZ (hw _ (List.mem_of_getElem? (i := 22) rfl))) (mvT hZ (hw _ (List.mem_of_getElem? (i := 29) rfl))) (by decide) (backOf (W := 0) (rm4 l Z a0 hw [] k (56192 : Int32) (63743 : Int32) h0 n0 Z0 ) hZ (hw _ (List.mem_of_getElem? (i := 29) rfl)) (hw _ (List.mem_of_getElem? (i := 22) rfl)) (by decide) (by decide)) (g := (mkF m 126 #[.val (.int k)] [(.int (63743 : Int32)), (.int (56192 : Int32)), (.int k)])) rfl (by rw [hml]; rfl) (argsL := [(.int k), (.int (56192 : Int32)), (.int (63743 : Int32))]) (rest := []) (lenOf pd_0 rfl) rfl (by show 2 * 0 + _ ≤ _; exact Nat.le_of_eq rfl) (hb hby d3_126) (fun _ _ => ⟨rfl, e_63, (by decide : 0 + 0 ≤ _), (by decide : 0 + 0 ≤ _)⟩)
                                      dsimp only [Pt.U, Pt.locs, Pt.cells, Pt.slots] at X_65 l_65 y_65 z_65 st_65 hQ_65
                                      obtain rfl : kc_65 = 0 := y_65
                                      obtain rfl : nc_65 = 0 := z_65
                                      obtain ⟨h_65, e_65⟩ : ∃ hh, T_65.heap = hh := ⟨_, rfl⟩
                                      rw [e_65] at hQ_65
                                      obtain ⟨rfl, N_65q, sm_65⟩ := hQ_65
                                      have N_65 : Fr n0 L_65 := by rw [l_65]; exact Fr.app N_63 N_65q
                                      refine Go.st st_65 ?_
                                      rw [sm_65] at e_65
                                      show Go p e below s _ _ _ T_65 (mkF m 129 #[.val (.int k)] [(.int (b2i (¬ (k < (56192 : Int32)) ∧ ¬ ((63743 : Int32) < k))))])
                                      rw [show (b2i (¬ (k < (56192 : Int32)) ∧ ¬ ((63743 : Int32) < k))) = (0 : Int32) from b2i_neg (fun q => q.1 (own_i1 hc_64 (by decide) : k < (56192 : Int32)))]
                                      show Go p e below s _ _ _ T_65 (mkF m 129 #[.val (.int k)] [(.int (0 : Int32))])
                                      refine Go.st (fun _ => XS.ifNo X_65.here hx rfl (hb hby d3_129) rfl ((if0 _ _).trans (teq (by decide : (0 : Int32) = (0 : Int32))).2)) ?_
                                      show Go p e below s _ _ _ T_65 (mkF m 132 #[.val (.int k)] [])
                                      refine Go.st (fun _ => XS.iloadN X_65.here hx rfl (hb hby d3_132) rfl) ?_
                                      show Go p e below s _ _ _ T_65 (mkF m 133 #[.val (.int k)] [(.int k)])
                                      refine Go.st (fun tG => X_65.ldcInt hx hown (mvT hZ (hw _ (List.mem_of_getElem? (i := 32) rfl))) (g := (mkF m 133 #[.val (.int k)] [(.int k)])) rfl (hb hby d3_133) tG) ?_
                                      show Go p e below s _ _ _ T_65 (mkF m 135 #[.val (.int k)] [(.int (64976 : Int32)), (.int k)])
                                      refine Go.st (fun tG => X_65.ldcInt hx hown (mvT hZ (hw _ (List.mem_of_getElem? (i := 33) rfl))) (g := (mkF m 135 #[.val (.int k)] [(.int (64976 : Int32)), (.int k)])) rfl (hb hby d3_135) tG) ?_
                                      show Go p e below s _ _ _ T_65 (mkF m 137 #[.val (.int k)] [(.int (65007 : Int32)), (.int (64976 : Int32)), (.int k)])
                                      obtain ⟨_, _, ⟨T_66, L_66, kc_66, nc_66⟩, -, X_66, ⟨Lc_66, hQ_66, l_66, y_66, z_66⟩, st_66⟩ := Jvm.LawKit.callS X_65 hx (y := (⟨"com/example/moat/moat/xpath/NamesIsNameStartPinLaw", "in", "(III)Z"⟩ : MethodName)) hown (mvT hZ (hw _ (List.mem_of_getElem? (i := 27) rfl))) (mvT hZ (hw _ (List.mem_of_getElem? (i := 28) rfl))) (mvT hZ (hw _ (List.mem_of_getElem? (i := 22) rfl))) (mvT hZ (hw _ (List.mem_of_getElem? (i := 29) rfl))) (by decide) (backOf (W := 0) (rm4 l Z a0 hw [] k (64976 : Int32) (65007 : Int32) h0 n0 Z0 ) hZ (hw _ (List.mem_of_getElem? (i := 29) rfl)) (hw _ (List.mem_of_getElem? (i := 22) rfl)) (by decide) (by decide)) (g := (mkF m 137 #[.val (.int k)] [(.int (65007 : Int32)), (.int (64976 : Int32)), (.int k)])) rfl (by rw [hml]; rfl) (argsL := [(.int k), (.int (64976 : Int32)), (.int (65007 : Int32))]) (rest := []) (lenOf pd_0 rfl) rfl (by show 2 * 0 + _ ≤ _; exact Nat.le_of_eq rfl) (hb hby d3_137) (fun _ _ => ⟨rfl, e_65, (by decide : 0 + 0 ≤ _), (by decide : 0 + 0 ≤ _)⟩)
                                      dsimp only [Pt.U, Pt.locs, Pt.cells, Pt.slots] at X_66 l_66 y_66 z_66 st_66 hQ_66
                                      obtain rfl : kc_66 = 0 := y_66
                                      obtain rfl : nc_66 = 0 := z_66
                                      obtain ⟨h_66, e_66⟩ : ∃ hh, T_66.heap = hh := ⟨_, rfl⟩
                                      rw [e_66] at hQ_66
                                      obtain ⟨rfl, N_66q, sm_66⟩ := hQ_66
                                      have N_66 : Fr n0 L_66 := by rw [l_66]; exact Fr.app N_65 N_66q
                                      refine Go.st st_66 ?_
                                      rw [sm_66] at e_66
                                      show Go p e below s _ _ _ T_66 (mkF m 140 #[.val (.int k)] [(.int (b2i (¬ (k < (64976 : Int32)) ∧ ¬ ((65007 : Int32) < k))))])
                                      rw [show (b2i (¬ (k < (64976 : Int32)) ∧ ¬ ((65007 : Int32) < k))) = (0 : Int32) from b2i_neg (fun q => q.1 (own_i1 hc_64 (by decide) : k < (64976 : Int32)))]
                                      show Go p e below s _ _ _ T_66 (mkF m 140 #[.val (.int k)] [(.int (0 : Int32))])
                                      refine Go.st (fun _ => XS.ifNo X_66.here hx rfl (hb hby d3_140) rfl ((if0 _ _).trans (teq (by decide : (0 : Int32) = (0 : Int32))).2)) ?_
                                      show Go p e below s _ _ _ T_66 (mkF m 143 #[.val (.int k)] [])
                                      refine Go.st (fun _ => XS.iloadN X_66.here hx rfl (hb hby d3_143) rfl) ?_
                                      show Go p e below s _ _ _ T_66 (mkF m 144 #[.val (.int k)] [(.int k)])
                                      refine Go.st (fun tG => X_66.ldcInt hx hown (mvT hZ (hw _ (List.mem_of_getElem? (i := 34) rfl))) (g := (mkF m 144 #[.val (.int k)] [(.int k)])) rfl (hb hby d3_144) tG) ?_
                                      show Go p e below s _ _ _ T_66 (mkF m 146 #[.val (.int k)] [(.int (65534 : Int32)), (.int k)])
                                      refine Go.st (fun tG => X_66.ldcInt hx hown (mvT hZ (hw _ (List.mem_of_getElem? (i := 35) rfl))) (g := (mkF m 146 #[.val (.int k)] [(.int (65534 : Int32)), (.int k)])) rfl (hb hby d3_146) tG) ?_
                                      show Go p e below s _ _ _ T_66 (mkF m 148 #[.val (.int k)] [(.int (65535 : Int32)), (.int (65534 : Int32)), (.int k)])
                                      obtain ⟨_, _, ⟨T_67, L_67, kc_67, nc_67⟩, -, X_67, ⟨Lc_67, hQ_67, l_67, y_67, z_67⟩, st_67⟩ := Jvm.LawKit.callS X_66 hx (y := (⟨"com/example/moat/moat/xpath/NamesIsNameStartPinLaw", "in", "(III)Z"⟩ : MethodName)) hown (mvT hZ (hw _ (List.mem_of_getElem? (i := 27) rfl))) (mvT hZ (hw _ (List.mem_of_getElem? (i := 28) rfl))) (mvT hZ (hw _ (List.mem_of_getElem? (i := 22) rfl))) (mvT hZ (hw _ (List.mem_of_getElem? (i := 29) rfl))) (by decide) (backOf (W := 0) (rm4 l Z a0 hw [] k (65534 : Int32) (65535 : Int32) h0 n0 Z0 ) hZ (hw _ (List.mem_of_getElem? (i := 29) rfl)) (hw _ (List.mem_of_getElem? (i := 22) rfl)) (by decide) (by decide)) (g := (mkF m 148 #[.val (.int k)] [(.int (65535 : Int32)), (.int (65534 : Int32)), (.int k)])) rfl (by rw [hml]; rfl) (argsL := [(.int k), (.int (65534 : Int32)), (.int (65535 : Int32))]) (rest := []) (lenOf pd_0 rfl) rfl (by show 2 * 0 + _ ≤ _; exact Nat.le_of_eq rfl) (hb hby d3_148) (fun _ _ => ⟨rfl, e_66, (by decide : 0 + 0 ≤ _), (by decide : 0 + 0 ≤ _)⟩)
                                      dsimp only [Pt.U, Pt.locs, Pt.cells, Pt.slots] at X_67 l_67 y_67 z_67 st_67 hQ_67
                                      obtain rfl : kc_67 = 0 := y_67
                                      obtain rfl : nc_67 = 0 := z_67
                                      obtain ⟨h_67, e_67⟩ : ∃ hh, T_67.heap = hh := ⟨_, rfl⟩
                                      rw [e_67] at hQ_67
                                      obtain ⟨rfl, N_67q, sm_67⟩ := hQ_67
                                      have N_67 : Fr n0 L_67 := by rw [l_67]; exact Fr.app N_66 N_67q
                                      refine Go.st st_67 ?_
                                      rw [sm_67] at e_67
                                      show Go p e below s _ _ _ T_67 (mkF m 151 #[.val (.int k)] [(.int (b2i (¬ (k < (65534 : Int32)) ∧ ¬ ((65535 : Int32) < k))))])
                                      rw [show (b2i (¬ (k < (65534 : Int32)) ∧ ¬ ((65535 : Int32) < k))) = (0 : Int32) from b2i_neg (fun q => q.1 (own_i1 hc_64 (by decide) : k < (65534 : Int32)))]
                                      show Go p e below s _ _ _ T_67 (mkF m 151 #[.val (.int k)] [(.int (0 : Int32))])
                                      refine Go.st (fun _ => XS.ifNo X_67.here hx rfl (hb hby d3_151) rfl ((if0 _ _).trans (teq (by decide : (0 : Int32) = (0 : Int32))).2)) ?_
                                      show Go p e below s _ _ _ T_67 (mkF m 154 #[.val (.int k)] [])
                                      refine Go.st (fun _ => XS.iloadN X_67.here hx rfl (hb hby d3_154) rfl) ?_
                                      show Go p e below s _ _ _ T_67 (mkF m 155 #[.val (.int k)] [(.int k)])
                                      refine Go.st (fun tG => X_67.ldcInt hx hown (mvT hZ (hw _ (List.mem_of_getElem? (i := 9) rfl))) (g := (mkF m 155 #[.val (.int k)] [(.int k)])) rfl (hb hby d3_155) tG) ?_
                                      show Go p e below s _ _ _ T_67 (mkF m 157 #[.val (.int k)] [(.int (983039 : Int32)), (.int k)])
                                      refine Go.st (fun _ => XS.icmpYes X_67.here hx rfl (pc0 := 157) (pc' := 164) rfl (hb hby d3_157) rfl (flt (own_j1 hc_64 (by decide) : ¬ ((983039 : Int32) < k))).2.2.2 (by decide) (by decide)) ?_
                                      show Go p e below s _ _ _ T_67 (mkF m 164 #[.val (.int k)] [])
                                      refine Go.st (fun _ => XS.iconst X_67.here hx rfl (hb hby d3_164)) ?_
                                      show Go p e below s _ _ _ T_67 (mkF m 165 #[.val (.int k)] [(.int (0 : Int32))])
                                      exact Go.retZ X_67 hx hlk Bd.returns (hb hby d3_165) rfl (by rw [e_67]; exact ⟨(own_b2i_f (by have := own_c4 hc_62 (by decide : (11263 : Int32).toInt = 11263); have := own_c1 hc_64 (by decide : (12272 : Int32).toInt = 12272); have := own_c6 hc_14 (by decide : (96 : Int32).toInt = 96); have := own_c6 hc_26 (by decide : (215 : Int32).toInt = 215); have := own_c6 hc_27 (by decide : (247 : Int32).toInt = 247); have := own_c6 hc_38 (by decide : (894 : Int32).toInt = 894); exact own_gap_f (by omega))), N_67, rfl⟩) (by decide) (by decide)
                                    · by_cases hc_68 : (12288 : Int32) < k
                                      · rw [show (b2i (¬ (k < (12272 : Int32)) ∧ ¬ ((12288 : Int32) < k))) = (0 : Int32) from b2i_neg (fun q => q.2 hc_68)]
                                        show Go p e below s _ _ _ T_63 (mkF m 118 #[.val (.int k)] [(.int (0 : Int32))])
                                        refine Go.st (fun _ => XS.ifNo X_63.here hx rfl (hb hby d3_118) rfl ((if0 _ _).trans (teq (by decide : (0 : Int32) = (0 : Int32))).2)) ?_
                                        show Go p e below s _ _ _ T_63 (mkF m 121 #[.val (.int k)] [])
                                        refine Go.st (fun _ => XS.iloadN X_63.here hx rfl (hb hby d3_121) rfl) ?_
                                        show Go p e below s _ _ _ T_63 (mkF m 122 #[.val (.int k)] [(.int k)])
                                        refine Go.st (fun tG => X_63.ldcInt hx hown (mvT hZ (hw _ (List.mem_of_getElem? (i := 30) rfl))) (g := (mkF m 122 #[.val (.int k)] [(.int k)])) rfl (hb hby d3_122) tG) ?_
                                        show Go p e below s _ _ _ T_63 (mkF m 124 #[.val (.int k)] [(.int (56192 : Int32)), (.int k)])
                                        refine Go.st (fun tG => X_63.ldcInt hx hown (mvT hZ (hw _ (List.mem_of_getElem? (i := 31) rfl))) (g := (mkF m 124 #[.val (.int k)] [(.int (56192 : Int32)), (.int k)])) rfl (hb hby d3_124) tG) ?_
                                        show Go p e below s _ _ _ T_63 (mkF m 126 #[.val (.int k)] [(.int (63743 : Int32)), (.int (56192 : Int32)), (.int k)])
                                        obtain ⟨_, _, ⟨T_69, L_69, kc_69, nc_69⟩, -, X_69, ⟨Lc_69, hQ_69, l_69, y_69, z_69⟩, st_69⟩ := Jvm.LawKit.callS X_63 hx (y := (⟨"com/example/moat/moat/xpath/NamesIsNameStartPinLaw", "in", "(III)Z"⟩ : MethodName)) hown (mvT hZ (hw _ (List.mem_of_getElem? (i := 27) rfl))) (mvT hZ (hw _ (List.mem_of_getElem? (i := 28) rfl))) (mvT hZ (hw _ (List.mem_of_getElem? (i := 22) rfl))) (mvT hZ (hw _ (List.mem_of_getElem? (i := 29) rfl))) (by decide) (backOf (W := 0) (rm4 l Z a0 hw [] k (56192 : Int32) (63743 : Int32) h0 n0 Z0 ) hZ (hw _ (List.mem_of_getElem? (i := 29) rfl)) (hw _ (List.mem_of_getElem? (i := 22) rfl)) (by decide) (by decide)) (g := (mkF m 126 #[.val (.int k)] [(.int (63743 : Int32)), (.int (56192 : Int32)), (.int k)])) rfl (by rw [hml]; rfl) (argsL := [(.int k), (.int (56192 : Int32)), (.int (63743 : Int32))]) (rest := []) (lenOf pd_0 rfl) rfl (by show 2 * 0 + _ ≤ _; exact Nat.le_of_eq rfl) (hb hby d3_126) (fun _ _ => ⟨rfl, e_63, (by decide : 0 + 0 ≤ _), (by decide : 0 + 0 ≤ _)⟩)
                                        dsimp only [Pt.U, Pt.locs, Pt.cells, Pt.slots] at X_69 l_69 y_69 z_69 st_69 hQ_69
                                        obtain rfl : kc_69 = 0 := y_69
                                        obtain rfl : nc_69 = 0 := z_69
                                        obtain ⟨h_69, e_69⟩ : ∃ hh, T_69.heap = hh := ⟨_, rfl⟩
                                        rw [e_69] at hQ_69
                                        obtain ⟨rfl, N_69q, sm_69⟩ := hQ_69
                                        have N_69 : Fr n0 L_69 := by rw [l_69]; exact Fr.app N_63 N_69q
                                        refine Go.st st_69 ?_
                                        rw [sm_69] at e_69
                                        show Go p e below s _ _ _ T_69 (mkF m 129 #[.val (.int k)] [(.int (b2i (¬ (k < (56192 : Int32)) ∧ ¬ ((63743 : Int32) < k))))])
                                        by_cases hc_70 : k < (56192 : Int32)
                                        · rw [show (b2i (¬ (k < (56192 : Int32)) ∧ ¬ ((63743 : Int32) < k))) = (0 : Int32) from b2i_neg (fun q => q.1 hc_70)]
                                          show Go p e below s _ _ _ T_69 (mkF m 129 #[.val (.int k)] [(.int (0 : Int32))])
                                          refine Go.st (fun _ => XS.ifNo X_69.here hx rfl (hb hby d3_129) rfl ((if0 _ _).trans (teq (by decide : (0 : Int32) = (0 : Int32))).2)) ?_
                                          show Go p e below s _ _ _ T_69 (mkF m 132 #[.val (.int k)] [])
                                          refine Go.st (fun _ => XS.iloadN X_69.here hx rfl (hb hby d3_132) rfl) ?_
                                          show Go p e below s _ _ _ T_69 (mkF m 133 #[.val (.int k)] [(.int k)])
                                          refine Go.st (fun tG => X_69.ldcInt hx hown (mvT hZ (hw _ (List.mem_of_getElem? (i := 32) rfl))) (g := (mkF m 133 #[.val (.int k)] [(.int k)])) rfl (hb hby d3_133) tG) ?_
                                          show Go p e below s _ _ _ T_69 (mkF m 135 #[.val (.int k)] [(.int (64976 : Int32)), (.int k)])
                                          refine Go.st (fun tG => X_69.ldcInt hx hown (mvT hZ (hw _ (List.mem_of_getElem? (i := 33) rfl))) (g := (mkF m 135 #[.val (.int k)] [(.int (64976 : Int32)), (.int k)])) rfl (hb hby d3_135) tG) ?_
                                          show Go p e below s _ _ _ T_69 (mkF m 137 #[.val (.int k)] [(.int (65007 : Int32)), (.int (64976 : Int32)), (.int k)])
                                          obtain ⟨_, _, ⟨T_71, L_71, kc_71, nc_71⟩, -, X_71, ⟨Lc_71, hQ_71, l_71, y_71, z_71⟩, st_71⟩ := Jvm.LawKit.callS X_69 hx (y := (⟨"com/example/moat/moat/xpath/NamesIsNameStartPinLaw", "in", "(III)Z"⟩ : MethodName)) hown (mvT hZ (hw _ (List.mem_of_getElem? (i := 27) rfl))) (mvT hZ (hw _ (List.mem_of_getElem? (i := 28) rfl))) (mvT hZ (hw _ (List.mem_of_getElem? (i := 22) rfl))) (mvT hZ (hw _ (List.mem_of_getElem? (i := 29) rfl))) (by decide) (backOf (W := 0) (rm4 l Z a0 hw [] k (64976 : Int32) (65007 : Int32) h0 n0 Z0 ) hZ (hw _ (List.mem_of_getElem? (i := 29) rfl)) (hw _ (List.mem_of_getElem? (i := 22) rfl)) (by decide) (by decide)) (g := (mkF m 137 #[.val (.int k)] [(.int (65007 : Int32)), (.int (64976 : Int32)), (.int k)])) rfl (by rw [hml]; rfl) (argsL := [(.int k), (.int (64976 : Int32)), (.int (65007 : Int32))]) (rest := []) (lenOf pd_0 rfl) rfl (by show 2 * 0 + _ ≤ _; exact Nat.le_of_eq rfl) (hb hby d3_137) (fun _ _ => ⟨rfl, e_69, (by decide : 0 + 0 ≤ _), (by decide : 0 + 0 ≤ _)⟩)
                                          dsimp only [Pt.U, Pt.locs, Pt.cells, Pt.slots] at X_71 l_71 y_71 z_71 st_71 hQ_71
                                          obtain rfl : kc_71 = 0 := y_71
                                          obtain rfl : nc_71 = 0 := z_71
                                          obtain ⟨h_71, e_71⟩ : ∃ hh, T_71.heap = hh := ⟨_, rfl⟩
                                          rw [e_71] at hQ_71
                                          obtain ⟨rfl, N_71q, sm_71⟩ := hQ_71
                                          have N_71 : Fr n0 L_71 := by rw [l_71]; exact Fr.app N_69 N_71q
                                          refine Go.st st_71 ?_
                                          rw [sm_71] at e_71
                                          show Go p e below s _ _ _ T_71 (mkF m 140 #[.val (.int k)] [(.int (b2i (¬ (k < (64976 : Int32)) ∧ ¬ ((65007 : Int32) < k))))])
                                          rw [show (b2i (¬ (k < (64976 : Int32)) ∧ ¬ ((65007 : Int32) < k))) = (0 : Int32) from b2i_neg (fun q => q.1 (own_i1 hc_70 (by decide) : k < (64976 : Int32)))]
                                          show Go p e below s _ _ _ T_71 (mkF m 140 #[.val (.int k)] [(.int (0 : Int32))])
                                          refine Go.st (fun _ => XS.ifNo X_71.here hx rfl (hb hby d3_140) rfl ((if0 _ _).trans (teq (by decide : (0 : Int32) = (0 : Int32))).2)) ?_
                                          show Go p e below s _ _ _ T_71 (mkF m 143 #[.val (.int k)] [])
                                          refine Go.st (fun _ => XS.iloadN X_71.here hx rfl (hb hby d3_143) rfl) ?_
                                          show Go p e below s _ _ _ T_71 (mkF m 144 #[.val (.int k)] [(.int k)])
                                          refine Go.st (fun tG => X_71.ldcInt hx hown (mvT hZ (hw _ (List.mem_of_getElem? (i := 34) rfl))) (g := (mkF m 144 #[.val (.int k)] [(.int k)])) rfl (hb hby d3_144) tG) ?_
                                          show Go p e below s _ _ _ T_71 (mkF m 146 #[.val (.int k)] [(.int (65534 : Int32)), (.int k)])
                                          refine Go.st (fun tG => X_71.ldcInt hx hown (mvT hZ (hw _ (List.mem_of_getElem? (i := 35) rfl))) (g := (mkF m 146 #[.val (.int k)] [(.int (65534 : Int32)), (.int k)])) rfl (hb hby d3_146) tG) ?_
                                          show Go p e below s _ _ _ T_71 (mkF m 148 #[.val (.int k)] [(.int (65535 : Int32)), (.int (65534 : Int32)), (.int k)])
                                          obtain ⟨_, _, ⟨T_72, L_72, kc_72, nc_72⟩, -, X_72, ⟨Lc_72, hQ_72, l_72, y_72, z_72⟩, st_72⟩ := Jvm.LawKit.callS X_71 hx (y := (⟨"com/example/moat/moat/xpath/NamesIsNameStartPinLaw", "in", "(III)Z"⟩ : MethodName)) hown (mvT hZ (hw _ (List.mem_of_getElem? (i := 27) rfl))) (mvT hZ (hw _ (List.mem_of_getElem? (i := 28) rfl))) (mvT hZ (hw _ (List.mem_of_getElem? (i := 22) rfl))) (mvT hZ (hw _ (List.mem_of_getElem? (i := 29) rfl))) (by decide) (backOf (W := 0) (rm4 l Z a0 hw [] k (65534 : Int32) (65535 : Int32) h0 n0 Z0 ) hZ (hw _ (List.mem_of_getElem? (i := 29) rfl)) (hw _ (List.mem_of_getElem? (i := 22) rfl)) (by decide) (by decide)) (g := (mkF m 148 #[.val (.int k)] [(.int (65535 : Int32)), (.int (65534 : Int32)), (.int k)])) rfl (by rw [hml]; rfl) (argsL := [(.int k), (.int (65534 : Int32)), (.int (65535 : Int32))]) (rest := []) (lenOf pd_0 rfl) rfl (by show 2 * 0 + _ ≤ _; exact Nat.le_of_eq rfl) (hb hby d3_148) (fun _ _ => ⟨rfl, e_71, (by decide : 0 + 0 ≤ _), (by decide : 0 + 0 ≤ _)⟩)
                                          dsimp only [Pt.U, Pt.locs, Pt.cells, Pt.slots] at X_72 l_72 y_72 z_72 st_72 hQ_72
                                          obtain rfl : kc_72 = 0 := y_72
                                          obtain rfl : nc_72 = 0 := z_72
                                          obtain ⟨h_72, e_72⟩ : ∃ hh, T_72.heap = hh := ⟨_, rfl⟩
                                          rw [e_72] at hQ_72
                                          obtain ⟨rfl, N_72q, sm_72⟩ := hQ_72
                                          have N_72 : Fr n0 L_72 := by rw [l_72]; exact Fr.app N_71 N_72q
                                          refine Go.st st_72 ?_
                                          rw [sm_72] at e_72
                                          show Go p e below s _ _ _ T_72 (mkF m 151 #[.val (.int k)] [(.int (b2i (¬ (k < (65534 : Int32)) ∧ ¬ ((65535 : Int32) < k))))])
                                          rw [show (b2i (¬ (k < (65534 : Int32)) ∧ ¬ ((65535 : Int32) < k))) = (0 : Int32) from b2i_neg (fun q => q.1 (own_i1 hc_70 (by decide) : k < (65534 : Int32)))]
                                          show Go p e below s _ _ _ T_72 (mkF m 151 #[.val (.int k)] [(.int (0 : Int32))])
                                          refine Go.st (fun _ => XS.ifNo X_72.here hx rfl (hb hby d3_151) rfl ((if0 _ _).trans (teq (by decide : (0 : Int32) = (0 : Int32))).2)) ?_
                                          show Go p e below s _ _ _ T_72 (mkF m 154 #[.val (.int k)] [])
                                          refine Go.st (fun _ => XS.iloadN X_72.here hx rfl (hb hby d3_154) rfl) ?_
                                          show Go p e below s _ _ _ T_72 (mkF m 155 #[.val (.int k)] [(.int k)])
                                          refine Go.st (fun tG => X_72.ldcInt hx hown (mvT hZ (hw _ (List.mem_of_getElem? (i := 9) rfl))) (g := (mkF m 155 #[.val (.int k)] [(.int k)])) rfl (hb hby d3_155) tG) ?_
                                          show Go p e below s _ _ _ T_72 (mkF m 157 #[.val (.int k)] [(.int (983039 : Int32)), (.int k)])
                                          refine Go.st (fun _ => XS.icmpYes X_72.here hx rfl (pc0 := 157) (pc' := 164) rfl (hb hby d3_157) rfl (flt (own_j1 hc_70 (by decide) : ¬ ((983039 : Int32) < k))).2.2.2 (by decide) (by decide)) ?_
                                          show Go p e below s _ _ _ T_72 (mkF m 164 #[.val (.int k)] [])
                                          refine Go.st (fun _ => XS.iconst X_72.here hx rfl (hb hby d3_164)) ?_
                                          show Go p e below s _ _ _ T_72 (mkF m 165 #[.val (.int k)] [(.int (0 : Int32))])
                                          exact Go.retZ X_72 hx hlk Bd.returns (hb hby d3_165) rfl (by rw [e_72]; exact ⟨(own_b2i_f (by have := own_c4 hc_68 (by decide : (12288 : Int32).toInt = 12288); have := own_c1 hc_70 (by decide : (56192 : Int32).toInt = 56192); have := own_c6 hc_14 (by decide : (96 : Int32).toInt = 96); have := own_c6 hc_26 (by decide : (215 : Int32).toInt = 215); have := own_c6 hc_27 (by decide : (247 : Int32).toInt = 247); have := own_c6 hc_38 (by decide : (894 : Int32).toInt = 894); exact own_gap_f (by omega))), N_72, rfl⟩) (by decide) (by decide)
                                        · by_cases hc_73 : (63743 : Int32) < k
                                          · rw [show (b2i (¬ (k < (56192 : Int32)) ∧ ¬ ((63743 : Int32) < k))) = (0 : Int32) from b2i_neg (fun q => q.2 hc_73)]
                                            show Go p e below s _ _ _ T_69 (mkF m 129 #[.val (.int k)] [(.int (0 : Int32))])
                                            refine Go.st (fun _ => XS.ifNo X_69.here hx rfl (hb hby d3_129) rfl ((if0 _ _).trans (teq (by decide : (0 : Int32) = (0 : Int32))).2)) ?_
                                            show Go p e below s _ _ _ T_69 (mkF m 132 #[.val (.int k)] [])
                                            refine Go.st (fun _ => XS.iloadN X_69.here hx rfl (hb hby d3_132) rfl) ?_
                                            show Go p e below s _ _ _ T_69 (mkF m 133 #[.val (.int k)] [(.int k)])
                                            refine Go.st (fun tG => X_69.ldcInt hx hown (mvT hZ (hw _ (List.mem_of_getElem? (i := 32) rfl))) (g := (mkF m 133 #[.val (.int k)] [(.int k)])) rfl (hb hby d3_133) tG) ?_
                                            show Go p e below s _ _ _ T_69 (mkF m 135 #[.val (.int k)] [(.int (64976 : Int32)), (.int k)])
                                            refine Go.st (fun tG => X_69.ldcInt hx hown (mvT hZ (hw _ (List.mem_of_getElem? (i := 33) rfl))) (g := (mkF m 135 #[.val (.int k)] [(.int (64976 : Int32)), (.int k)])) rfl (hb hby d3_135) tG) ?_
                                            show Go p e below s _ _ _ T_69 (mkF m 137 #[.val (.int k)] [(.int (65007 : Int32)), (.int (64976 : Int32)), (.int k)])
                                            obtain ⟨_, _, ⟨T_74, L_74, kc_74, nc_74⟩, -, X_74, ⟨Lc_74, hQ_74, l_74, y_74, z_74⟩, st_74⟩ := Jvm.LawKit.callS X_69 hx (y := (⟨"com/example/moat/moat/xpath/NamesIsNameStartPinLaw", "in", "(III)Z"⟩ : MethodName)) hown (mvT hZ (hw _ (List.mem_of_getElem? (i := 27) rfl))) (mvT hZ (hw _ (List.mem_of_getElem? (i := 28) rfl))) (mvT hZ (hw _ (List.mem_of_getElem? (i := 22) rfl))) (mvT hZ (hw _ (List.mem_of_getElem? (i := 29) rfl))) (by decide) (backOf (W := 0) (rm4 l Z a0 hw [] k (64976 : Int32) (65007 : Int32) h0 n0 Z0 ) hZ (hw _ (List.mem_of_getElem? (i := 29) rfl)) (hw _ (List.mem_of_getElem? (i := 22) rfl)) (by decide) (by decide)) (g := (mkF m 137 #[.val (.int k)] [(.int (65007 : Int32)), (.int (64976 : Int32)), (.int k)])) rfl (by rw [hml]; rfl) (argsL := [(.int k), (.int (64976 : Int32)), (.int (65007 : Int32))]) (rest := []) (lenOf pd_0 rfl) rfl (by show 2 * 0 + _ ≤ _; exact Nat.le_of_eq rfl) (hb hby d3_137) (fun _ _ => ⟨rfl, e_69, (by decide : 0 + 0 ≤ _), (by decide : 0 + 0 ≤ _)⟩)
                                            dsimp only [Pt.U, Pt.locs, Pt.cells, Pt.slots] at X_74 l_74 y_74 z_74 st_74 hQ_74
                                            obtain rfl : kc_74 = 0 := y_74
                                            obtain rfl : nc_74 = 0 := z_74
                                            obtain ⟨h_74, e_74⟩ : ∃ hh, T_74.heap = hh := ⟨_, rfl⟩
                                            rw [e_74] at hQ_74
                                            obtain ⟨rfl, N_74q, sm_74⟩ := hQ_74
                                            have N_74 : Fr n0 L_74 := by rw [l_74]; exact Fr.app N_69 N_74q
                                            refine Go.st st_74 ?_
                                            rw [sm_74] at e_74
                                            show Go p e below s _ _ _ T_74 (mkF m 140 #[.val (.int k)] [(.int (b2i (¬ (k < (64976 : Int32)) ∧ ¬ ((65007 : Int32) < k))))])
                                            by_cases hc_75 : k < (64976 : Int32)
                                            · rw [show (b2i (¬ (k < (64976 : Int32)) ∧ ¬ ((65007 : Int32) < k))) = (0 : Int32) from b2i_neg (fun q => q.1 hc_75)]
                                              show Go p e below s _ _ _ T_74 (mkF m 140 #[.val (.int k)] [(.int (0 : Int32))])
                                              refine Go.st (fun _ => XS.ifNo X_74.here hx rfl (hb hby d3_140) rfl ((if0 _ _).trans (teq (by decide : (0 : Int32) = (0 : Int32))).2)) ?_
                                              show Go p e below s _ _ _ T_74 (mkF m 143 #[.val (.int k)] [])
                                              refine Go.st (fun _ => XS.iloadN X_74.here hx rfl (hb hby d3_143) rfl) ?_
                                              show Go p e below s _ _ _ T_74 (mkF m 144 #[.val (.int k)] [(.int k)])
                                              refine Go.st (fun tG => X_74.ldcInt hx hown (mvT hZ (hw _ (List.mem_of_getElem? (i := 34) rfl))) (g := (mkF m 144 #[.val (.int k)] [(.int k)])) rfl (hb hby d3_144) tG) ?_
                                              show Go p e below s _ _ _ T_74 (mkF m 146 #[.val (.int k)] [(.int (65534 : Int32)), (.int k)])
                                              refine Go.st (fun tG => X_74.ldcInt hx hown (mvT hZ (hw _ (List.mem_of_getElem? (i := 35) rfl))) (g := (mkF m 146 #[.val (.int k)] [(.int (65534 : Int32)), (.int k)])) rfl (hb hby d3_146) tG) ?_
                                              show Go p e below s _ _ _ T_74 (mkF m 148 #[.val (.int k)] [(.int (65535 : Int32)), (.int (65534 : Int32)), (.int k)])
                                              obtain ⟨_, _, ⟨T_76, L_76, kc_76, nc_76⟩, -, X_76, ⟨Lc_76, hQ_76, l_76, y_76, z_76⟩, st_76⟩ := Jvm.LawKit.callS X_74 hx (y := (⟨"com/example/moat/moat/xpath/NamesIsNameStartPinLaw", "in", "(III)Z"⟩ : MethodName)) hown (mvT hZ (hw _ (List.mem_of_getElem? (i := 27) rfl))) (mvT hZ (hw _ (List.mem_of_getElem? (i := 28) rfl))) (mvT hZ (hw _ (List.mem_of_getElem? (i := 22) rfl))) (mvT hZ (hw _ (List.mem_of_getElem? (i := 29) rfl))) (by decide) (backOf (W := 0) (rm4 l Z a0 hw [] k (65534 : Int32) (65535 : Int32) h0 n0 Z0 ) hZ (hw _ (List.mem_of_getElem? (i := 29) rfl)) (hw _ (List.mem_of_getElem? (i := 22) rfl)) (by decide) (by decide)) (g := (mkF m 148 #[.val (.int k)] [(.int (65535 : Int32)), (.int (65534 : Int32)), (.int k)])) rfl (by rw [hml]; rfl) (argsL := [(.int k), (.int (65534 : Int32)), (.int (65535 : Int32))]) (rest := []) (lenOf pd_0 rfl) rfl (by show 2 * 0 + _ ≤ _; exact Nat.le_of_eq rfl) (hb hby d3_148) (fun _ _ => ⟨rfl, e_74, (by decide : 0 + 0 ≤ _), (by decide : 0 + 0 ≤ _)⟩)
                                              dsimp only [Pt.U, Pt.locs, Pt.cells, Pt.slots] at X_76 l_76 y_76 z_76 st_76 hQ_76
                                              obtain rfl : kc_76 = 0 := y_76
                                              obtain rfl : nc_76 = 0 := z_76
                                              obtain ⟨h_76, e_76⟩ : ∃ hh, T_76.heap = hh := ⟨_, rfl⟩
                                              rw [e_76] at hQ_76
                                              obtain ⟨rfl, N_76q, sm_76⟩ := hQ_76
                                              have N_76 : Fr n0 L_76 := by rw [l_76]; exact Fr.app N_74 N_76q
                                              refine Go.st st_76 ?_
                                              rw [sm_76] at e_76
                                              show Go p e below s _ _ _ T_76 (mkF m 151 #[.val (.int k)] [(.int (b2i (¬ (k < (65534 : Int32)) ∧ ¬ ((65535 : Int32) < k))))])
                                              rw [show (b2i (¬ (k < (65534 : Int32)) ∧ ¬ ((65535 : Int32) < k))) = (0 : Int32) from b2i_neg (fun q => q.1 (own_i1 hc_75 (by decide) : k < (65534 : Int32)))]
                                              show Go p e below s _ _ _ T_76 (mkF m 151 #[.val (.int k)] [(.int (0 : Int32))])
                                              refine Go.st (fun _ => XS.ifNo X_76.here hx rfl (hb hby d3_151) rfl ((if0 _ _).trans (teq (by decide : (0 : Int32) = (0 : Int32))).2)) ?_
                                              show Go p e below s _ _ _ T_76 (mkF m 154 #[.val (.int k)] [])
                                              refine Go.st (fun _ => XS.iloadN X_76.here hx rfl (hb hby d3_154) rfl) ?_
                                              show Go p e below s _ _ _ T_76 (mkF m 155 #[.val (.int k)] [(.int k)])
                                              refine Go.st (fun tG => X_76.ldcInt hx hown (mvT hZ (hw _ (List.mem_of_getElem? (i := 9) rfl))) (g := (mkF m 155 #[.val (.int k)] [(.int k)])) rfl (hb hby d3_155) tG) ?_
                                              show Go p e below s _ _ _ T_76 (mkF m 157 #[.val (.int k)] [(.int (983039 : Int32)), (.int k)])
                                              refine Go.st (fun _ => XS.icmpYes X_76.here hx rfl (pc0 := 157) (pc' := 164) rfl (hb hby d3_157) rfl (flt (own_j1 hc_75 (by decide) : ¬ ((983039 : Int32) < k))).2.2.2 (by decide) (by decide)) ?_
                                              show Go p e below s _ _ _ T_76 (mkF m 164 #[.val (.int k)] [])
                                              refine Go.st (fun _ => XS.iconst X_76.here hx rfl (hb hby d3_164)) ?_
                                              show Go p e below s _ _ _ T_76 (mkF m 165 #[.val (.int k)] [(.int (0 : Int32))])
                                              exact Go.retZ X_76 hx hlk Bd.returns (hb hby d3_165) rfl (by rw [e_76]; exact ⟨(own_b2i_f (by have := own_c4 hc_73 (by decide : (63743 : Int32).toInt = 63743); have := own_c1 hc_75 (by decide : (64976 : Int32).toInt = 64976); have := own_c6 hc_14 (by decide : (96 : Int32).toInt = 96); have := own_c6 hc_26 (by decide : (215 : Int32).toInt = 215); have := own_c6 hc_27 (by decide : (247 : Int32).toInt = 247); have := own_c6 hc_38 (by decide : (894 : Int32).toInt = 894); exact own_gap_f (by omega))), N_76, rfl⟩) (by decide) (by decide)
                                            · by_cases hc_77 : (65007 : Int32) < k
                                              · rw [show (b2i (¬ (k < (64976 : Int32)) ∧ ¬ ((65007 : Int32) < k))) = (0 : Int32) from b2i_neg (fun q => q.2 hc_77)]
                                                show Go p e below s _ _ _ T_74 (mkF m 140 #[.val (.int k)] [(.int (0 : Int32))])
                                                refine Go.st (fun _ => XS.ifNo X_74.here hx rfl (hb hby d3_140) rfl ((if0 _ _).trans (teq (by decide : (0 : Int32) = (0 : Int32))).2)) ?_
                                                show Go p e below s _ _ _ T_74 (mkF m 143 #[.val (.int k)] [])
                                                refine Go.st (fun _ => XS.iloadN X_74.here hx rfl (hb hby d3_143) rfl) ?_
                                                show Go p e below s _ _ _ T_74 (mkF m 144 #[.val (.int k)] [(.int k)])
                                                refine Go.st (fun tG => X_74.ldcInt hx hown (mvT hZ (hw _ (List.mem_of_getElem? (i := 34) rfl))) (g := (mkF m 144 #[.val (.int k)] [(.int k)])) rfl (hb hby d3_144) tG) ?_
                                                show Go p e below s _ _ _ T_74 (mkF m 146 #[.val (.int k)] [(.int (65534 : Int32)), (.int k)])
                                                refine Go.st (fun tG => X_74.ldcInt hx hown (mvT hZ (hw _ (List.mem_of_getElem? (i := 35) rfl))) (g := (mkF m 146 #[.val (.int k)] [(.int (65534 : Int32)), (.int k)])) rfl (hb hby d3_146) tG) ?_
                                                show Go p e below s _ _ _ T_74 (mkF m 148 #[.val (.int k)] [(.int (65535 : Int32)), (.int (65534 : Int32)), (.int k)])
                                                obtain ⟨_, _, ⟨T_78, L_78, kc_78, nc_78⟩, -, X_78, ⟨Lc_78, hQ_78, l_78, y_78, z_78⟩, st_78⟩ := Jvm.LawKit.callS X_74 hx (y := (⟨"com/example/moat/moat/xpath/NamesIsNameStartPinLaw", "in", "(III)Z"⟩ : MethodName)) hown (mvT hZ (hw _ (List.mem_of_getElem? (i := 27) rfl))) (mvT hZ (hw _ (List.mem_of_getElem? (i := 28) rfl))) (mvT hZ (hw _ (List.mem_of_getElem? (i := 22) rfl))) (mvT hZ (hw _ (List.mem_of_getElem? (i := 29) rfl))) (by decide) (backOf (W := 0) (rm4 l Z a0 hw [] k (65534 : Int32) (65535 : Int32) h0 n0 Z0 ) hZ (hw _ (List.mem_of_getElem? (i := 29) rfl)) (hw _ (List.mem_of_getElem? (i := 22) rfl)) (by decide) (by decide)) (g := (mkF m 148 #[.val (.int k)] [(.int (65535 : Int32)), (.int (65534 : Int32)), (.int k)])) rfl (by rw [hml]; rfl) (argsL := [(.int k), (.int (65534 : Int32)), (.int (65535 : Int32))]) (rest := []) (lenOf pd_0 rfl) rfl (by show 2 * 0 + _ ≤ _; exact Nat.le_of_eq rfl) (hb hby d3_148) (fun _ _ => ⟨rfl, e_74, (by decide : 0 + 0 ≤ _), (by decide : 0 + 0 ≤ _)⟩)
                                                dsimp only [Pt.U, Pt.locs, Pt.cells, Pt.slots] at X_78 l_78 y_78 z_78 st_78 hQ_78
                                                obtain rfl : kc_78 = 0 := y_78
                                                obtain rfl : nc_78 = 0 := z_78
                                                obtain ⟨h_78, e_78⟩ : ∃ hh, T_78.heap = hh := ⟨_, rfl⟩
                                                rw [e_78] at hQ_78
                                                obtain ⟨rfl, N_78q, sm_78⟩ := hQ_78
                                                have N_78 : Fr n0 L_78 := by rw [l_78]; exact Fr.app N_74 N_78q
                                                refine Go.st st_78 ?_
                                                rw [sm_78] at e_78
                                                show Go p e below s _ _ _ T_78 (mkF m 151 #[.val (.int k)] [(.int (b2i (¬ (k < (65534 : Int32)) ∧ ¬ ((65535 : Int32) < k))))])
                                                by_cases hc_79 : k < (65534 : Int32)
                                                · rw [show (b2i (¬ (k < (65534 : Int32)) ∧ ¬ ((65535 : Int32) < k))) = (0 : Int32) from b2i_neg (fun q => q.1 hc_79)]
                                                  show Go p e below s _ _ _ T_78 (mkF m 151 #[.val (.int k)] [(.int (0 : Int32))])
                                                  refine Go.st (fun _ => XS.ifNo X_78.here hx rfl (hb hby d3_151) rfl ((if0 _ _).trans (teq (by decide : (0 : Int32) = (0 : Int32))).2)) ?_
                                                  show Go p e below s _ _ _ T_78 (mkF m 154 #[.val (.int k)] [])
                                                  refine Go.st (fun _ => XS.iloadN X_78.here hx rfl (hb hby d3_154) rfl) ?_
                                                  show Go p e below s _ _ _ T_78 (mkF m 155 #[.val (.int k)] [(.int k)])
                                                  refine Go.st (fun tG => X_78.ldcInt hx hown (mvT hZ (hw _ (List.mem_of_getElem? (i := 9) rfl))) (g := (mkF m 155 #[.val (.int k)] [(.int k)])) rfl (hb hby d3_155) tG) ?_
                                                  show Go p e below s _ _ _ T_78 (mkF m 157 #[.val (.int k)] [(.int (983039 : Int32)), (.int k)])
                                                  refine Go.st (fun _ => XS.icmpYes X_78.here hx rfl (pc0 := 157) (pc' := 164) rfl (hb hby d3_157) rfl (flt (own_j1 hc_79 (by decide) : ¬ ((983039 : Int32) < k))).2.2.2 (by decide) (by decide)) ?_
                                                  show Go p e below s _ _ _ T_78 (mkF m 164 #[.val (.int k)] [])
                                                  refine Go.st (fun _ => XS.iconst X_78.here hx rfl (hb hby d3_164)) ?_
                                                  show Go p e below s _ _ _ T_78 (mkF m 165 #[.val (.int k)] [(.int (0 : Int32))])
                                                  exact Go.retZ X_78 hx hlk Bd.returns (hb hby d3_165) rfl (by rw [e_78]; exact ⟨(own_b2i_f (by have := own_c4 hc_77 (by decide : (65007 : Int32).toInt = 65007); have := own_c1 hc_79 (by decide : (65534 : Int32).toInt = 65534); have := own_c6 hc_14 (by decide : (96 : Int32).toInt = 96); have := own_c6 hc_26 (by decide : (215 : Int32).toInt = 215); have := own_c6 hc_27 (by decide : (247 : Int32).toInt = 247); have := own_c6 hc_38 (by decide : (894 : Int32).toInt = 894); exact own_gap_f (by omega))), N_78, rfl⟩) (by decide) (by decide)
                                                · by_cases hc_80 : (65535 : Int32) < k
                                                  · rw [show (b2i (¬ (k < (65534 : Int32)) ∧ ¬ ((65535 : Int32) < k))) = (0 : Int32) from b2i_neg (fun q => q.2 hc_80)]
                                                    show Go p e below s _ _ _ T_78 (mkF m 151 #[.val (.int k)] [(.int (0 : Int32))])
                                                    refine Go.st (fun _ => XS.ifNo X_78.here hx rfl (hb hby d3_151) rfl ((if0 _ _).trans (teq (by decide : (0 : Int32) = (0 : Int32))).2)) ?_
                                                    show Go p e below s _ _ _ T_78 (mkF m 154 #[.val (.int k)] [])
                                                    refine Go.st (fun _ => XS.iloadN X_78.here hx rfl (hb hby d3_154) rfl) ?_
                                                    show Go p e below s _ _ _ T_78 (mkF m 155 #[.val (.int k)] [(.int k)])
                                                    refine Go.st (fun tG => X_78.ldcInt hx hown (mvT hZ (hw _ (List.mem_of_getElem? (i := 9) rfl))) (g := (mkF m 155 #[.val (.int k)] [(.int k)])) rfl (hb hby d3_155) tG) ?_
                                                    show Go p e below s _ _ _ T_78 (mkF m 157 #[.val (.int k)] [(.int (983039 : Int32)), (.int k)])
                                                    by_cases hc_81 : (983039 : Int32) < k
                                                    · refine Go.st (fun _ => XS.icmpNo X_78.here hx rfl (hb hby d3_157) rfl (tlt hc_81).2.2.2) ?_
                                                      show Go p e below s _ _ _ T_78 (mkF m 160 #[.val (.int k)] [])
                                                      refine Go.st (fun _ => XS.iconst X_78.here hx rfl (hb hby d3_160)) ?_
                                                      show Go p e below s _ _ _ T_78 (mkF m 161 #[.val (.int k)] [(.int (1 : Int32))])
                                                      refine Go.st (fun _ => XS.goto X_78.here hx rfl (pc0 := 161) (pc' := 165) rfl (hb hby d3_161) (by decide) (by decide)) ?_
                                                      show Go p e below s _ _ _ T_78 (mkF m 165 #[.val (.int k)] [(.int (1 : Int32))])
                                                      exact Go.retZ X_78 hx hlk Bd.returns (hb hby d3_165) rfl (by rw [e_78]; exact ⟨(own_b2i_t (by have := own_c4 hc_81 (by decide : (983039 : Int32).toInt = 983039); have := own_c6 hc_14 (by decide : (96 : Int32).toInt = 96); have := own_c6 hc_26 (by decide : (215 : Int32).toInt = 215); have := own_c6 hc_27 (by decide : (247 : Int32).toInt = 247); have := own_c6 hc_38 (by decide : (894 : Int32).toInt = 894); exact own_gap_t (by omega))), N_78, rfl⟩) (by decide) (by decide)
                                                    · refine Go.st (fun _ => XS.icmpYes X_78.here hx rfl (pc0 := 157) (pc' := 164) rfl (hb hby d3_157) rfl (flt hc_81).2.2.2 (by decide) (by decide)) ?_
                                                      show Go p e below s _ _ _ T_78 (mkF m 164 #[.val (.int k)] [])
                                                      refine Go.st (fun _ => XS.iconst X_78.here hx rfl (hb hby d3_164)) ?_
                                                      show Go p e below s _ _ _ T_78 (mkF m 165 #[.val (.int k)] [(.int (0 : Int32))])
                                                      exact Go.retZ X_78 hx hlk Bd.returns (hb hby d3_165) rfl (by rw [e_78]; exact ⟨(own_b2i_f (by have := own_c4 hc_80 (by decide : (65535 : Int32).toInt = 65535); have := own_c2 hc_81 (by decide : (983039 : Int32).toInt = 983039); have := own_c6 hc_14 (by decide : (96 : Int32).toInt = 96); have := own_c6 hc_26 (by decide : (215 : Int32).toInt = 215); have := own_c6 hc_27 (by decide : (247 : Int32).toInt = 247); have := own_c6 hc_38 (by decide : (894 : Int32).toInt = 894); exact own_gap_f (by omega))), N_78, rfl⟩) (by decide) (by decide)
                                                  · rw [show (b2i (¬ (k < (65534 : Int32)) ∧ ¬ ((65535 : Int32) < k))) = (1 : Int32) from b2i_pos ⟨hc_79, hc_80⟩]
                                                    show Go p e below s _ _ _ T_78 (mkF m 151 #[.val (.int k)] [(.int (1 : Int32))])
                                                    refine Go.st (fun _ => XS.ifYes X_78.here hx rfl (pc0 := 151) (pc' := 160) rfl (hb hby d3_151) rfl ((if0 _ _).trans (feq (by decide : ¬ ((1 : Int32) = (0 : Int32)))).2) (by decide) (by decide)) ?_
                                                    show Go p e below s _ _ _ T_78 (mkF m 160 #[.val (.int k)] [])
                                                    refine Go.st (fun _ => XS.iconst X_78.here hx rfl (hb hby d3_160)) ?_
                                                    show Go p e below s _ _ _ T_78 (mkF m 161 #[.val (.int k)] [(.int (1 : Int32))])
                                                    refine Go.st (fun _ => XS.goto X_78.here hx rfl (pc0 := 161) (pc' := 165) rfl (hb hby d3_161) (by decide) (by decide)) ?_
                                                    show Go p e below s _ _ _ T_78 (mkF m 165 #[.val (.int k)] [(.int (1 : Int32))])
                                                    exact Go.retZ X_78 hx hlk Bd.returns (hb hby d3_165) rfl (by rw [e_78]; exact ⟨(own_b2i_t (by have := own_c3 hc_79 (by decide : (65534 : Int32).toInt = 65534); have := own_c2 hc_80 (by decide : (65535 : Int32).toInt = 65535); have := own_c6 hc_14 (by decide : (96 : Int32).toInt = 96); have := own_c6 hc_26 (by decide : (215 : Int32).toInt = 215); have := own_c6 hc_27 (by decide : (247 : Int32).toInt = 247); have := own_c6 hc_38 (by decide : (894 : Int32).toInt = 894); exact own_gap_t (by omega))), N_78, rfl⟩) (by decide) (by decide)
                                              · rw [show (b2i (¬ (k < (64976 : Int32)) ∧ ¬ ((65007 : Int32) < k))) = (1 : Int32) from b2i_pos ⟨hc_75, hc_77⟩]
                                                show Go p e below s _ _ _ T_74 (mkF m 140 #[.val (.int k)] [(.int (1 : Int32))])
                                                refine Go.st (fun _ => XS.ifYes X_74.here hx rfl (pc0 := 140) (pc' := 160) rfl (hb hby d3_140) rfl ((if0 _ _).trans (feq (by decide : ¬ ((1 : Int32) = (0 : Int32)))).2) (by decide) (by decide)) ?_
                                                show Go p e below s _ _ _ T_74 (mkF m 160 #[.val (.int k)] [])
                                                refine Go.st (fun _ => XS.iconst X_74.here hx rfl (hb hby d3_160)) ?_
                                                show Go p e below s _ _ _ T_74 (mkF m 161 #[.val (.int k)] [(.int (1 : Int32))])
                                                refine Go.st (fun _ => XS.goto X_74.here hx rfl (pc0 := 161) (pc' := 165) rfl (hb hby d3_161) (by decide) (by decide)) ?_
                                                show Go p e below s _ _ _ T_74 (mkF m 165 #[.val (.int k)] [(.int (1 : Int32))])
                                                exact Go.retZ X_74 hx hlk Bd.returns (hb hby d3_165) rfl (by rw [e_74]; exact ⟨(own_b2i_t (by have := own_c3 hc_75 (by decide : (64976 : Int32).toInt = 64976); have := own_c2 hc_77 (by decide : (65007 : Int32).toInt = 65007); have := own_c6 hc_14 (by decide : (96 : Int32).toInt = 96); have := own_c6 hc_26 (by decide : (215 : Int32).toInt = 215); have := own_c6 hc_27 (by decide : (247 : Int32).toInt = 247); have := own_c6 hc_38 (by decide : (894 : Int32).toInt = 894); exact own_gap_t (by omega))), N_74, rfl⟩) (by decide) (by decide)
                                          · rw [show (b2i (¬ (k < (56192 : Int32)) ∧ ¬ ((63743 : Int32) < k))) = (1 : Int32) from b2i_pos ⟨hc_70, hc_73⟩]
                                            show Go p e below s _ _ _ T_69 (mkF m 129 #[.val (.int k)] [(.int (1 : Int32))])
                                            refine Go.st (fun _ => XS.ifYes X_69.here hx rfl (pc0 := 129) (pc' := 160) rfl (hb hby d3_129) rfl ((if0 _ _).trans (feq (by decide : ¬ ((1 : Int32) = (0 : Int32)))).2) (by decide) (by decide)) ?_
                                            show Go p e below s _ _ _ T_69 (mkF m 160 #[.val (.int k)] [])
                                            refine Go.st (fun _ => XS.iconst X_69.here hx rfl (hb hby d3_160)) ?_
                                            show Go p e below s _ _ _ T_69 (mkF m 161 #[.val (.int k)] [(.int (1 : Int32))])
                                            refine Go.st (fun _ => XS.goto X_69.here hx rfl (pc0 := 161) (pc' := 165) rfl (hb hby d3_161) (by decide) (by decide)) ?_
                                            show Go p e below s _ _ _ T_69 (mkF m 165 #[.val (.int k)] [(.int (1 : Int32))])
                                            exact Go.retZ X_69 hx hlk Bd.returns (hb hby d3_165) rfl (by rw [e_69]; exact ⟨(own_b2i_t (by have := own_c3 hc_70 (by decide : (56192 : Int32).toInt = 56192); have := own_c2 hc_73 (by decide : (63743 : Int32).toInt = 63743); have := own_c6 hc_14 (by decide : (96 : Int32).toInt = 96); have := own_c6 hc_26 (by decide : (215 : Int32).toInt = 215); have := own_c6 hc_27 (by decide : (247 : Int32).toInt = 247); have := own_c6 hc_38 (by decide : (894 : Int32).toInt = 894); exact own_gap_t (by omega))), N_69, rfl⟩) (by decide) (by decide)
                                      · rw [show (b2i (¬ (k < (12272 : Int32)) ∧ ¬ ((12288 : Int32) < k))) = (1 : Int32) from b2i_pos ⟨hc_64, hc_68⟩]
                                        show Go p e below s _ _ _ T_63 (mkF m 118 #[.val (.int k)] [(.int (1 : Int32))])
                                        refine Go.st (fun _ => XS.ifYes X_63.here hx rfl (pc0 := 118) (pc' := 160) rfl (hb hby d3_118) rfl ((if0 _ _).trans (feq (by decide : ¬ ((1 : Int32) = (0 : Int32)))).2) (by decide) (by decide)) ?_
                                        show Go p e below s _ _ _ T_63 (mkF m 160 #[.val (.int k)] [])
                                        refine Go.st (fun _ => XS.iconst X_63.here hx rfl (hb hby d3_160)) ?_
                                        show Go p e below s _ _ _ T_63 (mkF m 161 #[.val (.int k)] [(.int (1 : Int32))])
                                        refine Go.st (fun _ => XS.goto X_63.here hx rfl (pc0 := 161) (pc' := 165) rfl (hb hby d3_161) (by decide) (by decide)) ?_
                                        show Go p e below s _ _ _ T_63 (mkF m 165 #[.val (.int k)] [(.int (1 : Int32))])
                                        exact Go.retZ X_63 hx hlk Bd.returns (hb hby d3_165) rfl (by rw [e_63]; exact ⟨(own_b2i_t (by have := own_c3 hc_64 (by decide : (12272 : Int32).toInt = 12272); have := own_c2 hc_68 (by decide : (12288 : Int32).toInt = 12288); have := own_c6 hc_14 (by decide : (96 : Int32).toInt = 96); have := own_c6 hc_26 (by decide : (215 : Int32).toInt = 215); have := own_c6 hc_27 (by decide : (247 : Int32).toInt = 247); have := own_c6 hc_38 (by decide : (894 : Int32).toInt = 894); exact own_gap_t (by omega))), N_63, rfl⟩) (by decide) (by decide)
                                  · rw [show (b2i (¬ (k < (8592 : Int32)) ∧ ¬ ((11263 : Int32) < k))) = (1 : Int32) from b2i_pos ⟨hc_57, hc_62⟩]
                                    show Go p e below s _ _ _ T_56 (mkF m 105 #[.val (.int k)] [(.int (1 : Int32))])
                                    refine Go.st (fun _ => XS.ifYes X_56.here hx rfl (pc0 := 105) (pc' := 160) rfl (hb hby d3_105) rfl ((if0 _ _).trans (feq (by decide : ¬ ((1 : Int32) = (0 : Int32)))).2) (by decide) (by decide)) ?_
                                    show Go p e below s _ _ _ T_56 (mkF m 160 #[.val (.int k)] [])
                                    refine Go.st (fun _ => XS.iconst X_56.here hx rfl (hb hby d3_160)) ?_
                                    show Go p e below s _ _ _ T_56 (mkF m 161 #[.val (.int k)] [(.int (1 : Int32))])
                                    refine Go.st (fun _ => XS.goto X_56.here hx rfl (pc0 := 161) (pc' := 165) rfl (hb hby d3_161) (by decide) (by decide)) ?_
                                    show Go p e below s _ _ _ T_56 (mkF m 165 #[.val (.int k)] [(.int (1 : Int32))])
                                    exact Go.retZ X_56 hx hlk Bd.returns (hb hby d3_165) rfl (by rw [e_56]; exact ⟨(own_b2i_t (by have := own_c3 hc_57 (by decide : (8592 : Int32).toInt = 8592); have := own_c2 hc_62 (by decide : (11263 : Int32).toInt = 11263); have := own_c6 hc_14 (by decide : (96 : Int32).toInt = 96); have := own_c6 hc_26 (by decide : (215 : Int32).toInt = 215); have := own_c6 hc_27 (by decide : (247 : Int32).toInt = 247); have := own_c6 hc_38 (by decide : (894 : Int32).toInt = 894); exact own_gap_t (by omega))), N_56, rfl⟩) (by decide) (by decide)
                              · rw [show (b2i (¬ (k < (8206 : Int32)) ∧ ¬ ((8303 : Int32) < k))) = (1 : Int32) from b2i_pos ⟨hc_49, hc_55⟩]
                                show Go p e below s _ _ _ T_48 (mkF m 92 #[.val (.int k)] [(.int (1 : Int32))])
                                refine Go.st (fun _ => XS.ifYes X_48.here hx rfl (pc0 := 92) (pc' := 160) rfl (hb hby d3_92) rfl ((if0 _ _).trans (feq (by decide : ¬ ((1 : Int32) = (0 : Int32)))).2) (by decide) (by decide)) ?_
                                show Go p e below s _ _ _ T_48 (mkF m 160 #[.val (.int k)] [])
                                refine Go.st (fun _ => XS.iconst X_48.here hx rfl (hb hby d3_160)) ?_
                                show Go p e below s _ _ _ T_48 (mkF m 161 #[.val (.int k)] [(.int (1 : Int32))])
                                refine Go.st (fun _ => XS.goto X_48.here hx rfl (pc0 := 161) (pc' := 165) rfl (hb hby d3_161) (by decide) (by decide)) ?_
                                show Go p e below s _ _ _ T_48 (mkF m 165 #[.val (.int k)] [(.int (1 : Int32))])
                                exact Go.retZ X_48 hx hlk Bd.returns (hb hby d3_165) rfl (by rw [e_48]; exact ⟨(own_b2i_t (by have := own_c3 hc_49 (by decide : (8206 : Int32).toInt = 8206); have := own_c2 hc_55 (by decide : (8303 : Int32).toInt = 8303); have := own_c6 hc_14 (by decide : (96 : Int32).toInt = 96); have := own_c6 hc_26 (by decide : (215 : Int32).toInt = 215); have := own_c6 hc_27 (by decide : (247 : Int32).toInt = 247); have := own_c6 hc_38 (by decide : (894 : Int32).toInt = 894); exact own_gap_t (by omega))), N_48, rfl⟩) (by decide) (by decide)
                          · rw [show (b2i (¬ (k < (8192 : Int32)) ∧ ¬ ((8203 : Int32) < k))) = (1 : Int32) from b2i_pos ⟨hc_40, hc_47⟩]
                            show Go p e below s _ _ _ T_39 (mkF m 79 #[.val (.int k)] [(.int (1 : Int32))])
                            refine Go.st (fun _ => XS.ifYes X_39.here hx rfl (pc0 := 79) (pc' := 160) rfl (hb hby d3_79) rfl ((if0 _ _).trans (feq (by decide : ¬ ((1 : Int32) = (0 : Int32)))).2) (by decide) (by decide)) ?_
                            show Go p e below s _ _ _ T_39 (mkF m 160 #[.val (.int k)] [])
                            refine Go.st (fun _ => XS.iconst X_39.here hx rfl (hb hby d3_160)) ?_
                            show Go p e below s _ _ _ T_39 (mkF m 161 #[.val (.int k)] [(.int (1 : Int32))])
                            refine Go.st (fun _ => XS.goto X_39.here hx rfl (pc0 := 161) (pc' := 165) rfl (hb hby d3_161) (by decide) (by decide)) ?_
                            show Go p e below s _ _ _ T_39 (mkF m 165 #[.val (.int k)] [(.int (1 : Int32))])
                            exact Go.retZ X_39 hx hlk Bd.returns (hb hby d3_165) rfl (by rw [e_39]; exact ⟨(own_b2i_t (by have := own_c3 hc_40 (by decide : (8192 : Int32).toInt = 8192); have := own_c2 hc_47 (by decide : (8203 : Int32).toInt = 8203); have := own_c6 hc_14 (by decide : (96 : Int32).toInt = 96); have := own_c6 hc_26 (by decide : (215 : Int32).toInt = 215); have := own_c6 hc_27 (by decide : (247 : Int32).toInt = 247); have := own_c6 hc_38 (by decide : (894 : Int32).toInt = 894); exact own_gap_t (by omega))), N_39, rfl⟩) (by decide) (by decide)
                    · rw [show (b2i (¬ (k < (768 : Int32)) ∧ ¬ ((879 : Int32) < k))) = (1 : Int32) from b2i_pos ⟨hc_29, hc_37⟩]
                      show Go p e below s _ _ _ T_28 (mkF m 59 #[.val (.int k)] [(.int (1 : Int32))])
                      refine Go.st (fun _ => XS.ifYes X_28.here hx rfl (pc0 := 59) (pc' := 160) rfl (hb hby d3_59) rfl ((if0 _ _).trans (feq (by decide : ¬ ((1 : Int32) = (0 : Int32)))).2) (by decide) (by decide)) ?_
                      show Go p e below s _ _ _ T_28 (mkF m 160 #[.val (.int k)] [])
                      refine Go.st (fun _ => XS.iconst X_28.here hx rfl (hb hby d3_160)) ?_
                      show Go p e below s _ _ _ T_28 (mkF m 161 #[.val (.int k)] [(.int (1 : Int32))])
                      refine Go.st (fun _ => XS.goto X_28.here hx rfl (pc0 := 161) (pc' := 165) rfl (hb hby d3_161) (by decide) (by decide)) ?_
                      show Go p e below s _ _ _ T_28 (mkF m 165 #[.val (.int k)] [(.int (1 : Int32))])
                      exact Go.retZ X_28 hx hlk Bd.returns (hb hby d3_165) rfl (by rw [e_28]; exact ⟨(own_b2i_t (by have := own_c3 hc_29 (by decide : (768 : Int32).toInt = 768); have := own_c2 hc_37 (by decide : (879 : Int32).toInt = 879); have := own_c6 hc_14 (by decide : (96 : Int32).toInt = 96); have := own_c6 hc_26 (by decide : (215 : Int32).toInt = 215); have := own_c6 hc_27 (by decide : (247 : Int32).toInt = 247); exact own_gap_t (by omega))), N_28, rfl⟩) (by decide) (by decide)
            · rw [show (b2i (¬ (k < (123 : Int32)) ∧ ¬ ((191 : Int32) < k))) = (1 : Int32) from b2i_pos ⟨hc_16, hc_25⟩]
              show Go p e below s _ _ _ T_15 (mkF m 32 #[.val (.int k)] [(.int (1 : Int32))])
              refine Go.st (fun _ => XS.ifYes X_15.here hx rfl (pc0 := 32) (pc' := 160) rfl (hb hby d3_32) rfl ((if0 _ _).trans (feq (by decide : ¬ ((1 : Int32) = (0 : Int32)))).2) (by decide) (by decide)) ?_
              show Go p e below s _ _ _ T_15 (mkF m 160 #[.val (.int k)] [])
              refine Go.st (fun _ => XS.iconst X_15.here hx rfl (hb hby d3_160)) ?_
              show Go p e below s _ _ _ T_15 (mkF m 161 #[.val (.int k)] [(.int (1 : Int32))])
              refine Go.st (fun _ => XS.goto X_15.here hx rfl (pc0 := 161) (pc' := 165) rfl (hb hby d3_161) (by decide) (by decide)) ?_
              show Go p e below s _ _ _ T_15 (mkF m 165 #[.val (.int k)] [(.int (1 : Int32))])
              exact Go.retZ X_15 hx hlk Bd.returns (hb hby d3_165) rfl (by rw [e_15]; exact ⟨(own_b2i_t (by have := own_c3 hc_16 (by decide : (123 : Int32).toInt = 123); have := own_c2 hc_25 (by decide : (191 : Int32).toInt = 191); have := own_c6 hc_14 (by decide : (96 : Int32).toInt = 96); exact own_gap_t (by omega))), N_15, rfl⟩) (by decide) (by decide)
      · rw [show (b2i (¬ (k < (91 : Int32)) ∧ ¬ ((94 : Int32) < k))) = (1 : Int32) from b2i_pos ⟨hc_3, hc_13⟩]
        show Go p e below s _ _ _ T_2 (mkF m 14 #[.val (.int k)] [(.int (1 : Int32))])
        refine Go.st (fun _ => XS.ifYes X_2.here hx rfl (pc0 := 14) (pc' := 160) rfl (hb hby d3_14) rfl ((if0 _ _).trans (feq (by decide : ¬ ((1 : Int32) = (0 : Int32)))).2) (by decide) (by decide)) ?_
        show Go p e below s _ _ _ T_2 (mkF m 160 #[.val (.int k)] [])
        refine Go.st (fun _ => XS.iconst X_2.here hx rfl (hb hby d3_160)) ?_
        show Go p e below s _ _ _ T_2 (mkF m 161 #[.val (.int k)] [(.int (1 : Int32))])
        refine Go.st (fun _ => XS.goto X_2.here hx rfl (pc0 := 161) (pc' := 165) rfl (hb hby d3_161) (by decide) (by decide)) ?_
        show Go p e below s _ _ _ T_2 (mkF m 165 #[.val (.int k)] [(.int (1 : Int32))])
        exact Go.retZ X_2 hx hlk Bd.returns (hb hby d3_165) rfl (by rw [e_2]; exact ⟨(own_b2i_t (by have := own_c3 hc_3 (by decide : (91 : Int32).toInt = 91); have := own_c2 hc_13 (by decide : (94 : Int32).toInt = 94); exact own_gap_t (by omega))), N_2, rfl⟩) (by decide) (by decide)
theorem d2_0 : decode method_4_code 0 = .ok (.iload_n 0, 1) := by decide +kernel
theorem d2_1 : decode method_4_code 1 = .ok (.invokestatic 20, 3) := by decide +kernel
theorem pd_1 : parseMethodDescriptor "(I)Z" = some ⟨[.int], some .boolean⟩ := by decide +kernel
theorem d2_4 : decode method_4_code 4 = .ok (.ifCond .ne 7, 3) := by decide +kernel
theorem d2_11 : decode method_4_code 11 = .ok (.iconst 0, 1) := by decide +kernel
theorem d2_12 : decode method_4_code 12 = .ok (.ireturn, 1) := by decide +kernel
theorem d2_7 : decode method_4_code 7 = .ok (.iconst 1, 1) := by decide +kernel
theorem d2_8 : decode method_4_code 8 = .ok (.goto 4, 3) := by decide +kernel
theorem ef_rm2 (m : MethodId) (k : Int32) : entryFrame m #[(.int k)] 1 = mkF m 0 #[.val (.int k)] [] := by first | (simp [entryFrame, mkF, argsToLocals, Value.category]; done) | rfl
def Qrm2 (Z : State) (k : Int32) (h0 : Heap) (n0 : Nat) (rV : Option Value) (hE : Heap) (LE : List Loc) : Prop := rV = some (.int (b2i (¬ (own_gap k.toInt = true)))) ∧ Fr n0 LE ∧ hE = h0
set_option maxRecDepth 65536 in
set_option maxHeartbeats 40000000 in
theorem rm2 (l : Launch) (Z : State) (a0 : Array Value) (hw : ∀ d ∈ tables_1, d.before a0 Z = true) (ws : List Jvm.Cond) (k : Int32) (h0 : Heap) (n0 : Nat) (Z0 : n0 ≤ h0.size) :
    MetFree l (⟨"com/example/moat/moat/xpath/NamesIsNameStartPinLaw", "ref", "(I)Z"⟩ : MethodName) (head1 (Jvm.Cond.code (⟨"com/example/moat/moat/xpath/NamesIsNameStartPinLaw", "ref", "(I)Z"⟩ : MethodName) method_4_code 1 (some .boolean) :: ws) ({ frames := 2, cells := 0, slots := 0, locals := 26 } : Room)) (fun aA UA => aA = #[(.int k)] ∧ Z.Warmed39 UA.vm ∧ UA.heap = h0) (fun _ _ _ _ _ => True) (fun _ UA oA UB => ∃ rV LE, oA = .returned rV ∧ Qrm2 Z k h0 n0 rV UB.heap LE ∧ FrameEnd UA oA UB LE ({ frames := 2, cells := 0, slots := 0, locals := 26 } : Room).cells ({ frames := 2, cells := 0, slots := 0, locals := 26 } : Room).slots) := by
  refine MetFree.of_bodySF (plainFor_of_name pn_1) hisR ?_
  intro p e s m args below meth c s₁ Bd hml0 hP hK
  obtain ⟨rfl, hZ, hh⟩ := hP
  have hx := Bd.exec
  have hby := Bd.bytes
  have hml : c.maxLocals = 1 := hml0
  have hown : s.vm.findClass "com/example/moat/moat/xpath/NamesIsNameStartPinLaw" = some m.cls := findClass_of_methodNamed Bd.named
  have hnm := (name_of_methodNamed Bd.named Bd.method).1
  have hlk := Bd.notSynchronized
  have X0 : Stand p l e ({ frames := 2, cells := 0, slots := 0, locals := 26 } : Room) s m #[(.int k)] below meth c s₁ [] 0 0 := Stand.of_body Bd
  have e0 : s₁.heap = h0 := by rw [← hh, Bd.state]; rfl
  have N0 := Fr.nil n0
  show Go p e below s (Qrm2 Z k h0 n0) ({ frames := 2, cells := 0, slots := 0, locals := 26 } : Room).cells ({ frames := 2, cells := 0, slots := 0, locals := 26 } : Room).slots s₁ (entryFrame m #[(.int k)] 1)
  refine Go.eq (ef_rm2 m k) ?_
  show Go p e below s _ _ _ s₁ (mkF m 0 #[.val (.int k)] [])
  refine Go.st (fun _ => XS.iloadN X0.here hx rfl (hb hby d2_0) rfl) ?_
  show Go p e below s _ _ _ s₁ (mkF m 1 #[.val (.int k)] [(.int k)])
  obtain ⟨_, _, ⟨T_1, L_1, kc_1, nc_1⟩, -, X_1, ⟨Lc_1, hQ_1, l_1, y_1, z_1⟩, st_1⟩ := Jvm.LawKit.callS X0 hx (y := (⟨"com/example/moat/moat/xpath/NamesIsNameStartPinLaw", "gap", "(I)Z"⟩ : MethodName)) hown (mvT hZ (hw _ (List.mem_of_getElem? (i := 24) rfl))) (mvT hZ (hw _ (List.mem_of_getElem? (i := 25) rfl))) (mvT hZ (hw _ (List.mem_of_getElem? (i := 22) rfl))) (mvT hZ (hw _ (List.mem_of_getElem? (i := 26) rfl))) (by decide) (backOf (W := 0) (rm3 l Z a0 hw [] k h0 n0 Z0 ) hZ (hw _ (List.mem_of_getElem? (i := 26) rfl)) (hw _ (List.mem_of_getElem? (i := 22) rfl)) (by decide) (by decide)) (g := (mkF m 1 #[.val (.int k)] [(.int k)])) rfl (by rw [hml]; rfl) (argsL := [(.int k)]) (rest := []) (lenOf pd_1 rfl) rfl (by show 2 * 0 + _ ≤ _; exact Nat.le_of_eq rfl) (hb hby d2_1) (fun _ _ => ⟨rfl, e0, (by decide : 0 + 0 ≤ _), (by decide : 0 + 0 ≤ _)⟩)
  dsimp only [Pt.U, Pt.locs, Pt.cells, Pt.slots] at X_1 l_1 y_1 z_1 st_1 hQ_1
  obtain rfl : kc_1 = 0 := y_1
  obtain rfl : nc_1 = 0 := z_1
  obtain ⟨h_1, e_1⟩ : ∃ hh, T_1.heap = hh := ⟨_, rfl⟩
  rw [e_1] at hQ_1
  obtain ⟨rfl, N_1q, sm_1⟩ := hQ_1
  have N_1 : Fr n0 L_1 := by rw [l_1]; exact Fr.app N0 N_1q
  refine Go.st st_1 ?_
  rw [sm_1] at e_1
  show Go p e below s _ _ _ T_1 (mkF m 4 #[.val (.int k)] [(.int (b2i (own_gap k.toInt = true)))])
  by_cases hc_2 : own_gap k.toInt = true
  · rw [show (b2i (own_gap k.toInt = true)) = (1 : Int32) from b2i_pos hc_2]
    show Go p e below s _ _ _ T_1 (mkF m 4 #[.val (.int k)] [(.int (1 : Int32))])
    refine Go.st (fun _ => XS.ifYes X_1.here hx rfl (pc0 := 4) (pc' := 11) rfl (hb hby d2_4) rfl ((if0 _ _).trans (feq (by decide : ¬ ((1 : Int32) = (0 : Int32)))).2) (by decide) (by decide)) ?_
    show Go p e below s _ _ _ T_1 (mkF m 11 #[.val (.int k)] [])
    refine Go.st (fun _ => XS.iconst X_1.here hx rfl (hb hby d2_11)) ?_
    show Go p e below s _ _ _ T_1 (mkF m 12 #[.val (.int k)] [(.int (0 : Int32))])
    exact Go.retZ X_1 hx hlk Bd.returns (hb hby d2_12) rfl (by rw [e_1]; exact ⟨(own_b2i_f (not_not_intro hc_2)), N_1, rfl⟩) (by decide) (by decide)
  · rw [show (b2i (own_gap k.toInt = true)) = (0 : Int32) from b2i_neg hc_2]
    show Go p e below s _ _ _ T_1 (mkF m 4 #[.val (.int k)] [(.int (0 : Int32))])
    refine Go.st (fun _ => XS.ifNo X_1.here hx rfl (hb hby d2_4) rfl ((if0 _ _).trans (teq (by decide : (0 : Int32) = (0 : Int32))).2)) ?_
    show Go p e below s _ _ _ T_1 (mkF m 7 #[.val (.int k)] [])
    refine Go.st (fun _ => XS.iconst X_1.here hx rfl (hb hby d2_7)) ?_
    show Go p e below s _ _ _ T_1 (mkF m 8 #[.val (.int k)] [(.int (1 : Int32))])
    refine Go.st (fun _ => XS.goto X_1.here hx rfl (pc0 := 8) (pc' := 12) rfl (hb hby d2_8) (by decide) (by decide)) ?_
    show Go p e below s _ _ _ T_1 (mkF m 12 #[.val (.int k)] [(.int (1 : Int32))])
    exact Go.retZ X_1 hx hlk Bd.returns (hb hby d2_12) rfl (by rw [e_1]; exact ⟨(own_b2i_t hc_2), N_1, rfl⟩) (by decide) (by decide)
theorem ef_rm0 (m : MethodId) (k : Int32) (ix : Int32) (dx : Int32) : entryFrame m #[(.int k), (.int ix), (.int dx)] maxLocals = mkF m 0 #[.val (.int k), .val (.int ix), .val (.int dx), .unset, .unset, .unset, .unset] [] := by first | (simp [entryFrame, mkF, argsToLocals, Value.category, maxLocals]; done) | rfl
def Qrm0 (Z : State) (k : Int32) (ix : Int32) (dx : Int32) (h0 : Heap) (n0 : Nat) (rV : Option Value) (hE : Heap) (LE : List Loc) : Prop := rV = some (.int (1 : Int32)) ∧ Fr n0 LE
set_option maxRecDepth 65536 in
set_option maxHeartbeats 40000000 in
theorem rm0 (l : Launch) (Z : State) (a0 : Array Value) (hw : ∀ d ∈ tables_1, d.before a0 Z = true) (ws : List Jvm.Cond) (k : Int32) (ix : Int32) (dx : Int32) (h0 : Heap) (n0 : Nat) (Z0 : n0 ≤ h0.size) :
    MetFree l x (head1 (Jvm.Cond.code x code maxLocals ret :: ws) room_1) (fun aA UA => aA = #[(.int k), (.int ix), (.int dx)] ∧ Z.Warmed39 UA.vm ∧ UA.heap = h0) (fun _ _ _ _ _ => True) (fun _ UA oA UB => ∃ rV LE, oA = .returned rV ∧ Qrm0 Z k ix dx h0 n0 rV UB.heap LE ∧ FrameEnd UA oA UB LE room_1.cells room_1.slots) := by
  refine MetFree.of_bodySF (plainFor_of_name pn_1) hisR ?_
  intro p e s m args below meth c s₁ Bd hml0 hP hK
  obtain ⟨rfl, hZ, hh⟩ := hP
  have hx := Bd.exec
  have hby := Bd.bytes
  have hml : c.maxLocals = 7 := hml0
  have hown : s.vm.findClass "com/example/moat/moat/xpath/NamesIsNameStartPinLaw" = some m.cls := findClass_of_methodNamed Bd.named
  have hnm := (name_of_methodNamed Bd.named Bd.method).1
  have hlk := Bd.notSynchronized
  have X0 : Stand p l e room_1 s m #[(.int k), (.int ix), (.int dx)] below meth c s₁ [] 0 0 := Stand.of_body Bd
  have e0 : s₁.heap = h0 := by rw [← hh, Bd.state]; rfl
  have N0 := Fr.nil n0
  show Go p e below s (Qrm0 Z k ix dx h0 n0) room_1.cells room_1.slots s₁ (entryFrame m #[(.int k), (.int ix), (.int dx)] maxLocals)
  refine Go.eq (ef_rm0 m k ix dx) ?_
  show Go p e below s _ _ _ s₁ (mkF m 0 #[.val (.int k), .val (.int ix), .val (.int dx), .unset, .unset, .unset, .unset] [])
  refine Go.st (fun _ => XS.bipush X0.here hx rfl (hb hby at_0)) ?_
  show Go p e below s _ _ _ s₁ (mkF m 2 #[.val (.int k), .val (.int ix), .val (.int dx), .unset, .unset, .unset, .unset] [(.int (34 : Int32))])
  obtain ⟨T_1, h_1, kA_1, X_1, e_1, E_1, A_1, st_1⟩ := newP X0 hx hZ (hw _ (List.mem_of_getElem? (i := 0) rfl)) e0 (g := (mkF m 2 #[.val (.int k), .val (.int ix), .val (.int dx), .unset, .unset, .unset, .unset] [(.int (34 : Int32))])) rfl (hb hby at_2) rfl (by decide) (cap := 34) (by decide) (by decide) (by decide) (by decide)
  obtain ⟨b_1, g_1⟩ : ∃ z, z = h0.size := ⟨_, rfl⟩
  rw [← g_1] at A_1 st_1
  refine Go.st st_1 ?_
  have gg_1 : n0 ≤ b_1 := Nat.le_trans Z0 (Nat.le_of_eq g_1.symm)
  have z_1 : n0 ≤ h_1.size := Nat.le_trans Z0 E_1.1
  have V_b_1 : Arv Z h_1 b_1 kA_1 .int (34 : Int32) [(.int (0 : Int32)), (.int (0 : Int32)), (.int (0 : Int32)), (.int (0 : Int32)), (.int (0 : Int32)), (.int (0 : Int32)), (.int (0 : Int32)), (.int (0 : Int32)), (.int (0 : Int32)), (.int (0 : Int32)), (.int (0 : Int32)), (.int (0 : Int32)), (.int (0 : Int32)), (.int (0 : Int32)), (.int (0 : Int32)), (.int (0 : Int32)), (.int (0 : Int32)), (.int (0 : Int32)), (.int (0 : Int32)), (.int (0 : Int32)), (.int (0 : Int32)), (.int (0 : Int32)), (.int (0 : Int32)), (.int (0 : Int32)), (.int (0 : Int32)), (.int (0 : Int32)), (.int (0 : Int32)), (.int (0 : Int32)), (.int (0 : Int32)), (.int (0 : Int32)), (.int (0 : Int32)), (.int (0 : Int32)), (.int (0 : Int32)), (.int (0 : Int32))] (.int (0 : Int32)) := (Arv.new A_1 (by decide)).pad (pad_rep [] (.int (0 : Int32)) 34)
  show Go p e below s _ _ _ T_1 (mkF m 4 #[.val (.int k), .val (.int ix), .val (.int dx), .unset, .unset, .unset, .unset] [(.ref b_1)])
  refine Go.st (fun _ => XS.dup X_1.here hx rfl (hb hby at_4) rfl rfl) ?_
  show Go p e below s _ _ _ T_1 (mkF m 5 #[.val (.int k), .val (.int ix), .val (.int dx), .unset, .unset, .unset, .unset] [(.ref b_1), (.ref b_1)])
  refine Go.st (fun _ => XS.iconst X_1.here hx rfl (hb hby at_5)) ?_
  show Go p e below s _ _ _ T_1 (mkF m 6 #[.val (.int k), .val (.int ix), .val (.int dx), .unset, .unset, .unset, .unset] [(.int (0 : Int32)), (.ref b_1), (.ref b_1)])
  refine Go.st (fun _ => XS.bipush X_1.here hx rfl (hb hby at_6)) ?_
  show Go p e below s _ _ _ T_1 (mkF m 8 #[.val (.int k), .val (.int ix), .val (.int dx), .unset, .unset, .unset, .unset] [(.int (58 : Int32)), (.int (0 : Int32)), (.ref b_1), (.ref b_1)])
  obtain ⟨cl_2, Ar_2, q_2, S_2, M_2, H_2, G_2⟩ := id V_b_1
  have hin_2 : ¬ ((0 : Int32) < 0 ∨ cl_2.slots.size ≤ ((0 : Int32)).toNatClampNeg) := inb_of S_2 ⟨by decide, by decide⟩
  obtain ⟨T_2, h_2, X_2, e_2, W_2, st_2⟩ := stI X_1 hx hZ e_1 Ar_2 (j := (0 : Int32)) hin_2 (g := (mkF m 8 #[.val (.int k), .val (.int ix), .val (.int dx), .unset, .unset, .unset, .unset] [(.int (58 : Int32)), (.int (0 : Int32)), (.ref b_1), (.ref b_1)])) rfl rfl (hb hby at_8)
  refine Go.st st_2 ?_
  have V_2 : Arv Z h_2 b_1 kA_1 .int (34 : Int32) [(.int (58 : Int32)), (.int (0 : Int32)), (.int (0 : Int32)), (.int (0 : Int32)), (.int (0 : Int32)), (.int (0 : Int32)), (.int (0 : Int32)), (.int (0 : Int32)), (.int (0 : Int32)), (.int (0 : Int32)), (.int (0 : Int32)), (.int (0 : Int32)), (.int (0 : Int32)), (.int (0 : Int32)), (.int (0 : Int32)), (.int (0 : Int32)), (.int (0 : Int32)), (.int (0 : Int32)), (.int (0 : Int32)), (.int (0 : Int32)), (.int (0 : Int32)), (.int (0 : Int32)), (.int (0 : Int32)), (.int (0 : Int32)), (.int (0 : Int32)), (.int (0 : Int32)), (.int (0 : Int32)), (.int (0 : Int32)), (.int (0 : Int32)), (.int (0 : Int32)), (.int (0 : Int32)), (.int (0 : Int32)), (.int (0 : Int32)), (.int (0 : Int32))] (.int (0 : Int32)) := Arv.set Ar_2 q_2 S_2 M_2 H_2 G_2 rfl W_2 0 rfl (Nat.le_of_ble_eq_true rfl)
  have N_2 := Fr.snoc X_2 N0 gg_1
  have z_2 : n0 ≤ h_2.size := Nat.le_trans z_1 (Nat.le_of_eq W_2.size.symm)
  show Go p e below s _ _ _ T_2 (mkF m 9 #[.val (.int k), .val (.int ix), .val (.int dx), .unset, .unset, .unset, .unset] [(.ref b_1)])
  refine Go.st (fun _ => XS.dup X_2.here hx rfl (hb hby at_9) rfl rfl) ?_
  show Go p e below s _ _ _ T_2 (mkF m 10 #[.val (.int k), .val (.int ix), .val (.int dx), .unset, .unset, .unset, .unset] [(.ref b_1), (.ref b_1)])
  refine Go.st (fun _ => XS.iconst X_2.here hx rfl (hb hby at_10)) ?_
  show Go p e below s _ _ _ T_2 (mkF m 11 #[.val (.int k), .val (.int ix), .val (.int dx), .unset, .unset, .unset, .unset] [(.int (1 : Int32)), (.ref b_1), (.ref b_1)])
  refine Go.st (fun _ => XS.bipush X_2.here hx rfl (hb hby at_11)) ?_
  show Go p e below s _ _ _ T_2 (mkF m 13 #[.val (.int k), .val (.int ix), .val (.int dx), .unset, .unset, .unset, .unset] [(.int (65 : Int32)), (.int (1 : Int32)), (.ref b_1), (.ref b_1)])
  obtain ⟨cl_3, Ar_3, q_3, S_3, M_3, H_3, G_3⟩ := id V_2
  have hin_3 : ¬ ((1 : Int32) < 0 ∨ cl_3.slots.size ≤ ((1 : Int32)).toNatClampNeg) := inb_of S_3 ⟨by decide, by decide⟩
  obtain ⟨T_3, h_3, X_3, e_3, W_3, st_3⟩ := stI X_2 hx hZ e_2 Ar_3 (j := (1 : Int32)) hin_3 (g := (mkF m 13 #[.val (.int k), .val (.int ix), .val (.int dx), .unset, .unset, .unset, .unset] [(.int (65 : Int32)), (.int (1 : Int32)), (.ref b_1), (.ref b_1)])) rfl rfl (hb hby at_13)
  refine Go.st st_3 ?_
  have V_3 : Arv Z h_3 b_1 kA_1 .int (34 : Int32) [(.int (58 : Int32)), (.int (65 : Int32)), (.int (0 : Int32)), (.int (0 : Int32)), (.int (0 : Int32)), (.int (0 : Int32)), (.int (0 : Int32)), (.int (0 : Int32)), (.int (0 : Int32)), (.int (0 : Int32)), (.int (0 : Int32)), (.int (0 : Int32)), (.int (0 : Int32)), (.int (0 : Int32)), (.int (0 : Int32)), (.int (0 : Int32)), (.int (0 : Int32)), (.int (0 : Int32)), (.int (0 : Int32)), (.int (0 : Int32)), (.int (0 : Int32)), (.int (0 : Int32)), (.int (0 : Int32)), (.int (0 : Int32)), (.int (0 : Int32)), (.int (0 : Int32)), (.int (0 : Int32)), (.int (0 : Int32)), (.int (0 : Int32)), (.int (0 : Int32)), (.int (0 : Int32)), (.int (0 : Int32)), (.int (0 : Int32)), (.int (0 : Int32))] (.int (0 : Int32)) := Arv.set Ar_3 q_3 S_3 M_3 H_3 G_3 rfl W_3 1 rfl (Nat.le_of_ble_eq_true rfl)
  have N_3 := Fr.snoc X_3 N_2 gg_1
  have z_3 : n0 ≤ h_3.size := Nat.le_trans z_2 (Nat.le_of_eq W_3.size.symm)
  show Go p e below s _ _ _ T_3 (mkF m 14 #[.val (.int k), .val (.int ix), .val (.int dx), .unset, .unset, .unset, .unset] [(.ref b_1)])
  refine Go.st (fun _ => XS.dup X_3.here hx rfl (hb hby at_14) rfl rfl) ?_
  show Go p e below s _ _ _ T_3 (mkF m 15 #[.val (.int k), .val (.int ix), .val (.int dx), .unset, .unset, .unset, .unset] [(.ref b_1), (.ref b_1)])
  refine Go.st (fun _ => XS.iconst X_3.here hx rfl (hb hby at_15)) ?_
  show Go p e below s _ _ _ T_3 (mkF m 16 #[.val (.int k), .val (.int ix), .val (.int dx), .unset, .unset, .unset, .unset] [(.int (2 : Int32)), (.ref b_1), (.ref b_1)])
  refine Go.st (fun _ => XS.bipush X_3.here hx rfl (hb hby at_16)) ?_
  show Go p e below s _ _ _ T_3 (mkF m 18 #[.val (.int k), .val (.int ix), .val (.int dx), .unset, .unset, .unset, .unset] [(.int (90 : Int32)), (.int (2 : Int32)), (.ref b_1), (.ref b_1)])
  obtain ⟨cl_4, Ar_4, q_4, S_4, M_4, H_4, G_4⟩ := id V_3
  have hin_4 : ¬ ((2 : Int32) < 0 ∨ cl_4.slots.size ≤ ((2 : Int32)).toNatClampNeg) := inb_of S_4 ⟨by decide, by decide⟩
  obtain ⟨T_4, h_4, X_4, e_4, W_4, st_4⟩ := stI X_3 hx hZ e_3 Ar_4 (j := (2 : Int32)) hin_4 (g := (mkF m 18 #[.val (.int k), .val (.int ix), .val (.int dx), .unset, .unset, .unset, .unset] [(.int (90 : Int32)), (.int (2 : Int32)), (.ref b_1), (.ref b_1)])) rfl rfl (hb hby at_18)
  refine Go.st st_4 ?_
  have V_4 : Arv Z h_4 b_1 kA_1 .int (34 : Int32) [(.int (58 : Int32)), (.int (65 : Int32)), (.int (90 : Int32)), (.int (0 : Int32)), (.int (0 : Int32)), (.int (0 : Int32)), (.int (0 : Int32)), (.int (0 : Int32)), (.int (0 : Int32)), (.int (0 : Int32)), (.int (0 : Int32)), (.int (0 : Int32)), (.int (0 : Int32)), (.int (0 : Int32)), (.int (0 : Int32)), (.int (0 : Int32)), (.int (0 : Int32)), (.int (0 : Int32)), (.int (0 : Int32)), (.int (0 : Int32)), (.int (0 : Int32)), (.int (0 : Int32)), (.int (0 : Int32)), (.int (0 : Int32)), (.int (0 : Int32)), (.int (0 : Int32)), (.int (0 : Int32)), (.int (0 : Int32)), (.int (0 : Int32)), (.int (0 : Int32)), (.int (0 : Int32)), (.int (0 : Int32)), (.int (0 : Int32)), (.int (0 : Int32))] (.int (0 : Int32)) := Arv.set Ar_4 q_4 S_4 M_4 H_4 G_4 rfl W_4 2 rfl (Nat.le_of_ble_eq_true rfl)
  have N_4 := Fr.snoc X_4 N_3 gg_1
  have z_4 : n0 ≤ h_4.size := Nat.le_trans z_3 (Nat.le_of_eq W_4.size.symm)
  show Go p e below s _ _ _ T_4 (mkF m 19 #[.val (.int k), .val (.int ix), .val (.int dx), .unset, .unset, .unset, .unset] [(.ref b_1)])
  refine Go.st (fun _ => XS.dup X_4.here hx rfl (hb hby at_19) rfl rfl) ?_
  show Go p e below s _ _ _ T_4 (mkF m 20 #[.val (.int k), .val (.int ix), .val (.int dx), .unset, .unset, .unset, .unset] [(.ref b_1), (.ref b_1)])
  refine Go.st (fun _ => XS.iconst X_4.here hx rfl (hb hby at_20)) ?_
  show Go p e below s _ _ _ T_4 (mkF m 21 #[.val (.int k), .val (.int ix), .val (.int dx), .unset, .unset, .unset, .unset] [(.int (3 : Int32)), (.ref b_1), (.ref b_1)])
  refine Go.st (fun _ => XS.bipush X_4.here hx rfl (hb hby at_21)) ?_
  show Go p e below s _ _ _ T_4 (mkF m 23 #[.val (.int k), .val (.int ix), .val (.int dx), .unset, .unset, .unset, .unset] [(.int (95 : Int32)), (.int (3 : Int32)), (.ref b_1), (.ref b_1)])
  obtain ⟨cl_5, Ar_5, q_5, S_5, M_5, H_5, G_5⟩ := id V_4
  have hin_5 : ¬ ((3 : Int32) < 0 ∨ cl_5.slots.size ≤ ((3 : Int32)).toNatClampNeg) := inb_of S_5 ⟨by decide, by decide⟩
  obtain ⟨T_5, h_5, X_5, e_5, W_5, st_5⟩ := stI X_4 hx hZ e_4 Ar_5 (j := (3 : Int32)) hin_5 (g := (mkF m 23 #[.val (.int k), .val (.int ix), .val (.int dx), .unset, .unset, .unset, .unset] [(.int (95 : Int32)), (.int (3 : Int32)), (.ref b_1), (.ref b_1)])) rfl rfl (hb hby at_23)
  refine Go.st st_5 ?_
  have V_5 : Arv Z h_5 b_1 kA_1 .int (34 : Int32) [(.int (58 : Int32)), (.int (65 : Int32)), (.int (90 : Int32)), (.int (95 : Int32)), (.int (0 : Int32)), (.int (0 : Int32)), (.int (0 : Int32)), (.int (0 : Int32)), (.int (0 : Int32)), (.int (0 : Int32)), (.int (0 : Int32)), (.int (0 : Int32)), (.int (0 : Int32)), (.int (0 : Int32)), (.int (0 : Int32)), (.int (0 : Int32)), (.int (0 : Int32)), (.int (0 : Int32)), (.int (0 : Int32)), (.int (0 : Int32)), (.int (0 : Int32)), (.int (0 : Int32)), (.int (0 : Int32)), (.int (0 : Int32)), (.int (0 : Int32)), (.int (0 : Int32)), (.int (0 : Int32)), (.int (0 : Int32)), (.int (0 : Int32)), (.int (0 : Int32)), (.int (0 : Int32)), (.int (0 : Int32)), (.int (0 : Int32)), (.int (0 : Int32))] (.int (0 : Int32)) := Arv.set Ar_5 q_5 S_5 M_5 H_5 G_5 rfl W_5 3 rfl (Nat.le_of_ble_eq_true rfl)
  have N_5 := Fr.snoc X_5 N_4 gg_1
  have z_5 : n0 ≤ h_5.size := Nat.le_trans z_4 (Nat.le_of_eq W_5.size.symm)
  show Go p e below s _ _ _ T_5 (mkF m 24 #[.val (.int k), .val (.int ix), .val (.int dx), .unset, .unset, .unset, .unset] [(.ref b_1)])
  refine Go.st (fun _ => XS.dup X_5.here hx rfl (hb hby at_24) rfl rfl) ?_
  show Go p e below s _ _ _ T_5 (mkF m 25 #[.val (.int k), .val (.int ix), .val (.int dx), .unset, .unset, .unset, .unset] [(.ref b_1), (.ref b_1)])
  refine Go.st (fun _ => XS.iconst X_5.here hx rfl (hb hby at_25)) ?_
  show Go p e below s _ _ _ T_5 (mkF m 26 #[.val (.int k), .val (.int ix), .val (.int dx), .unset, .unset, .unset, .unset] [(.int (4 : Int32)), (.ref b_1), (.ref b_1)])
  refine Go.st (fun _ => XS.bipush X_5.here hx rfl (hb hby at_26)) ?_
  show Go p e below s _ _ _ T_5 (mkF m 28 #[.val (.int k), .val (.int ix), .val (.int dx), .unset, .unset, .unset, .unset] [(.int (97 : Int32)), (.int (4 : Int32)), (.ref b_1), (.ref b_1)])
  obtain ⟨cl_6, Ar_6, q_6, S_6, M_6, H_6, G_6⟩ := id V_5
  have hin_6 : ¬ ((4 : Int32) < 0 ∨ cl_6.slots.size ≤ ((4 : Int32)).toNatClampNeg) := inb_of S_6 ⟨by decide, by decide⟩
  obtain ⟨T_6, h_6, X_6, e_6, W_6, st_6⟩ := stI X_5 hx hZ e_5 Ar_6 (j := (4 : Int32)) hin_6 (g := (mkF m 28 #[.val (.int k), .val (.int ix), .val (.int dx), .unset, .unset, .unset, .unset] [(.int (97 : Int32)), (.int (4 : Int32)), (.ref b_1), (.ref b_1)])) rfl rfl (hb hby at_28)
  refine Go.st st_6 ?_
  have V_6 : Arv Z h_6 b_1 kA_1 .int (34 : Int32) [(.int (58 : Int32)), (.int (65 : Int32)), (.int (90 : Int32)), (.int (95 : Int32)), (.int (97 : Int32)), (.int (0 : Int32)), (.int (0 : Int32)), (.int (0 : Int32)), (.int (0 : Int32)), (.int (0 : Int32)), (.int (0 : Int32)), (.int (0 : Int32)), (.int (0 : Int32)), (.int (0 : Int32)), (.int (0 : Int32)), (.int (0 : Int32)), (.int (0 : Int32)), (.int (0 : Int32)), (.int (0 : Int32)), (.int (0 : Int32)), (.int (0 : Int32)), (.int (0 : Int32)), (.int (0 : Int32)), (.int (0 : Int32)), (.int (0 : Int32)), (.int (0 : Int32)), (.int (0 : Int32)), (.int (0 : Int32)), (.int (0 : Int32)), (.int (0 : Int32)), (.int (0 : Int32)), (.int (0 : Int32)), (.int (0 : Int32)), (.int (0 : Int32))] (.int (0 : Int32)) := Arv.set Ar_6 q_6 S_6 M_6 H_6 G_6 rfl W_6 4 rfl (Nat.le_of_ble_eq_true rfl)
  have N_6 := Fr.snoc X_6 N_5 gg_1
  have z_6 : n0 ≤ h_6.size := Nat.le_trans z_5 (Nat.le_of_eq W_6.size.symm)
  show Go p e below s _ _ _ T_6 (mkF m 29 #[.val (.int k), .val (.int ix), .val (.int dx), .unset, .unset, .unset, .unset] [(.ref b_1)])
  refine Go.st (fun _ => XS.dup X_6.here hx rfl (hb hby at_29) rfl rfl) ?_
  show Go p e below s _ _ _ T_6 (mkF m 30 #[.val (.int k), .val (.int ix), .val (.int dx), .unset, .unset, .unset, .unset] [(.ref b_1), (.ref b_1)])
  refine Go.st (fun _ => XS.iconst X_6.here hx rfl (hb hby at_30)) ?_
  show Go p e below s _ _ _ T_6 (mkF m 31 #[.val (.int k), .val (.int ix), .val (.int dx), .unset, .unset, .unset, .unset] [(.int (5 : Int32)), (.ref b_1), (.ref b_1)])
  refine Go.st (fun _ => XS.bipush X_6.here hx rfl (hb hby at_31)) ?_
  show Go p e below s _ _ _ T_6 (mkF m 33 #[.val (.int k), .val (.int ix), .val (.int dx), .unset, .unset, .unset, .unset] [(.int (122 : Int32)), (.int (5 : Int32)), (.ref b_1), (.ref b_1)])
  obtain ⟨cl_7, Ar_7, q_7, S_7, M_7, H_7, G_7⟩ := id V_6
  have hin_7 : ¬ ((5 : Int32) < 0 ∨ cl_7.slots.size ≤ ((5 : Int32)).toNatClampNeg) := inb_of S_7 ⟨by decide, by decide⟩
  obtain ⟨T_7, h_7, X_7, e_7, W_7, st_7⟩ := stI X_6 hx hZ e_6 Ar_7 (j := (5 : Int32)) hin_7 (g := (mkF m 33 #[.val (.int k), .val (.int ix), .val (.int dx), .unset, .unset, .unset, .unset] [(.int (122 : Int32)), (.int (5 : Int32)), (.ref b_1), (.ref b_1)])) rfl rfl (hb hby at_33)
  refine Go.st st_7 ?_
  have V_7 : Arv Z h_7 b_1 kA_1 .int (34 : Int32) [(.int (58 : Int32)), (.int (65 : Int32)), (.int (90 : Int32)), (.int (95 : Int32)), (.int (97 : Int32)), (.int (122 : Int32)), (.int (0 : Int32)), (.int (0 : Int32)), (.int (0 : Int32)), (.int (0 : Int32)), (.int (0 : Int32)), (.int (0 : Int32)), (.int (0 : Int32)), (.int (0 : Int32)), (.int (0 : Int32)), (.int (0 : Int32)), (.int (0 : Int32)), (.int (0 : Int32)), (.int (0 : Int32)), (.int (0 : Int32)), (.int (0 : Int32)), (.int (0 : Int32)), (.int (0 : Int32)), (.int (0 : Int32)), (.int (0 : Int32)), (.int (0 : Int32)), (.int (0 : Int32)), (.int (0 : Int32)), (.int (0 : Int32)), (.int (0 : Int32)), (.int (0 : Int32)), (.int (0 : Int32)), (.int (0 : Int32)), (.int (0 : Int32))] (.int (0 : Int32)) := Arv.set Ar_7 q_7 S_7 M_7 H_7 G_7 rfl W_7 5 rfl (Nat.le_of_ble_eq_true rfl)
  have N_7 := Fr.snoc X_7 N_6 gg_1
  have z_7 : n0 ≤ h_7.size := Nat.le_trans z_6 (Nat.le_of_eq W_7.size.symm)
  show Go p e below s _ _ _ T_7 (mkF m 34 #[.val (.int k), .val (.int ix), .val (.int dx), .unset, .unset, .unset, .unset] [(.ref b_1)])
  refine Go.st (fun _ => XS.dup X_7.here hx rfl (hb hby at_34) rfl rfl) ?_
  show Go p e below s _ _ _ T_7 (mkF m 35 #[.val (.int k), .val (.int ix), .val (.int dx), .unset, .unset, .unset, .unset] [(.ref b_1), (.ref b_1)])
  refine Go.st (fun _ => XS.bipush X_7.here hx rfl (hb hby at_35)) ?_
  show Go p e below s _ _ _ T_7 (mkF m 37 #[.val (.int k), .val (.int ix), .val (.int dx), .unset, .unset, .unset, .unset] [(.int (6 : Int32)), (.ref b_1), (.ref b_1)])
  refine Go.st (fun _ => XS.sipush X_7.here hx rfl (hb hby at_37)) ?_
  show Go p e below s _ _ _ T_7 (mkF m 40 #[.val (.int k), .val (.int ix), .val (.int dx), .unset, .unset, .unset, .unset] [(.int (192 : Int32)), (.int (6 : Int32)), (.ref b_1), (.ref b_1)])
  obtain ⟨cl_8, Ar_8, q_8, S_8, M_8, H_8, G_8⟩ := id V_7
  have hin_8 : ¬ ((6 : Int32) < 0 ∨ cl_8.slots.size ≤ ((6 : Int32)).toNatClampNeg) := inb_of S_8 ⟨by decide, by decide⟩
  obtain ⟨T_8, h_8, X_8, e_8, W_8, st_8⟩ := stI X_7 hx hZ e_7 Ar_8 (j := (6 : Int32)) hin_8 (g := (mkF m 40 #[.val (.int k), .val (.int ix), .val (.int dx), .unset, .unset, .unset, .unset] [(.int (192 : Int32)), (.int (6 : Int32)), (.ref b_1), (.ref b_1)])) rfl rfl (hb hby at_40)
  refine Go.st st_8 ?_
  have V_8 : Arv Z h_8 b_1 kA_1 .int (34 : Int32) [(.int (58 : Int32)), (.int (65 : Int32)), (.int (90 : Int32)), (.int (95 : Int32)), (.int (97 : Int32)), (.int (122 : Int32)), (.int (192 : Int32)), (.int (0 : Int32)), (.int (0 : Int32)), (.int (0 : Int32)), (.int (0 : Int32)), (.int (0 : Int32)), (.int (0 : Int32)), (.int (0 : Int32)), (.int (0 : Int32)), (.int (0 : Int32)), (.int (0 : Int32)), (.int (0 : Int32)), (.int (0 : Int32)), (.int (0 : Int32)), (.int (0 : Int32)), (.int (0 : Int32)), (.int (0 : Int32)), (.int (0 : Int32)), (.int (0 : Int32)), (.int (0 : Int32)), (.int (0 : Int32)), (.int (0 : Int32)), (.int (0 : Int32)), (.int (0 : Int32)), (.int (0 : Int32)), (.int (0 : Int32)), (.int (0 : Int32)), (.int (0 : Int32))] (.int (0 : Int32)) := Arv.set Ar_8 q_8 S_8 M_8 H_8 G_8 rfl W_8 6 rfl (Nat.le_of_ble_eq_true rfl)
  have N_8 := Fr.snoc X_8 N_7 gg_1
  have z_8 : n0 ≤ h_8.size := Nat.le_trans z_7 (Nat.le_of_eq W_8.size.symm)
  show Go p e below s _ _ _ T_8 (mkF m 41 #[.val (.int k), .val (.int ix), .val (.int dx), .unset, .unset, .unset, .unset] [(.ref b_1)])
  refine Go.st (fun _ => XS.dup X_8.here hx rfl (hb hby at_41) rfl rfl) ?_
  show Go p e below s _ _ _ T_8 (mkF m 42 #[.val (.int k), .val (.int ix), .val (.int dx), .unset, .unset, .unset, .unset] [(.ref b_1), (.ref b_1)])
  refine Go.st (fun _ => XS.bipush X_8.here hx rfl (hb hby at_42)) ?_
  show Go p e below s _ _ _ T_8 (mkF m 44 #[.val (.int k), .val (.int ix), .val (.int dx), .unset, .unset, .unset, .unset] [(.int (7 : Int32)), (.ref b_1), (.ref b_1)])
  refine Go.st (fun _ => XS.sipush X_8.here hx rfl (hb hby at_44)) ?_
  show Go p e below s _ _ _ T_8 (mkF m 47 #[.val (.int k), .val (.int ix), .val (.int dx), .unset, .unset, .unset, .unset] [(.int (214 : Int32)), (.int (7 : Int32)), (.ref b_1), (.ref b_1)])
  obtain ⟨cl_9, Ar_9, q_9, S_9, M_9, H_9, G_9⟩ := id V_8
  have hin_9 : ¬ ((7 : Int32) < 0 ∨ cl_9.slots.size ≤ ((7 : Int32)).toNatClampNeg) := inb_of S_9 ⟨by decide, by decide⟩
  obtain ⟨T_9, h_9, X_9, e_9, W_9, st_9⟩ := stI X_8 hx hZ e_8 Ar_9 (j := (7 : Int32)) hin_9 (g := (mkF m 47 #[.val (.int k), .val (.int ix), .val (.int dx), .unset, .unset, .unset, .unset] [(.int (214 : Int32)), (.int (7 : Int32)), (.ref b_1), (.ref b_1)])) rfl rfl (hb hby at_47)
  refine Go.st st_9 ?_
  have V_9 : Arv Z h_9 b_1 kA_1 .int (34 : Int32) [(.int (58 : Int32)), (.int (65 : Int32)), (.int (90 : Int32)), (.int (95 : Int32)), (.int (97 : Int32)), (.int (122 : Int32)), (.int (192 : Int32)), (.int (214 : Int32)), (.int (0 : Int32)), (.int (0 : Int32)), (.int (0 : Int32)), (.int (0 : Int32)), (.int (0 : Int32)), (.int (0 : Int32)), (.int (0 : Int32)), (.int (0 : Int32)), (.int (0 : Int32)), (.int (0 : Int32)), (.int (0 : Int32)), (.int (0 : Int32)), (.int (0 : Int32)), (.int (0 : Int32)), (.int (0 : Int32)), (.int (0 : Int32)), (.int (0 : Int32)), (.int (0 : Int32)), (.int (0 : Int32)), (.int (0 : Int32)), (.int (0 : Int32)), (.int (0 : Int32)), (.int (0 : Int32)), (.int (0 : Int32)), (.int (0 : Int32)), (.int (0 : Int32))] (.int (0 : Int32)) := Arv.set Ar_9 q_9 S_9 M_9 H_9 G_9 rfl W_9 7 rfl (Nat.le_of_ble_eq_true rfl)
  have N_9 := Fr.snoc X_9 N_8 gg_1
  have z_9 : n0 ≤ h_9.size := Nat.le_trans z_8 (Nat.le_of_eq W_9.size.symm)
  show Go p e below s _ _ _ T_9 (mkF m 48 #[.val (.int k), .val (.int ix), .val (.int dx), .unset, .unset, .unset, .unset] [(.ref b_1)])
  refine Go.st (fun _ => XS.dup X_9.here hx rfl (hb hby at_48) rfl rfl) ?_
  show Go p e below s _ _ _ T_9 (mkF m 49 #[.val (.int k), .val (.int ix), .val (.int dx), .unset, .unset, .unset, .unset] [(.ref b_1), (.ref b_1)])
  refine Go.st (fun _ => XS.bipush X_9.here hx rfl (hb hby at_49)) ?_
  show Go p e below s _ _ _ T_9 (mkF m 51 #[.val (.int k), .val (.int ix), .val (.int dx), .unset, .unset, .unset, .unset] [(.int (8 : Int32)), (.ref b_1), (.ref b_1)])
  refine Go.st (fun _ => XS.sipush X_9.here hx rfl (hb hby at_51)) ?_
  show Go p e below s _ _ _ T_9 (mkF m 54 #[.val (.int k), .val (.int ix), .val (.int dx), .unset, .unset, .unset, .unset] [(.int (216 : Int32)), (.int (8 : Int32)), (.ref b_1), (.ref b_1)])
  obtain ⟨cl_10, Ar_10, q_10, S_10, M_10, H_10, G_10⟩ := id V_9
  have hin_10 : ¬ ((8 : Int32) < 0 ∨ cl_10.slots.size ≤ ((8 : Int32)).toNatClampNeg) := inb_of S_10 ⟨by decide, by decide⟩
  obtain ⟨T_10, h_10, X_10, e_10, W_10, st_10⟩ := stI X_9 hx hZ e_9 Ar_10 (j := (8 : Int32)) hin_10 (g := (mkF m 54 #[.val (.int k), .val (.int ix), .val (.int dx), .unset, .unset, .unset, .unset] [(.int (216 : Int32)), (.int (8 : Int32)), (.ref b_1), (.ref b_1)])) rfl rfl (hb hby at_54)
  refine Go.st st_10 ?_
  have V_10 : Arv Z h_10 b_1 kA_1 .int (34 : Int32) [(.int (58 : Int32)), (.int (65 : Int32)), (.int (90 : Int32)), (.int (95 : Int32)), (.int (97 : Int32)), (.int (122 : Int32)), (.int (192 : Int32)), (.int (214 : Int32)), (.int (216 : Int32)), (.int (0 : Int32)), (.int (0 : Int32)), (.int (0 : Int32)), (.int (0 : Int32)), (.int (0 : Int32)), (.int (0 : Int32)), (.int (0 : Int32)), (.int (0 : Int32)), (.int (0 : Int32)), (.int (0 : Int32)), (.int (0 : Int32)), (.int (0 : Int32)), (.int (0 : Int32)), (.int (0 : Int32)), (.int (0 : Int32)), (.int (0 : Int32)), (.int (0 : Int32)), (.int (0 : Int32)), (.int (0 : Int32)), (.int (0 : Int32)), (.int (0 : Int32)), (.int (0 : Int32)), (.int (0 : Int32)), (.int (0 : Int32)), (.int (0 : Int32))] (.int (0 : Int32)) := Arv.set Ar_10 q_10 S_10 M_10 H_10 G_10 rfl W_10 8 rfl (Nat.le_of_ble_eq_true rfl)
  have N_10 := Fr.snoc X_10 N_9 gg_1
  have z_10 : n0 ≤ h_10.size := Nat.le_trans z_9 (Nat.le_of_eq W_10.size.symm)
  show Go p e below s _ _ _ T_10 (mkF m 55 #[.val (.int k), .val (.int ix), .val (.int dx), .unset, .unset, .unset, .unset] [(.ref b_1)])
  refine Go.st (fun _ => XS.dup X_10.here hx rfl (hb hby at_55) rfl rfl) ?_
  show Go p e below s _ _ _ T_10 (mkF m 56 #[.val (.int k), .val (.int ix), .val (.int dx), .unset, .unset, .unset, .unset] [(.ref b_1), (.ref b_1)])
  refine Go.st (fun _ => XS.bipush X_10.here hx rfl (hb hby at_56)) ?_
  show Go p e below s _ _ _ T_10 (mkF m 58 #[.val (.int k), .val (.int ix), .val (.int dx), .unset, .unset, .unset, .unset] [(.int (9 : Int32)), (.ref b_1), (.ref b_1)])
  refine Go.st (fun _ => XS.sipush X_10.here hx rfl (hb hby at_58)) ?_
  show Go p e below s _ _ _ T_10 (mkF m 61 #[.val (.int k), .val (.int ix), .val (.int dx), .unset, .unset, .unset, .unset] [(.int (246 : Int32)), (.int (9 : Int32)), (.ref b_1), (.ref b_1)])
  obtain ⟨cl_11, Ar_11, q_11, S_11, M_11, H_11, G_11⟩ := id V_10
  have hin_11 : ¬ ((9 : Int32) < 0 ∨ cl_11.slots.size ≤ ((9 : Int32)).toNatClampNeg) := inb_of S_11 ⟨by decide, by decide⟩
  obtain ⟨T_11, h_11, X_11, e_11, W_11, st_11⟩ := stI X_10 hx hZ e_10 Ar_11 (j := (9 : Int32)) hin_11 (g := (mkF m 61 #[.val (.int k), .val (.int ix), .val (.int dx), .unset, .unset, .unset, .unset] [(.int (246 : Int32)), (.int (9 : Int32)), (.ref b_1), (.ref b_1)])) rfl rfl (hb hby at_61)
  refine Go.st st_11 ?_
  have V_11 : Arv Z h_11 b_1 kA_1 .int (34 : Int32) [(.int (58 : Int32)), (.int (65 : Int32)), (.int (90 : Int32)), (.int (95 : Int32)), (.int (97 : Int32)), (.int (122 : Int32)), (.int (192 : Int32)), (.int (214 : Int32)), (.int (216 : Int32)), (.int (246 : Int32)), (.int (0 : Int32)), (.int (0 : Int32)), (.int (0 : Int32)), (.int (0 : Int32)), (.int (0 : Int32)), (.int (0 : Int32)), (.int (0 : Int32)), (.int (0 : Int32)), (.int (0 : Int32)), (.int (0 : Int32)), (.int (0 : Int32)), (.int (0 : Int32)), (.int (0 : Int32)), (.int (0 : Int32)), (.int (0 : Int32)), (.int (0 : Int32)), (.int (0 : Int32)), (.int (0 : Int32)), (.int (0 : Int32)), (.int (0 : Int32)), (.int (0 : Int32)), (.int (0 : Int32)), (.int (0 : Int32)), (.int (0 : Int32))] (.int (0 : Int32)) := Arv.set Ar_11 q_11 S_11 M_11 H_11 G_11 rfl W_11 9 rfl (Nat.le_of_ble_eq_true rfl)
  have N_11 := Fr.snoc X_11 N_10 gg_1
  have z_11 : n0 ≤ h_11.size := Nat.le_trans z_10 (Nat.le_of_eq W_11.size.symm)
  show Go p e below s _ _ _ T_11 (mkF m 62 #[.val (.int k), .val (.int ix), .val (.int dx), .unset, .unset, .unset, .unset] [(.ref b_1)])
  refine Go.st (fun _ => XS.dup X_11.here hx rfl (hb hby at_62) rfl rfl) ?_
  show Go p e below s _ _ _ T_11 (mkF m 63 #[.val (.int k), .val (.int ix), .val (.int dx), .unset, .unset, .unset, .unset] [(.ref b_1), (.ref b_1)])
  refine Go.st (fun _ => XS.bipush X_11.here hx rfl (hb hby at_63)) ?_
  show Go p e below s _ _ _ T_11 (mkF m 65 #[.val (.int k), .val (.int ix), .val (.int dx), .unset, .unset, .unset, .unset] [(.int (10 : Int32)), (.ref b_1), (.ref b_1)])
  refine Go.st (fun _ => XS.sipush X_11.here hx rfl (hb hby at_65)) ?_
  show Go p e below s _ _ _ T_11 (mkF m 68 #[.val (.int k), .val (.int ix), .val (.int dx), .unset, .unset, .unset, .unset] [(.int (248 : Int32)), (.int (10 : Int32)), (.ref b_1), (.ref b_1)])
  obtain ⟨cl_12, Ar_12, q_12, S_12, M_12, H_12, G_12⟩ := id V_11
  have hin_12 : ¬ ((10 : Int32) < 0 ∨ cl_12.slots.size ≤ ((10 : Int32)).toNatClampNeg) := inb_of S_12 ⟨by decide, by decide⟩
  obtain ⟨T_12, h_12, X_12, e_12, W_12, st_12⟩ := stI X_11 hx hZ e_11 Ar_12 (j := (10 : Int32)) hin_12 (g := (mkF m 68 #[.val (.int k), .val (.int ix), .val (.int dx), .unset, .unset, .unset, .unset] [(.int (248 : Int32)), (.int (10 : Int32)), (.ref b_1), (.ref b_1)])) rfl rfl (hb hby at_68)
  refine Go.st st_12 ?_
  have V_12 : Arv Z h_12 b_1 kA_1 .int (34 : Int32) [(.int (58 : Int32)), (.int (65 : Int32)), (.int (90 : Int32)), (.int (95 : Int32)), (.int (97 : Int32)), (.int (122 : Int32)), (.int (192 : Int32)), (.int (214 : Int32)), (.int (216 : Int32)), (.int (246 : Int32)), (.int (248 : Int32)), (.int (0 : Int32)), (.int (0 : Int32)), (.int (0 : Int32)), (.int (0 : Int32)), (.int (0 : Int32)), (.int (0 : Int32)), (.int (0 : Int32)), (.int (0 : Int32)), (.int (0 : Int32)), (.int (0 : Int32)), (.int (0 : Int32)), (.int (0 : Int32)), (.int (0 : Int32)), (.int (0 : Int32)), (.int (0 : Int32)), (.int (0 : Int32)), (.int (0 : Int32)), (.int (0 : Int32)), (.int (0 : Int32)), (.int (0 : Int32)), (.int (0 : Int32)), (.int (0 : Int32)), (.int (0 : Int32))] (.int (0 : Int32)) := Arv.set Ar_12 q_12 S_12 M_12 H_12 G_12 rfl W_12 10 rfl (Nat.le_of_ble_eq_true rfl)
  have N_12 := Fr.snoc X_12 N_11 gg_1
  have z_12 : n0 ≤ h_12.size := Nat.le_trans z_11 (Nat.le_of_eq W_12.size.symm)
  show Go p e below s _ _ _ T_12 (mkF m 69 #[.val (.int k), .val (.int ix), .val (.int dx), .unset, .unset, .unset, .unset] [(.ref b_1)])
  refine Go.st (fun _ => XS.dup X_12.here hx rfl (hb hby at_69) rfl rfl) ?_
  show Go p e below s _ _ _ T_12 (mkF m 70 #[.val (.int k), .val (.int ix), .val (.int dx), .unset, .unset, .unset, .unset] [(.ref b_1), (.ref b_1)])
  refine Go.st (fun _ => XS.bipush X_12.here hx rfl (hb hby at_70)) ?_
  show Go p e below s _ _ _ T_12 (mkF m 72 #[.val (.int k), .val (.int ix), .val (.int dx), .unset, .unset, .unset, .unset] [(.int (11 : Int32)), (.ref b_1), (.ref b_1)])
  refine Go.st (fun _ => XS.sipush X_12.here hx rfl (hb hby at_72)) ?_
  show Go p e below s _ _ _ T_12 (mkF m 75 #[.val (.int k), .val (.int ix), .val (.int dx), .unset, .unset, .unset, .unset] [(.int (767 : Int32)), (.int (11 : Int32)), (.ref b_1), (.ref b_1)])
  obtain ⟨cl_13, Ar_13, q_13, S_13, M_13, H_13, G_13⟩ := id V_12
  have hin_13 : ¬ ((11 : Int32) < 0 ∨ cl_13.slots.size ≤ ((11 : Int32)).toNatClampNeg) := inb_of S_13 ⟨by decide, by decide⟩
  obtain ⟨T_13, h_13, X_13, e_13, W_13, st_13⟩ := stI X_12 hx hZ e_12 Ar_13 (j := (11 : Int32)) hin_13 (g := (mkF m 75 #[.val (.int k), .val (.int ix), .val (.int dx), .unset, .unset, .unset, .unset] [(.int (767 : Int32)), (.int (11 : Int32)), (.ref b_1), (.ref b_1)])) rfl rfl (hb hby at_75)
  refine Go.st st_13 ?_
  have V_13 : Arv Z h_13 b_1 kA_1 .int (34 : Int32) [(.int (58 : Int32)), (.int (65 : Int32)), (.int (90 : Int32)), (.int (95 : Int32)), (.int (97 : Int32)), (.int (122 : Int32)), (.int (192 : Int32)), (.int (214 : Int32)), (.int (216 : Int32)), (.int (246 : Int32)), (.int (248 : Int32)), (.int (767 : Int32)), (.int (0 : Int32)), (.int (0 : Int32)), (.int (0 : Int32)), (.int (0 : Int32)), (.int (0 : Int32)), (.int (0 : Int32)), (.int (0 : Int32)), (.int (0 : Int32)), (.int (0 : Int32)), (.int (0 : Int32)), (.int (0 : Int32)), (.int (0 : Int32)), (.int (0 : Int32)), (.int (0 : Int32)), (.int (0 : Int32)), (.int (0 : Int32)), (.int (0 : Int32)), (.int (0 : Int32)), (.int (0 : Int32)), (.int (0 : Int32)), (.int (0 : Int32)), (.int (0 : Int32))] (.int (0 : Int32)) := Arv.set Ar_13 q_13 S_13 M_13 H_13 G_13 rfl W_13 11 rfl (Nat.le_of_ble_eq_true rfl)
  have N_13 := Fr.snoc X_13 N_12 gg_1
  have z_13 : n0 ≤ h_13.size := Nat.le_trans z_12 (Nat.le_of_eq W_13.size.symm)
  show Go p e below s _ _ _ T_13 (mkF m 76 #[.val (.int k), .val (.int ix), .val (.int dx), .unset, .unset, .unset, .unset] [(.ref b_1)])
  refine Go.st (fun _ => XS.dup X_13.here hx rfl (hb hby at_76) rfl rfl) ?_
  show Go p e below s _ _ _ T_13 (mkF m 77 #[.val (.int k), .val (.int ix), .val (.int dx), .unset, .unset, .unset, .unset] [(.ref b_1), (.ref b_1)])
  refine Go.st (fun _ => XS.bipush X_13.here hx rfl (hb hby at_77)) ?_
  show Go p e below s _ _ _ T_13 (mkF m 79 #[.val (.int k), .val (.int ix), .val (.int dx), .unset, .unset, .unset, .unset] [(.int (12 : Int32)), (.ref b_1), (.ref b_1)])
  refine Go.st (fun _ => XS.sipush X_13.here hx rfl (hb hby at_79)) ?_
  show Go p e below s _ _ _ T_13 (mkF m 82 #[.val (.int k), .val (.int ix), .val (.int dx), .unset, .unset, .unset, .unset] [(.int (880 : Int32)), (.int (12 : Int32)), (.ref b_1), (.ref b_1)])
  obtain ⟨cl_14, Ar_14, q_14, S_14, M_14, H_14, G_14⟩ := id V_13
  have hin_14 : ¬ ((12 : Int32) < 0 ∨ cl_14.slots.size ≤ ((12 : Int32)).toNatClampNeg) := inb_of S_14 ⟨by decide, by decide⟩
  obtain ⟨T_14, h_14, X_14, e_14, W_14, st_14⟩ := stI X_13 hx hZ e_13 Ar_14 (j := (12 : Int32)) hin_14 (g := (mkF m 82 #[.val (.int k), .val (.int ix), .val (.int dx), .unset, .unset, .unset, .unset] [(.int (880 : Int32)), (.int (12 : Int32)), (.ref b_1), (.ref b_1)])) rfl rfl (hb hby at_82)
  refine Go.st st_14 ?_
  have V_14 : Arv Z h_14 b_1 kA_1 .int (34 : Int32) [(.int (58 : Int32)), (.int (65 : Int32)), (.int (90 : Int32)), (.int (95 : Int32)), (.int (97 : Int32)), (.int (122 : Int32)), (.int (192 : Int32)), (.int (214 : Int32)), (.int (216 : Int32)), (.int (246 : Int32)), (.int (248 : Int32)), (.int (767 : Int32)), (.int (880 : Int32)), (.int (0 : Int32)), (.int (0 : Int32)), (.int (0 : Int32)), (.int (0 : Int32)), (.int (0 : Int32)), (.int (0 : Int32)), (.int (0 : Int32)), (.int (0 : Int32)), (.int (0 : Int32)), (.int (0 : Int32)), (.int (0 : Int32)), (.int (0 : Int32)), (.int (0 : Int32)), (.int (0 : Int32)), (.int (0 : Int32)), (.int (0 : Int32)), (.int (0 : Int32)), (.int (0 : Int32)), (.int (0 : Int32)), (.int (0 : Int32)), (.int (0 : Int32))] (.int (0 : Int32)) := Arv.set Ar_14 q_14 S_14 M_14 H_14 G_14 rfl W_14 12 rfl (Nat.le_of_ble_eq_true rfl)
  have N_14 := Fr.snoc X_14 N_13 gg_1
  have z_14 : n0 ≤ h_14.size := Nat.le_trans z_13 (Nat.le_of_eq W_14.size.symm)
  show Go p e below s _ _ _ T_14 (mkF m 83 #[.val (.int k), .val (.int ix), .val (.int dx), .unset, .unset, .unset, .unset] [(.ref b_1)])
  refine Go.st (fun _ => XS.dup X_14.here hx rfl (hb hby at_83) rfl rfl) ?_
  show Go p e below s _ _ _ T_14 (mkF m 84 #[.val (.int k), .val (.int ix), .val (.int dx), .unset, .unset, .unset, .unset] [(.ref b_1), (.ref b_1)])
  refine Go.st (fun _ => XS.bipush X_14.here hx rfl (hb hby at_84)) ?_
  show Go p e below s _ _ _ T_14 (mkF m 86 #[.val (.int k), .val (.int ix), .val (.int dx), .unset, .unset, .unset, .unset] [(.int (13 : Int32)), (.ref b_1), (.ref b_1)])
  refine Go.st (fun _ => XS.sipush X_14.here hx rfl (hb hby at_86)) ?_
  show Go p e below s _ _ _ T_14 (mkF m 89 #[.val (.int k), .val (.int ix), .val (.int dx), .unset, .unset, .unset, .unset] [(.int (893 : Int32)), (.int (13 : Int32)), (.ref b_1), (.ref b_1)])
  obtain ⟨cl_15, Ar_15, q_15, S_15, M_15, H_15, G_15⟩ := id V_14
  have hin_15 : ¬ ((13 : Int32) < 0 ∨ cl_15.slots.size ≤ ((13 : Int32)).toNatClampNeg) := inb_of S_15 ⟨by decide, by decide⟩
  obtain ⟨T_15, h_15, X_15, e_15, W_15, st_15⟩ := stI X_14 hx hZ e_14 Ar_15 (j := (13 : Int32)) hin_15 (g := (mkF m 89 #[.val (.int k), .val (.int ix), .val (.int dx), .unset, .unset, .unset, .unset] [(.int (893 : Int32)), (.int (13 : Int32)), (.ref b_1), (.ref b_1)])) rfl rfl (hb hby at_89)
  refine Go.st st_15 ?_
  have V_15 : Arv Z h_15 b_1 kA_1 .int (34 : Int32) [(.int (58 : Int32)), (.int (65 : Int32)), (.int (90 : Int32)), (.int (95 : Int32)), (.int (97 : Int32)), (.int (122 : Int32)), (.int (192 : Int32)), (.int (214 : Int32)), (.int (216 : Int32)), (.int (246 : Int32)), (.int (248 : Int32)), (.int (767 : Int32)), (.int (880 : Int32)), (.int (893 : Int32)), (.int (0 : Int32)), (.int (0 : Int32)), (.int (0 : Int32)), (.int (0 : Int32)), (.int (0 : Int32)), (.int (0 : Int32)), (.int (0 : Int32)), (.int (0 : Int32)), (.int (0 : Int32)), (.int (0 : Int32)), (.int (0 : Int32)), (.int (0 : Int32)), (.int (0 : Int32)), (.int (0 : Int32)), (.int (0 : Int32)), (.int (0 : Int32)), (.int (0 : Int32)), (.int (0 : Int32)), (.int (0 : Int32)), (.int (0 : Int32))] (.int (0 : Int32)) := Arv.set Ar_15 q_15 S_15 M_15 H_15 G_15 rfl W_15 13 rfl (Nat.le_of_ble_eq_true rfl)
  have N_15 := Fr.snoc X_15 N_14 gg_1
  have z_15 : n0 ≤ h_15.size := Nat.le_trans z_14 (Nat.le_of_eq W_15.size.symm)
  show Go p e below s _ _ _ T_15 (mkF m 90 #[.val (.int k), .val (.int ix), .val (.int dx), .unset, .unset, .unset, .unset] [(.ref b_1)])
  refine Go.st (fun _ => XS.dup X_15.here hx rfl (hb hby at_90) rfl rfl) ?_
  show Go p e below s _ _ _ T_15 (mkF m 91 #[.val (.int k), .val (.int ix), .val (.int dx), .unset, .unset, .unset, .unset] [(.ref b_1), (.ref b_1)])
  refine Go.st (fun _ => XS.bipush X_15.here hx rfl (hb hby at_91)) ?_
  show Go p e below s _ _ _ T_15 (mkF m 93 #[.val (.int k), .val (.int ix), .val (.int dx), .unset, .unset, .unset, .unset] [(.int (14 : Int32)), (.ref b_1), (.ref b_1)])
  refine Go.st (fun _ => XS.sipush X_15.here hx rfl (hb hby at_93)) ?_
  show Go p e below s _ _ _ T_15 (mkF m 96 #[.val (.int k), .val (.int ix), .val (.int dx), .unset, .unset, .unset, .unset] [(.int (895 : Int32)), (.int (14 : Int32)), (.ref b_1), (.ref b_1)])
  obtain ⟨cl_16, Ar_16, q_16, S_16, M_16, H_16, G_16⟩ := id V_15
  have hin_16 : ¬ ((14 : Int32) < 0 ∨ cl_16.slots.size ≤ ((14 : Int32)).toNatClampNeg) := inb_of S_16 ⟨by decide, by decide⟩
  obtain ⟨T_16, h_16, X_16, e_16, W_16, st_16⟩ := stI X_15 hx hZ e_15 Ar_16 (j := (14 : Int32)) hin_16 (g := (mkF m 96 #[.val (.int k), .val (.int ix), .val (.int dx), .unset, .unset, .unset, .unset] [(.int (895 : Int32)), (.int (14 : Int32)), (.ref b_1), (.ref b_1)])) rfl rfl (hb hby at_96)
  refine Go.st st_16 ?_
  have V_16 : Arv Z h_16 b_1 kA_1 .int (34 : Int32) [(.int (58 : Int32)), (.int (65 : Int32)), (.int (90 : Int32)), (.int (95 : Int32)), (.int (97 : Int32)), (.int (122 : Int32)), (.int (192 : Int32)), (.int (214 : Int32)), (.int (216 : Int32)), (.int (246 : Int32)), (.int (248 : Int32)), (.int (767 : Int32)), (.int (880 : Int32)), (.int (893 : Int32)), (.int (895 : Int32)), (.int (0 : Int32)), (.int (0 : Int32)), (.int (0 : Int32)), (.int (0 : Int32)), (.int (0 : Int32)), (.int (0 : Int32)), (.int (0 : Int32)), (.int (0 : Int32)), (.int (0 : Int32)), (.int (0 : Int32)), (.int (0 : Int32)), (.int (0 : Int32)), (.int (0 : Int32)), (.int (0 : Int32)), (.int (0 : Int32)), (.int (0 : Int32)), (.int (0 : Int32)), (.int (0 : Int32)), (.int (0 : Int32))] (.int (0 : Int32)) := Arv.set Ar_16 q_16 S_16 M_16 H_16 G_16 rfl W_16 14 rfl (Nat.le_of_ble_eq_true rfl)
  have N_16 := Fr.snoc X_16 N_15 gg_1
  have z_16 : n0 ≤ h_16.size := Nat.le_trans z_15 (Nat.le_of_eq W_16.size.symm)
  show Go p e below s _ _ _ T_16 (mkF m 97 #[.val (.int k), .val (.int ix), .val (.int dx), .unset, .unset, .unset, .unset] [(.ref b_1)])
  refine Go.st (fun _ => XS.dup X_16.here hx rfl (hb hby at_97) rfl rfl) ?_
  show Go p e below s _ _ _ T_16 (mkF m 98 #[.val (.int k), .val (.int ix), .val (.int dx), .unset, .unset, .unset, .unset] [(.ref b_1), (.ref b_1)])
  refine Go.st (fun _ => XS.bipush X_16.here hx rfl (hb hby at_98)) ?_
  show Go p e below s _ _ _ T_16 (mkF m 100 #[.val (.int k), .val (.int ix), .val (.int dx), .unset, .unset, .unset, .unset] [(.int (15 : Int32)), (.ref b_1), (.ref b_1)])
  refine Go.st (fun _ => XS.sipush X_16.here hx rfl (hb hby at_100)) ?_
  show Go p e below s _ _ _ T_16 (mkF m 103 #[.val (.int k), .val (.int ix), .val (.int dx), .unset, .unset, .unset, .unset] [(.int (8191 : Int32)), (.int (15 : Int32)), (.ref b_1), (.ref b_1)])
  obtain ⟨cl_17, Ar_17, q_17, S_17, M_17, H_17, G_17⟩ := id V_16
  have hin_17 : ¬ ((15 : Int32) < 0 ∨ cl_17.slots.size ≤ ((15 : Int32)).toNatClampNeg) := inb_of S_17 ⟨by decide, by decide⟩
  obtain ⟨T_17, h_17, X_17, e_17, W_17, st_17⟩ := stI X_16 hx hZ e_16 Ar_17 (j := (15 : Int32)) hin_17 (g := (mkF m 103 #[.val (.int k), .val (.int ix), .val (.int dx), .unset, .unset, .unset, .unset] [(.int (8191 : Int32)), (.int (15 : Int32)), (.ref b_1), (.ref b_1)])) rfl rfl (hb hby at_103)
  refine Go.st st_17 ?_
  have V_17 : Arv Z h_17 b_1 kA_1 .int (34 : Int32) [(.int (58 : Int32)), (.int (65 : Int32)), (.int (90 : Int32)), (.int (95 : Int32)), (.int (97 : Int32)), (.int (122 : Int32)), (.int (192 : Int32)), (.int (214 : Int32)), (.int (216 : Int32)), (.int (246 : Int32)), (.int (248 : Int32)), (.int (767 : Int32)), (.int (880 : Int32)), (.int (893 : Int32)), (.int (895 : Int32)), (.int (8191 : Int32)), (.int (0 : Int32)), (.int (0 : Int32)), (.int (0 : Int32)), (.int (0 : Int32)), (.int (0 : Int32)), (.int (0 : Int32)), (.int (0 : Int32)), (.int (0 : Int32)), (.int (0 : Int32)), (.int (0 : Int32)), (.int (0 : Int32)), (.int (0 : Int32)), (.int (0 : Int32)), (.int (0 : Int32)), (.int (0 : Int32)), (.int (0 : Int32)), (.int (0 : Int32)), (.int (0 : Int32))] (.int (0 : Int32)) := Arv.set Ar_17 q_17 S_17 M_17 H_17 G_17 rfl W_17 15 rfl (Nat.le_of_ble_eq_true rfl)
  have N_17 := Fr.snoc X_17 N_16 gg_1
  have z_17 : n0 ≤ h_17.size := Nat.le_trans z_16 (Nat.le_of_eq W_17.size.symm)
  show Go p e below s _ _ _ T_17 (mkF m 104 #[.val (.int k), .val (.int ix), .val (.int dx), .unset, .unset, .unset, .unset] [(.ref b_1)])
  refine Go.st (fun _ => XS.dup X_17.here hx rfl (hb hby at_104) rfl rfl) ?_
  show Go p e below s _ _ _ T_17 (mkF m 105 #[.val (.int k), .val (.int ix), .val (.int dx), .unset, .unset, .unset, .unset] [(.ref b_1), (.ref b_1)])
  refine Go.st (fun _ => XS.bipush X_17.here hx rfl (hb hby at_105)) ?_
  show Go p e below s _ _ _ T_17 (mkF m 107 #[.val (.int k), .val (.int ix), .val (.int dx), .unset, .unset, .unset, .unset] [(.int (16 : Int32)), (.ref b_1), (.ref b_1)])
  refine Go.st (fun _ => XS.sipush X_17.here hx rfl (hb hby at_107)) ?_
  show Go p e below s _ _ _ T_17 (mkF m 110 #[.val (.int k), .val (.int ix), .val (.int dx), .unset, .unset, .unset, .unset] [(.int (8204 : Int32)), (.int (16 : Int32)), (.ref b_1), (.ref b_1)])
  obtain ⟨cl_18, Ar_18, q_18, S_18, M_18, H_18, G_18⟩ := id V_17
  have hin_18 : ¬ ((16 : Int32) < 0 ∨ cl_18.slots.size ≤ ((16 : Int32)).toNatClampNeg) := inb_of S_18 ⟨by decide, by decide⟩
  obtain ⟨T_18, h_18, X_18, e_18, W_18, st_18⟩ := stI X_17 hx hZ e_17 Ar_18 (j := (16 : Int32)) hin_18 (g := (mkF m 110 #[.val (.int k), .val (.int ix), .val (.int dx), .unset, .unset, .unset, .unset] [(.int (8204 : Int32)), (.int (16 : Int32)), (.ref b_1), (.ref b_1)])) rfl rfl (hb hby at_110)
  refine Go.st st_18 ?_
  have V_18 : Arv Z h_18 b_1 kA_1 .int (34 : Int32) [(.int (58 : Int32)), (.int (65 : Int32)), (.int (90 : Int32)), (.int (95 : Int32)), (.int (97 : Int32)), (.int (122 : Int32)), (.int (192 : Int32)), (.int (214 : Int32)), (.int (216 : Int32)), (.int (246 : Int32)), (.int (248 : Int32)), (.int (767 : Int32)), (.int (880 : Int32)), (.int (893 : Int32)), (.int (895 : Int32)), (.int (8191 : Int32)), (.int (8204 : Int32)), (.int (0 : Int32)), (.int (0 : Int32)), (.int (0 : Int32)), (.int (0 : Int32)), (.int (0 : Int32)), (.int (0 : Int32)), (.int (0 : Int32)), (.int (0 : Int32)), (.int (0 : Int32)), (.int (0 : Int32)), (.int (0 : Int32)), (.int (0 : Int32)), (.int (0 : Int32)), (.int (0 : Int32)), (.int (0 : Int32)), (.int (0 : Int32)), (.int (0 : Int32))] (.int (0 : Int32)) := Arv.set Ar_18 q_18 S_18 M_18 H_18 G_18 rfl W_18 16 rfl (Nat.le_of_ble_eq_true rfl)
  have N_18 := Fr.snoc X_18 N_17 gg_1
  have z_18 : n0 ≤ h_18.size := Nat.le_trans z_17 (Nat.le_of_eq W_18.size.symm)
  show Go p e below s _ _ _ T_18 (mkF m 111 #[.val (.int k), .val (.int ix), .val (.int dx), .unset, .unset, .unset, .unset] [(.ref b_1)])
  refine Go.st (fun _ => XS.dup X_18.here hx rfl (hb hby at_111) rfl rfl) ?_
  show Go p e below s _ _ _ T_18 (mkF m 112 #[.val (.int k), .val (.int ix), .val (.int dx), .unset, .unset, .unset, .unset] [(.ref b_1), (.ref b_1)])
  refine Go.st (fun _ => XS.bipush X_18.here hx rfl (hb hby at_112)) ?_
  show Go p e below s _ _ _ T_18 (mkF m 114 #[.val (.int k), .val (.int ix), .val (.int dx), .unset, .unset, .unset, .unset] [(.int (17 : Int32)), (.ref b_1), (.ref b_1)])
  refine Go.st (fun _ => XS.sipush X_18.here hx rfl (hb hby at_114)) ?_
  show Go p e below s _ _ _ T_18 (mkF m 117 #[.val (.int k), .val (.int ix), .val (.int dx), .unset, .unset, .unset, .unset] [(.int (8205 : Int32)), (.int (17 : Int32)), (.ref b_1), (.ref b_1)])
  obtain ⟨cl_19, Ar_19, q_19, S_19, M_19, H_19, G_19⟩ := id V_18
  have hin_19 : ¬ ((17 : Int32) < 0 ∨ cl_19.slots.size ≤ ((17 : Int32)).toNatClampNeg) := inb_of S_19 ⟨by decide, by decide⟩
  obtain ⟨T_19, h_19, X_19, e_19, W_19, st_19⟩ := stI X_18 hx hZ e_18 Ar_19 (j := (17 : Int32)) hin_19 (g := (mkF m 117 #[.val (.int k), .val (.int ix), .val (.int dx), .unset, .unset, .unset, .unset] [(.int (8205 : Int32)), (.int (17 : Int32)), (.ref b_1), (.ref b_1)])) rfl rfl (hb hby at_117)
  refine Go.st st_19 ?_
  have V_19 : Arv Z h_19 b_1 kA_1 .int (34 : Int32) [(.int (58 : Int32)), (.int (65 : Int32)), (.int (90 : Int32)), (.int (95 : Int32)), (.int (97 : Int32)), (.int (122 : Int32)), (.int (192 : Int32)), (.int (214 : Int32)), (.int (216 : Int32)), (.int (246 : Int32)), (.int (248 : Int32)), (.int (767 : Int32)), (.int (880 : Int32)), (.int (893 : Int32)), (.int (895 : Int32)), (.int (8191 : Int32)), (.int (8204 : Int32)), (.int (8205 : Int32)), (.int (0 : Int32)), (.int (0 : Int32)), (.int (0 : Int32)), (.int (0 : Int32)), (.int (0 : Int32)), (.int (0 : Int32)), (.int (0 : Int32)), (.int (0 : Int32)), (.int (0 : Int32)), (.int (0 : Int32)), (.int (0 : Int32)), (.int (0 : Int32)), (.int (0 : Int32)), (.int (0 : Int32)), (.int (0 : Int32)), (.int (0 : Int32))] (.int (0 : Int32)) := Arv.set Ar_19 q_19 S_19 M_19 H_19 G_19 rfl W_19 17 rfl (Nat.le_of_ble_eq_true rfl)
  have N_19 := Fr.snoc X_19 N_18 gg_1
  have z_19 : n0 ≤ h_19.size := Nat.le_trans z_18 (Nat.le_of_eq W_19.size.symm)
  show Go p e below s _ _ _ T_19 (mkF m 118 #[.val (.int k), .val (.int ix), .val (.int dx), .unset, .unset, .unset, .unset] [(.ref b_1)])
  refine Go.st (fun _ => XS.dup X_19.here hx rfl (hb hby at_118) rfl rfl) ?_
  show Go p e below s _ _ _ T_19 (mkF m 119 #[.val (.int k), .val (.int ix), .val (.int dx), .unset, .unset, .unset, .unset] [(.ref b_1), (.ref b_1)])
  refine Go.st (fun _ => XS.bipush X_19.here hx rfl (hb hby at_119)) ?_
  show Go p e below s _ _ _ T_19 (mkF m 121 #[.val (.int k), .val (.int ix), .val (.int dx), .unset, .unset, .unset, .unset] [(.int (18 : Int32)), (.ref b_1), (.ref b_1)])
  refine Go.st (fun _ => XS.sipush X_19.here hx rfl (hb hby at_121)) ?_
  show Go p e below s _ _ _ T_19 (mkF m 124 #[.val (.int k), .val (.int ix), .val (.int dx), .unset, .unset, .unset, .unset] [(.int (8304 : Int32)), (.int (18 : Int32)), (.ref b_1), (.ref b_1)])
  obtain ⟨cl_20, Ar_20, q_20, S_20, M_20, H_20, G_20⟩ := id V_19
  have hin_20 : ¬ ((18 : Int32) < 0 ∨ cl_20.slots.size ≤ ((18 : Int32)).toNatClampNeg) := inb_of S_20 ⟨by decide, by decide⟩
  obtain ⟨T_20, h_20, X_20, e_20, W_20, st_20⟩ := stI X_19 hx hZ e_19 Ar_20 (j := (18 : Int32)) hin_20 (g := (mkF m 124 #[.val (.int k), .val (.int ix), .val (.int dx), .unset, .unset, .unset, .unset] [(.int (8304 : Int32)), (.int (18 : Int32)), (.ref b_1), (.ref b_1)])) rfl rfl (hb hby at_124)
  refine Go.st st_20 ?_
  have V_20 : Arv Z h_20 b_1 kA_1 .int (34 : Int32) [(.int (58 : Int32)), (.int (65 : Int32)), (.int (90 : Int32)), (.int (95 : Int32)), (.int (97 : Int32)), (.int (122 : Int32)), (.int (192 : Int32)), (.int (214 : Int32)), (.int (216 : Int32)), (.int (246 : Int32)), (.int (248 : Int32)), (.int (767 : Int32)), (.int (880 : Int32)), (.int (893 : Int32)), (.int (895 : Int32)), (.int (8191 : Int32)), (.int (8204 : Int32)), (.int (8205 : Int32)), (.int (8304 : Int32)), (.int (0 : Int32)), (.int (0 : Int32)), (.int (0 : Int32)), (.int (0 : Int32)), (.int (0 : Int32)), (.int (0 : Int32)), (.int (0 : Int32)), (.int (0 : Int32)), (.int (0 : Int32)), (.int (0 : Int32)), (.int (0 : Int32)), (.int (0 : Int32)), (.int (0 : Int32)), (.int (0 : Int32)), (.int (0 : Int32))] (.int (0 : Int32)) := Arv.set Ar_20 q_20 S_20 M_20 H_20 G_20 rfl W_20 18 rfl (Nat.le_of_ble_eq_true rfl)
  have N_20 := Fr.snoc X_20 N_19 gg_1
  have z_20 : n0 ≤ h_20.size := Nat.le_trans z_19 (Nat.le_of_eq W_20.size.symm)
  show Go p e below s _ _ _ T_20 (mkF m 125 #[.val (.int k), .val (.int ix), .val (.int dx), .unset, .unset, .unset, .unset] [(.ref b_1)])
  refine Go.st (fun _ => XS.dup X_20.here hx rfl (hb hby at_125) rfl rfl) ?_
  show Go p e below s _ _ _ T_20 (mkF m 126 #[.val (.int k), .val (.int ix), .val (.int dx), .unset, .unset, .unset, .unset] [(.ref b_1), (.ref b_1)])
  refine Go.st (fun _ => XS.bipush X_20.here hx rfl (hb hby at_126)) ?_
  show Go p e below s _ _ _ T_20 (mkF m 128 #[.val (.int k), .val (.int ix), .val (.int dx), .unset, .unset, .unset, .unset] [(.int (19 : Int32)), (.ref b_1), (.ref b_1)])
  refine Go.st (fun _ => XS.sipush X_20.here hx rfl (hb hby at_128)) ?_
  show Go p e below s _ _ _ T_20 (mkF m 131 #[.val (.int k), .val (.int ix), .val (.int dx), .unset, .unset, .unset, .unset] [(.int (8591 : Int32)), (.int (19 : Int32)), (.ref b_1), (.ref b_1)])
  obtain ⟨cl_21, Ar_21, q_21, S_21, M_21, H_21, G_21⟩ := id V_20
  have hin_21 : ¬ ((19 : Int32) < 0 ∨ cl_21.slots.size ≤ ((19 : Int32)).toNatClampNeg) := inb_of S_21 ⟨by decide, by decide⟩
  obtain ⟨T_21, h_21, X_21, e_21, W_21, st_21⟩ := stI X_20 hx hZ e_20 Ar_21 (j := (19 : Int32)) hin_21 (g := (mkF m 131 #[.val (.int k), .val (.int ix), .val (.int dx), .unset, .unset, .unset, .unset] [(.int (8591 : Int32)), (.int (19 : Int32)), (.ref b_1), (.ref b_1)])) rfl rfl (hb hby at_131)
  refine Go.st st_21 ?_
  have V_21 : Arv Z h_21 b_1 kA_1 .int (34 : Int32) [(.int (58 : Int32)), (.int (65 : Int32)), (.int (90 : Int32)), (.int (95 : Int32)), (.int (97 : Int32)), (.int (122 : Int32)), (.int (192 : Int32)), (.int (214 : Int32)), (.int (216 : Int32)), (.int (246 : Int32)), (.int (248 : Int32)), (.int (767 : Int32)), (.int (880 : Int32)), (.int (893 : Int32)), (.int (895 : Int32)), (.int (8191 : Int32)), (.int (8204 : Int32)), (.int (8205 : Int32)), (.int (8304 : Int32)), (.int (8591 : Int32)), (.int (0 : Int32)), (.int (0 : Int32)), (.int (0 : Int32)), (.int (0 : Int32)), (.int (0 : Int32)), (.int (0 : Int32)), (.int (0 : Int32)), (.int (0 : Int32)), (.int (0 : Int32)), (.int (0 : Int32)), (.int (0 : Int32)), (.int (0 : Int32)), (.int (0 : Int32)), (.int (0 : Int32))] (.int (0 : Int32)) := Arv.set Ar_21 q_21 S_21 M_21 H_21 G_21 rfl W_21 19 rfl (Nat.le_of_ble_eq_true rfl)
  have N_21 := Fr.snoc X_21 N_20 gg_1
  have z_21 : n0 ≤ h_21.size := Nat.le_trans z_20 (Nat.le_of_eq W_21.size.symm)
  show Go p e below s _ _ _ T_21 (mkF m 132 #[.val (.int k), .val (.int ix), .val (.int dx), .unset, .unset, .unset, .unset] [(.ref b_1)])
  refine Go.st (fun _ => XS.dup X_21.here hx rfl (hb hby at_132) rfl rfl) ?_
  show Go p e below s _ _ _ T_21 (mkF m 133 #[.val (.int k), .val (.int ix), .val (.int dx), .unset, .unset, .unset, .unset] [(.ref b_1), (.ref b_1)])
  refine Go.st (fun _ => XS.bipush X_21.here hx rfl (hb hby at_133)) ?_
  show Go p e below s _ _ _ T_21 (mkF m 135 #[.val (.int k), .val (.int ix), .val (.int dx), .unset, .unset, .unset, .unset] [(.int (20 : Int32)), (.ref b_1), (.ref b_1)])
  refine Go.st (fun _ => XS.sipush X_21.here hx rfl (hb hby at_135)) ?_
  show Go p e below s _ _ _ T_21 (mkF m 138 #[.val (.int k), .val (.int ix), .val (.int dx), .unset, .unset, .unset, .unset] [(.int (11264 : Int32)), (.int (20 : Int32)), (.ref b_1), (.ref b_1)])
  obtain ⟨cl_22, Ar_22, q_22, S_22, M_22, H_22, G_22⟩ := id V_21
  have hin_22 : ¬ ((20 : Int32) < 0 ∨ cl_22.slots.size ≤ ((20 : Int32)).toNatClampNeg) := inb_of S_22 ⟨by decide, by decide⟩
  obtain ⟨T_22, h_22, X_22, e_22, W_22, st_22⟩ := stI X_21 hx hZ e_21 Ar_22 (j := (20 : Int32)) hin_22 (g := (mkF m 138 #[.val (.int k), .val (.int ix), .val (.int dx), .unset, .unset, .unset, .unset] [(.int (11264 : Int32)), (.int (20 : Int32)), (.ref b_1), (.ref b_1)])) rfl rfl (hb hby at_138)
  refine Go.st st_22 ?_
  have V_22 : Arv Z h_22 b_1 kA_1 .int (34 : Int32) [(.int (58 : Int32)), (.int (65 : Int32)), (.int (90 : Int32)), (.int (95 : Int32)), (.int (97 : Int32)), (.int (122 : Int32)), (.int (192 : Int32)), (.int (214 : Int32)), (.int (216 : Int32)), (.int (246 : Int32)), (.int (248 : Int32)), (.int (767 : Int32)), (.int (880 : Int32)), (.int (893 : Int32)), (.int (895 : Int32)), (.int (8191 : Int32)), (.int (8204 : Int32)), (.int (8205 : Int32)), (.int (8304 : Int32)), (.int (8591 : Int32)), (.int (11264 : Int32)), (.int (0 : Int32)), (.int (0 : Int32)), (.int (0 : Int32)), (.int (0 : Int32)), (.int (0 : Int32)), (.int (0 : Int32)), (.int (0 : Int32)), (.int (0 : Int32)), (.int (0 : Int32)), (.int (0 : Int32)), (.int (0 : Int32)), (.int (0 : Int32)), (.int (0 : Int32))] (.int (0 : Int32)) := Arv.set Ar_22 q_22 S_22 M_22 H_22 G_22 rfl W_22 20 rfl (Nat.le_of_ble_eq_true rfl)
  have N_22 := Fr.snoc X_22 N_21 gg_1
  have z_22 : n0 ≤ h_22.size := Nat.le_trans z_21 (Nat.le_of_eq W_22.size.symm)
  show Go p e below s _ _ _ T_22 (mkF m 139 #[.val (.int k), .val (.int ix), .val (.int dx), .unset, .unset, .unset, .unset] [(.ref b_1)])
  refine Go.st (fun _ => XS.dup X_22.here hx rfl (hb hby at_139) rfl rfl) ?_
  show Go p e below s _ _ _ T_22 (mkF m 140 #[.val (.int k), .val (.int ix), .val (.int dx), .unset, .unset, .unset, .unset] [(.ref b_1), (.ref b_1)])
  refine Go.st (fun _ => XS.bipush X_22.here hx rfl (hb hby at_140)) ?_
  show Go p e below s _ _ _ T_22 (mkF m 142 #[.val (.int k), .val (.int ix), .val (.int dx), .unset, .unset, .unset, .unset] [(.int (21 : Int32)), (.ref b_1), (.ref b_1)])
  refine Go.st (fun _ => XS.sipush X_22.here hx rfl (hb hby at_142)) ?_
  show Go p e below s _ _ _ T_22 (mkF m 145 #[.val (.int k), .val (.int ix), .val (.int dx), .unset, .unset, .unset, .unset] [(.int (12271 : Int32)), (.int (21 : Int32)), (.ref b_1), (.ref b_1)])
  obtain ⟨cl_23, Ar_23, q_23, S_23, M_23, H_23, G_23⟩ := id V_22
  have hin_23 : ¬ ((21 : Int32) < 0 ∨ cl_23.slots.size ≤ ((21 : Int32)).toNatClampNeg) := inb_of S_23 ⟨by decide, by decide⟩
  obtain ⟨T_23, h_23, X_23, e_23, W_23, st_23⟩ := stI X_22 hx hZ e_22 Ar_23 (j := (21 : Int32)) hin_23 (g := (mkF m 145 #[.val (.int k), .val (.int ix), .val (.int dx), .unset, .unset, .unset, .unset] [(.int (12271 : Int32)), (.int (21 : Int32)), (.ref b_1), (.ref b_1)])) rfl rfl (hb hby at_145)
  refine Go.st st_23 ?_
  have V_23 : Arv Z h_23 b_1 kA_1 .int (34 : Int32) [(.int (58 : Int32)), (.int (65 : Int32)), (.int (90 : Int32)), (.int (95 : Int32)), (.int (97 : Int32)), (.int (122 : Int32)), (.int (192 : Int32)), (.int (214 : Int32)), (.int (216 : Int32)), (.int (246 : Int32)), (.int (248 : Int32)), (.int (767 : Int32)), (.int (880 : Int32)), (.int (893 : Int32)), (.int (895 : Int32)), (.int (8191 : Int32)), (.int (8204 : Int32)), (.int (8205 : Int32)), (.int (8304 : Int32)), (.int (8591 : Int32)), (.int (11264 : Int32)), (.int (12271 : Int32)), (.int (0 : Int32)), (.int (0 : Int32)), (.int (0 : Int32)), (.int (0 : Int32)), (.int (0 : Int32)), (.int (0 : Int32)), (.int (0 : Int32)), (.int (0 : Int32)), (.int (0 : Int32)), (.int (0 : Int32)), (.int (0 : Int32)), (.int (0 : Int32))] (.int (0 : Int32)) := Arv.set Ar_23 q_23 S_23 M_23 H_23 G_23 rfl W_23 21 rfl (Nat.le_of_ble_eq_true rfl)
  have N_23 := Fr.snoc X_23 N_22 gg_1
  have z_23 : n0 ≤ h_23.size := Nat.le_trans z_22 (Nat.le_of_eq W_23.size.symm)
  show Go p e below s _ _ _ T_23 (mkF m 146 #[.val (.int k), .val (.int ix), .val (.int dx), .unset, .unset, .unset, .unset] [(.ref b_1)])
  refine Go.st (fun _ => XS.dup X_23.here hx rfl (hb hby at_146) rfl rfl) ?_
  show Go p e below s _ _ _ T_23 (mkF m 147 #[.val (.int k), .val (.int ix), .val (.int dx), .unset, .unset, .unset, .unset] [(.ref b_1), (.ref b_1)])
  refine Go.st (fun _ => XS.bipush X_23.here hx rfl (hb hby at_147)) ?_
  show Go p e below s _ _ _ T_23 (mkF m 149 #[.val (.int k), .val (.int ix), .val (.int dx), .unset, .unset, .unset, .unset] [(.int (22 : Int32)), (.ref b_1), (.ref b_1)])
  refine Go.st (fun _ => XS.sipush X_23.here hx rfl (hb hby at_149)) ?_
  show Go p e below s _ _ _ T_23 (mkF m 152 #[.val (.int k), .val (.int ix), .val (.int dx), .unset, .unset, .unset, .unset] [(.int (12289 : Int32)), (.int (22 : Int32)), (.ref b_1), (.ref b_1)])
  obtain ⟨cl_24, Ar_24, q_24, S_24, M_24, H_24, G_24⟩ := id V_23
  have hin_24 : ¬ ((22 : Int32) < 0 ∨ cl_24.slots.size ≤ ((22 : Int32)).toNatClampNeg) := inb_of S_24 ⟨by decide, by decide⟩
  obtain ⟨T_24, h_24, X_24, e_24, W_24, st_24⟩ := stI X_23 hx hZ e_23 Ar_24 (j := (22 : Int32)) hin_24 (g := (mkF m 152 #[.val (.int k), .val (.int ix), .val (.int dx), .unset, .unset, .unset, .unset] [(.int (12289 : Int32)), (.int (22 : Int32)), (.ref b_1), (.ref b_1)])) rfl rfl (hb hby at_152)
  refine Go.st st_24 ?_
  have V_24 : Arv Z h_24 b_1 kA_1 .int (34 : Int32) [(.int (58 : Int32)), (.int (65 : Int32)), (.int (90 : Int32)), (.int (95 : Int32)), (.int (97 : Int32)), (.int (122 : Int32)), (.int (192 : Int32)), (.int (214 : Int32)), (.int (216 : Int32)), (.int (246 : Int32)), (.int (248 : Int32)), (.int (767 : Int32)), (.int (880 : Int32)), (.int (893 : Int32)), (.int (895 : Int32)), (.int (8191 : Int32)), (.int (8204 : Int32)), (.int (8205 : Int32)), (.int (8304 : Int32)), (.int (8591 : Int32)), (.int (11264 : Int32)), (.int (12271 : Int32)), (.int (12289 : Int32)), (.int (0 : Int32)), (.int (0 : Int32)), (.int (0 : Int32)), (.int (0 : Int32)), (.int (0 : Int32)), (.int (0 : Int32)), (.int (0 : Int32)), (.int (0 : Int32)), (.int (0 : Int32)), (.int (0 : Int32)), (.int (0 : Int32))] (.int (0 : Int32)) := Arv.set Ar_24 q_24 S_24 M_24 H_24 G_24 rfl W_24 22 rfl (Nat.le_of_ble_eq_true rfl)
  have N_24 := Fr.snoc X_24 N_23 gg_1
  have z_24 : n0 ≤ h_24.size := Nat.le_trans z_23 (Nat.le_of_eq W_24.size.symm)
  show Go p e below s _ _ _ T_24 (mkF m 153 #[.val (.int k), .val (.int ix), .val (.int dx), .unset, .unset, .unset, .unset] [(.ref b_1)])
  refine Go.st (fun _ => XS.dup X_24.here hx rfl (hb hby at_153) rfl rfl) ?_
  show Go p e below s _ _ _ T_24 (mkF m 154 #[.val (.int k), .val (.int ix), .val (.int dx), .unset, .unset, .unset, .unset] [(.ref b_1), (.ref b_1)])
  refine Go.st (fun _ => XS.bipush X_24.here hx rfl (hb hby at_154)) ?_
  show Go p e below s _ _ _ T_24 (mkF m 156 #[.val (.int k), .val (.int ix), .val (.int dx), .unset, .unset, .unset, .unset] [(.int (23 : Int32)), (.ref b_1), (.ref b_1)])
  refine Go.st (fun tG => X_24.ldcInt hx hown (mvT hZ (hw _ (List.mem_of_getElem? (i := 1) rfl))) (g := (mkF m 156 #[.val (.int k), .val (.int ix), .val (.int dx), .unset, .unset, .unset, .unset] [(.int (23 : Int32)), (.ref b_1), (.ref b_1)])) rfl (hb hby at_156) tG) ?_
  show Go p e below s _ _ _ T_24 (mkF m 158 #[.val (.int k), .val (.int ix), .val (.int dx), .unset, .unset, .unset, .unset] [(.int (55295 : Int32)), (.int (23 : Int32)), (.ref b_1), (.ref b_1)])
  obtain ⟨cl_25, Ar_25, q_25, S_25, M_25, H_25, G_25⟩ := id V_24
  have hin_25 : ¬ ((23 : Int32) < 0 ∨ cl_25.slots.size ≤ ((23 : Int32)).toNatClampNeg) := inb_of S_25 ⟨by decide, by decide⟩
  obtain ⟨T_25, h_25, X_25, e_25, W_25, st_25⟩ := stI X_24 hx hZ e_24 Ar_25 (j := (23 : Int32)) hin_25 (g := (mkF m 158 #[.val (.int k), .val (.int ix), .val (.int dx), .unset, .unset, .unset, .unset] [(.int (55295 : Int32)), (.int (23 : Int32)), (.ref b_1), (.ref b_1)])) rfl rfl (hb hby at_158)
  refine Go.st st_25 ?_
  have V_25 : Arv Z h_25 b_1 kA_1 .int (34 : Int32) [(.int (58 : Int32)), (.int (65 : Int32)), (.int (90 : Int32)), (.int (95 : Int32)), (.int (97 : Int32)), (.int (122 : Int32)), (.int (192 : Int32)), (.int (214 : Int32)), (.int (216 : Int32)), (.int (246 : Int32)), (.int (248 : Int32)), (.int (767 : Int32)), (.int (880 : Int32)), (.int (893 : Int32)), (.int (895 : Int32)), (.int (8191 : Int32)), (.int (8204 : Int32)), (.int (8205 : Int32)), (.int (8304 : Int32)), (.int (8591 : Int32)), (.int (11264 : Int32)), (.int (12271 : Int32)), (.int (12289 : Int32)), (.int (55295 : Int32)), (.int (0 : Int32)), (.int (0 : Int32)), (.int (0 : Int32)), (.int (0 : Int32)), (.int (0 : Int32)), (.int (0 : Int32)), (.int (0 : Int32)), (.int (0 : Int32)), (.int (0 : Int32)), (.int (0 : Int32))] (.int (0 : Int32)) := Arv.set Ar_25 q_25 S_25 M_25 H_25 G_25 rfl W_25 23 rfl (Nat.le_of_ble_eq_true rfl)
  have N_25 := Fr.snoc X_25 N_24 gg_1
  have z_25 : n0 ≤ h_25.size := Nat.le_trans z_24 (Nat.le_of_eq W_25.size.symm)
  show Go p e below s _ _ _ T_25 (mkF m 159 #[.val (.int k), .val (.int ix), .val (.int dx), .unset, .unset, .unset, .unset] [(.ref b_1)])
  refine Go.st (fun _ => XS.dup X_25.here hx rfl (hb hby at_159) rfl rfl) ?_
  show Go p e below s _ _ _ T_25 (mkF m 160 #[.val (.int k), .val (.int ix), .val (.int dx), .unset, .unset, .unset, .unset] [(.ref b_1), (.ref b_1)])
  refine Go.st (fun _ => XS.bipush X_25.here hx rfl (hb hby at_160)) ?_
  show Go p e below s _ _ _ T_25 (mkF m 162 #[.val (.int k), .val (.int ix), .val (.int dx), .unset, .unset, .unset, .unset] [(.int (24 : Int32)), (.ref b_1), (.ref b_1)])
  refine Go.st (fun tG => X_25.ldcInt hx hown (mvT hZ (hw _ (List.mem_of_getElem? (i := 2) rfl))) (g := (mkF m 162 #[.val (.int k), .val (.int ix), .val (.int dx), .unset, .unset, .unset, .unset] [(.int (24 : Int32)), (.ref b_1), (.ref b_1)])) rfl (hb hby at_162) tG) ?_
  show Go p e below s _ _ _ T_25 (mkF m 164 #[.val (.int k), .val (.int ix), .val (.int dx), .unset, .unset, .unset, .unset] [(.int (55296 : Int32)), (.int (24 : Int32)), (.ref b_1), (.ref b_1)])
  obtain ⟨cl_26, Ar_26, q_26, S_26, M_26, H_26, G_26⟩ := id V_25
  have hin_26 : ¬ ((24 : Int32) < 0 ∨ cl_26.slots.size ≤ ((24 : Int32)).toNatClampNeg) := inb_of S_26 ⟨by decide, by decide⟩
  obtain ⟨T_26, h_26, X_26, e_26, W_26, st_26⟩ := stI X_25 hx hZ e_25 Ar_26 (j := (24 : Int32)) hin_26 (g := (mkF m 164 #[.val (.int k), .val (.int ix), .val (.int dx), .unset, .unset, .unset, .unset] [(.int (55296 : Int32)), (.int (24 : Int32)), (.ref b_1), (.ref b_1)])) rfl rfl (hb hby at_164)
  refine Go.st st_26 ?_
  have V_26 : Arv Z h_26 b_1 kA_1 .int (34 : Int32) [(.int (58 : Int32)), (.int (65 : Int32)), (.int (90 : Int32)), (.int (95 : Int32)), (.int (97 : Int32)), (.int (122 : Int32)), (.int (192 : Int32)), (.int (214 : Int32)), (.int (216 : Int32)), (.int (246 : Int32)), (.int (248 : Int32)), (.int (767 : Int32)), (.int (880 : Int32)), (.int (893 : Int32)), (.int (895 : Int32)), (.int (8191 : Int32)), (.int (8204 : Int32)), (.int (8205 : Int32)), (.int (8304 : Int32)), (.int (8591 : Int32)), (.int (11264 : Int32)), (.int (12271 : Int32)), (.int (12289 : Int32)), (.int (55295 : Int32)), (.int (55296 : Int32)), (.int (0 : Int32)), (.int (0 : Int32)), (.int (0 : Int32)), (.int (0 : Int32)), (.int (0 : Int32)), (.int (0 : Int32)), (.int (0 : Int32)), (.int (0 : Int32)), (.int (0 : Int32))] (.int (0 : Int32)) := Arv.set Ar_26 q_26 S_26 M_26 H_26 G_26 rfl W_26 24 rfl (Nat.le_of_ble_eq_true rfl)
  have N_26 := Fr.snoc X_26 N_25 gg_1
  have z_26 : n0 ≤ h_26.size := Nat.le_trans z_25 (Nat.le_of_eq W_26.size.symm)
  show Go p e below s _ _ _ T_26 (mkF m 165 #[.val (.int k), .val (.int ix), .val (.int dx), .unset, .unset, .unset, .unset] [(.ref b_1)])
  refine Go.st (fun _ => XS.dup X_26.here hx rfl (hb hby at_165) rfl rfl) ?_
  show Go p e below s _ _ _ T_26 (mkF m 166 #[.val (.int k), .val (.int ix), .val (.int dx), .unset, .unset, .unset, .unset] [(.ref b_1), (.ref b_1)])
  refine Go.st (fun _ => XS.bipush X_26.here hx rfl (hb hby at_166)) ?_
  show Go p e below s _ _ _ T_26 (mkF m 168 #[.val (.int k), .val (.int ix), .val (.int dx), .unset, .unset, .unset, .unset] [(.int (25 : Int32)), (.ref b_1), (.ref b_1)])
  refine Go.st (fun tG => X_26.ldcInt hx hown (mvT hZ (hw _ (List.mem_of_getElem? (i := 3) rfl))) (g := (mkF m 168 #[.val (.int k), .val (.int ix), .val (.int dx), .unset, .unset, .unset, .unset] [(.int (25 : Int32)), (.ref b_1), (.ref b_1)])) rfl (hb hby at_168) tG) ?_
  show Go p e below s _ _ _ T_26 (mkF m 170 #[.val (.int k), .val (.int ix), .val (.int dx), .unset, .unset, .unset, .unset] [(.int (56191 : Int32)), (.int (25 : Int32)), (.ref b_1), (.ref b_1)])
  obtain ⟨cl_27, Ar_27, q_27, S_27, M_27, H_27, G_27⟩ := id V_26
  have hin_27 : ¬ ((25 : Int32) < 0 ∨ cl_27.slots.size ≤ ((25 : Int32)).toNatClampNeg) := inb_of S_27 ⟨by decide, by decide⟩
  obtain ⟨T_27, h_27, X_27, e_27, W_27, st_27⟩ := stI X_26 hx hZ e_26 Ar_27 (j := (25 : Int32)) hin_27 (g := (mkF m 170 #[.val (.int k), .val (.int ix), .val (.int dx), .unset, .unset, .unset, .unset] [(.int (56191 : Int32)), (.int (25 : Int32)), (.ref b_1), (.ref b_1)])) rfl rfl (hb hby at_170)
  refine Go.st st_27 ?_
  have V_27 : Arv Z h_27 b_1 kA_1 .int (34 : Int32) [(.int (58 : Int32)), (.int (65 : Int32)), (.int (90 : Int32)), (.int (95 : Int32)), (.int (97 : Int32)), (.int (122 : Int32)), (.int (192 : Int32)), (.int (214 : Int32)), (.int (216 : Int32)), (.int (246 : Int32)), (.int (248 : Int32)), (.int (767 : Int32)), (.int (880 : Int32)), (.int (893 : Int32)), (.int (895 : Int32)), (.int (8191 : Int32)), (.int (8204 : Int32)), (.int (8205 : Int32)), (.int (8304 : Int32)), (.int (8591 : Int32)), (.int (11264 : Int32)), (.int (12271 : Int32)), (.int (12289 : Int32)), (.int (55295 : Int32)), (.int (55296 : Int32)), (.int (56191 : Int32)), (.int (0 : Int32)), (.int (0 : Int32)), (.int (0 : Int32)), (.int (0 : Int32)), (.int (0 : Int32)), (.int (0 : Int32)), (.int (0 : Int32)), (.int (0 : Int32))] (.int (0 : Int32)) := Arv.set Ar_27 q_27 S_27 M_27 H_27 G_27 rfl W_27 25 rfl (Nat.le_of_ble_eq_true rfl)
  have N_27 := Fr.snoc X_27 N_26 gg_1
  have z_27 : n0 ≤ h_27.size := Nat.le_trans z_26 (Nat.le_of_eq W_27.size.symm)
  show Go p e below s _ _ _ T_27 (mkF m 171 #[.val (.int k), .val (.int ix), .val (.int dx), .unset, .unset, .unset, .unset] [(.ref b_1)])
  refine Go.st (fun _ => XS.dup X_27.here hx rfl (hb hby at_171) rfl rfl) ?_
  show Go p e below s _ _ _ T_27 (mkF m 172 #[.val (.int k), .val (.int ix), .val (.int dx), .unset, .unset, .unset, .unset] [(.ref b_1), (.ref b_1)])
  refine Go.st (fun _ => XS.bipush X_27.here hx rfl (hb hby at_172)) ?_
  show Go p e below s _ _ _ T_27 (mkF m 174 #[.val (.int k), .val (.int ix), .val (.int dx), .unset, .unset, .unset, .unset] [(.int (26 : Int32)), (.ref b_1), (.ref b_1)])
  refine Go.st (fun tG => X_27.ldcInt hx hown (mvT hZ (hw _ (List.mem_of_getElem? (i := 4) rfl))) (g := (mkF m 174 #[.val (.int k), .val (.int ix), .val (.int dx), .unset, .unset, .unset, .unset] [(.int (26 : Int32)), (.ref b_1), (.ref b_1)])) rfl (hb hby at_174) tG) ?_
  show Go p e below s _ _ _ T_27 (mkF m 176 #[.val (.int k), .val (.int ix), .val (.int dx), .unset, .unset, .unset, .unset] [(.int (63744 : Int32)), (.int (26 : Int32)), (.ref b_1), (.ref b_1)])
  obtain ⟨cl_28, Ar_28, q_28, S_28, M_28, H_28, G_28⟩ := id V_27
  have hin_28 : ¬ ((26 : Int32) < 0 ∨ cl_28.slots.size ≤ ((26 : Int32)).toNatClampNeg) := inb_of S_28 ⟨by decide, by decide⟩
  obtain ⟨T_28, h_28, X_28, e_28, W_28, st_28⟩ := stI X_27 hx hZ e_27 Ar_28 (j := (26 : Int32)) hin_28 (g := (mkF m 176 #[.val (.int k), .val (.int ix), .val (.int dx), .unset, .unset, .unset, .unset] [(.int (63744 : Int32)), (.int (26 : Int32)), (.ref b_1), (.ref b_1)])) rfl rfl (hb hby at_176)
  refine Go.st st_28 ?_
  have V_28 : Arv Z h_28 b_1 kA_1 .int (34 : Int32) [(.int (58 : Int32)), (.int (65 : Int32)), (.int (90 : Int32)), (.int (95 : Int32)), (.int (97 : Int32)), (.int (122 : Int32)), (.int (192 : Int32)), (.int (214 : Int32)), (.int (216 : Int32)), (.int (246 : Int32)), (.int (248 : Int32)), (.int (767 : Int32)), (.int (880 : Int32)), (.int (893 : Int32)), (.int (895 : Int32)), (.int (8191 : Int32)), (.int (8204 : Int32)), (.int (8205 : Int32)), (.int (8304 : Int32)), (.int (8591 : Int32)), (.int (11264 : Int32)), (.int (12271 : Int32)), (.int (12289 : Int32)), (.int (55295 : Int32)), (.int (55296 : Int32)), (.int (56191 : Int32)), (.int (63744 : Int32)), (.int (0 : Int32)), (.int (0 : Int32)), (.int (0 : Int32)), (.int (0 : Int32)), (.int (0 : Int32)), (.int (0 : Int32)), (.int (0 : Int32))] (.int (0 : Int32)) := Arv.set Ar_28 q_28 S_28 M_28 H_28 G_28 rfl W_28 26 rfl (Nat.le_of_ble_eq_true rfl)
  have N_28 := Fr.snoc X_28 N_27 gg_1
  have z_28 : n0 ≤ h_28.size := Nat.le_trans z_27 (Nat.le_of_eq W_28.size.symm)
  show Go p e below s _ _ _ T_28 (mkF m 177 #[.val (.int k), .val (.int ix), .val (.int dx), .unset, .unset, .unset, .unset] [(.ref b_1)])
  refine Go.st (fun _ => XS.dup X_28.here hx rfl (hb hby at_177) rfl rfl) ?_
  show Go p e below s _ _ _ T_28 (mkF m 178 #[.val (.int k), .val (.int ix), .val (.int dx), .unset, .unset, .unset, .unset] [(.ref b_1), (.ref b_1)])
  refine Go.st (fun _ => XS.bipush X_28.here hx rfl (hb hby at_178)) ?_
  show Go p e below s _ _ _ T_28 (mkF m 180 #[.val (.int k), .val (.int ix), .val (.int dx), .unset, .unset, .unset, .unset] [(.int (27 : Int32)), (.ref b_1), (.ref b_1)])
  refine Go.st (fun tG => X_28.ldcInt hx hown (mvT hZ (hw _ (List.mem_of_getElem? (i := 5) rfl))) (g := (mkF m 180 #[.val (.int k), .val (.int ix), .val (.int dx), .unset, .unset, .unset, .unset] [(.int (27 : Int32)), (.ref b_1), (.ref b_1)])) rfl (hb hby at_180) tG) ?_
  show Go p e below s _ _ _ T_28 (mkF m 182 #[.val (.int k), .val (.int ix), .val (.int dx), .unset, .unset, .unset, .unset] [(.int (64975 : Int32)), (.int (27 : Int32)), (.ref b_1), (.ref b_1)])
  obtain ⟨cl_29, Ar_29, q_29, S_29, M_29, H_29, G_29⟩ := id V_28
  have hin_29 : ¬ ((27 : Int32) < 0 ∨ cl_29.slots.size ≤ ((27 : Int32)).toNatClampNeg) := inb_of S_29 ⟨by decide, by decide⟩
  obtain ⟨T_29, h_29, X_29, e_29, W_29, st_29⟩ := stI X_28 hx hZ e_28 Ar_29 (j := (27 : Int32)) hin_29 (g := (mkF m 182 #[.val (.int k), .val (.int ix), .val (.int dx), .unset, .unset, .unset, .unset] [(.int (64975 : Int32)), (.int (27 : Int32)), (.ref b_1), (.ref b_1)])) rfl rfl (hb hby at_182)
  refine Go.st st_29 ?_
  have V_29 : Arv Z h_29 b_1 kA_1 .int (34 : Int32) [(.int (58 : Int32)), (.int (65 : Int32)), (.int (90 : Int32)), (.int (95 : Int32)), (.int (97 : Int32)), (.int (122 : Int32)), (.int (192 : Int32)), (.int (214 : Int32)), (.int (216 : Int32)), (.int (246 : Int32)), (.int (248 : Int32)), (.int (767 : Int32)), (.int (880 : Int32)), (.int (893 : Int32)), (.int (895 : Int32)), (.int (8191 : Int32)), (.int (8204 : Int32)), (.int (8205 : Int32)), (.int (8304 : Int32)), (.int (8591 : Int32)), (.int (11264 : Int32)), (.int (12271 : Int32)), (.int (12289 : Int32)), (.int (55295 : Int32)), (.int (55296 : Int32)), (.int (56191 : Int32)), (.int (63744 : Int32)), (.int (64975 : Int32)), (.int (0 : Int32)), (.int (0 : Int32)), (.int (0 : Int32)), (.int (0 : Int32)), (.int (0 : Int32)), (.int (0 : Int32))] (.int (0 : Int32)) := Arv.set Ar_29 q_29 S_29 M_29 H_29 G_29 rfl W_29 27 rfl (Nat.le_of_ble_eq_true rfl)
  have N_29 := Fr.snoc X_29 N_28 gg_1
  have z_29 : n0 ≤ h_29.size := Nat.le_trans z_28 (Nat.le_of_eq W_29.size.symm)
  show Go p e below s _ _ _ T_29 (mkF m 183 #[.val (.int k), .val (.int ix), .val (.int dx), .unset, .unset, .unset, .unset] [(.ref b_1)])
  refine Go.st (fun _ => XS.dup X_29.here hx rfl (hb hby at_183) rfl rfl) ?_
  show Go p e below s _ _ _ T_29 (mkF m 184 #[.val (.int k), .val (.int ix), .val (.int dx), .unset, .unset, .unset, .unset] [(.ref b_1), (.ref b_1)])
  refine Go.st (fun _ => XS.bipush X_29.here hx rfl (hb hby at_184)) ?_
  show Go p e below s _ _ _ T_29 (mkF m 186 #[.val (.int k), .val (.int ix), .val (.int dx), .unset, .unset, .unset, .unset] [(.int (28 : Int32)), (.ref b_1), (.ref b_1)])
  refine Go.st (fun tG => X_29.ldcInt hx hown (mvT hZ (hw _ (List.mem_of_getElem? (i := 6) rfl))) (g := (mkF m 186 #[.val (.int k), .val (.int ix), .val (.int dx), .unset, .unset, .unset, .unset] [(.int (28 : Int32)), (.ref b_1), (.ref b_1)])) rfl (hb hby at_186) tG) ?_
  show Go p e below s _ _ _ T_29 (mkF m 188 #[.val (.int k), .val (.int ix), .val (.int dx), .unset, .unset, .unset, .unset] [(.int (65008 : Int32)), (.int (28 : Int32)), (.ref b_1), (.ref b_1)])
  obtain ⟨cl_30, Ar_30, q_30, S_30, M_30, H_30, G_30⟩ := id V_29
  have hin_30 : ¬ ((28 : Int32) < 0 ∨ cl_30.slots.size ≤ ((28 : Int32)).toNatClampNeg) := inb_of S_30 ⟨by decide, by decide⟩
  obtain ⟨T_30, h_30, X_30, e_30, W_30, st_30⟩ := stI X_29 hx hZ e_29 Ar_30 (j := (28 : Int32)) hin_30 (g := (mkF m 188 #[.val (.int k), .val (.int ix), .val (.int dx), .unset, .unset, .unset, .unset] [(.int (65008 : Int32)), (.int (28 : Int32)), (.ref b_1), (.ref b_1)])) rfl rfl (hb hby at_188)
  refine Go.st st_30 ?_
  have V_30 : Arv Z h_30 b_1 kA_1 .int (34 : Int32) [(.int (58 : Int32)), (.int (65 : Int32)), (.int (90 : Int32)), (.int (95 : Int32)), (.int (97 : Int32)), (.int (122 : Int32)), (.int (192 : Int32)), (.int (214 : Int32)), (.int (216 : Int32)), (.int (246 : Int32)), (.int (248 : Int32)), (.int (767 : Int32)), (.int (880 : Int32)), (.int (893 : Int32)), (.int (895 : Int32)), (.int (8191 : Int32)), (.int (8204 : Int32)), (.int (8205 : Int32)), (.int (8304 : Int32)), (.int (8591 : Int32)), (.int (11264 : Int32)), (.int (12271 : Int32)), (.int (12289 : Int32)), (.int (55295 : Int32)), (.int (55296 : Int32)), (.int (56191 : Int32)), (.int (63744 : Int32)), (.int (64975 : Int32)), (.int (65008 : Int32)), (.int (0 : Int32)), (.int (0 : Int32)), (.int (0 : Int32)), (.int (0 : Int32)), (.int (0 : Int32))] (.int (0 : Int32)) := Arv.set Ar_30 q_30 S_30 M_30 H_30 G_30 rfl W_30 28 rfl (Nat.le_of_ble_eq_true rfl)
  have N_30 := Fr.snoc X_30 N_29 gg_1
  have z_30 : n0 ≤ h_30.size := Nat.le_trans z_29 (Nat.le_of_eq W_30.size.symm)
  show Go p e below s _ _ _ T_30 (mkF m 189 #[.val (.int k), .val (.int ix), .val (.int dx), .unset, .unset, .unset, .unset] [(.ref b_1)])
  refine Go.st (fun _ => XS.dup X_30.here hx rfl (hb hby at_189) rfl rfl) ?_
  show Go p e below s _ _ _ T_30 (mkF m 190 #[.val (.int k), .val (.int ix), .val (.int dx), .unset, .unset, .unset, .unset] [(.ref b_1), (.ref b_1)])
  refine Go.st (fun _ => XS.bipush X_30.here hx rfl (hb hby at_190)) ?_
  show Go p e below s _ _ _ T_30 (mkF m 192 #[.val (.int k), .val (.int ix), .val (.int dx), .unset, .unset, .unset, .unset] [(.int (29 : Int32)), (.ref b_1), (.ref b_1)])
  refine Go.st (fun tG => X_30.ldcInt hx hown (mvT hZ (hw _ (List.mem_of_getElem? (i := 7) rfl))) (g := (mkF m 192 #[.val (.int k), .val (.int ix), .val (.int dx), .unset, .unset, .unset, .unset] [(.int (29 : Int32)), (.ref b_1), (.ref b_1)])) rfl (hb hby at_192) tG) ?_
  show Go p e below s _ _ _ T_30 (mkF m 194 #[.val (.int k), .val (.int ix), .val (.int dx), .unset, .unset, .unset, .unset] [(.int (65533 : Int32)), (.int (29 : Int32)), (.ref b_1), (.ref b_1)])
  obtain ⟨cl_31, Ar_31, q_31, S_31, M_31, H_31, G_31⟩ := id V_30
  have hin_31 : ¬ ((29 : Int32) < 0 ∨ cl_31.slots.size ≤ ((29 : Int32)).toNatClampNeg) := inb_of S_31 ⟨by decide, by decide⟩
  obtain ⟨T_31, h_31, X_31, e_31, W_31, st_31⟩ := stI X_30 hx hZ e_30 Ar_31 (j := (29 : Int32)) hin_31 (g := (mkF m 194 #[.val (.int k), .val (.int ix), .val (.int dx), .unset, .unset, .unset, .unset] [(.int (65533 : Int32)), (.int (29 : Int32)), (.ref b_1), (.ref b_1)])) rfl rfl (hb hby at_194)
  refine Go.st st_31 ?_
  have V_31 : Arv Z h_31 b_1 kA_1 .int (34 : Int32) [(.int (58 : Int32)), (.int (65 : Int32)), (.int (90 : Int32)), (.int (95 : Int32)), (.int (97 : Int32)), (.int (122 : Int32)), (.int (192 : Int32)), (.int (214 : Int32)), (.int (216 : Int32)), (.int (246 : Int32)), (.int (248 : Int32)), (.int (767 : Int32)), (.int (880 : Int32)), (.int (893 : Int32)), (.int (895 : Int32)), (.int (8191 : Int32)), (.int (8204 : Int32)), (.int (8205 : Int32)), (.int (8304 : Int32)), (.int (8591 : Int32)), (.int (11264 : Int32)), (.int (12271 : Int32)), (.int (12289 : Int32)), (.int (55295 : Int32)), (.int (55296 : Int32)), (.int (56191 : Int32)), (.int (63744 : Int32)), (.int (64975 : Int32)), (.int (65008 : Int32)), (.int (65533 : Int32)), (.int (0 : Int32)), (.int (0 : Int32)), (.int (0 : Int32)), (.int (0 : Int32))] (.int (0 : Int32)) := Arv.set Ar_31 q_31 S_31 M_31 H_31 G_31 rfl W_31 29 rfl (Nat.le_of_ble_eq_true rfl)
  have N_31 := Fr.snoc X_31 N_30 gg_1
  have z_31 : n0 ≤ h_31.size := Nat.le_trans z_30 (Nat.le_of_eq W_31.size.symm)
  show Go p e below s _ _ _ T_31 (mkF m 195 #[.val (.int k), .val (.int ix), .val (.int dx), .unset, .unset, .unset, .unset] [(.ref b_1)])
  refine Go.st (fun _ => XS.dup X_31.here hx rfl (hb hby at_195) rfl rfl) ?_
  show Go p e below s _ _ _ T_31 (mkF m 196 #[.val (.int k), .val (.int ix), .val (.int dx), .unset, .unset, .unset, .unset] [(.ref b_1), (.ref b_1)])
  refine Go.st (fun _ => XS.bipush X_31.here hx rfl (hb hby at_196)) ?_
  show Go p e below s _ _ _ T_31 (mkF m 198 #[.val (.int k), .val (.int ix), .val (.int dx), .unset, .unset, .unset, .unset] [(.int (30 : Int32)), (.ref b_1), (.ref b_1)])
  refine Go.st (fun tG => X_31.ldcInt hx hown (mvT hZ (hw _ (List.mem_of_getElem? (i := 8) rfl))) (g := (mkF m 198 #[.val (.int k), .val (.int ix), .val (.int dx), .unset, .unset, .unset, .unset] [(.int (30 : Int32)), (.ref b_1), (.ref b_1)])) rfl (hb hby at_198) tG) ?_
  show Go p e below s _ _ _ T_31 (mkF m 200 #[.val (.int k), .val (.int ix), .val (.int dx), .unset, .unset, .unset, .unset] [(.int (65536 : Int32)), (.int (30 : Int32)), (.ref b_1), (.ref b_1)])
  obtain ⟨cl_32, Ar_32, q_32, S_32, M_32, H_32, G_32⟩ := id V_31
  have hin_32 : ¬ ((30 : Int32) < 0 ∨ cl_32.slots.size ≤ ((30 : Int32)).toNatClampNeg) := inb_of S_32 ⟨by decide, by decide⟩
  obtain ⟨T_32, h_32, X_32, e_32, W_32, st_32⟩ := stI X_31 hx hZ e_31 Ar_32 (j := (30 : Int32)) hin_32 (g := (mkF m 200 #[.val (.int k), .val (.int ix), .val (.int dx), .unset, .unset, .unset, .unset] [(.int (65536 : Int32)), (.int (30 : Int32)), (.ref b_1), (.ref b_1)])) rfl rfl (hb hby at_200)
  refine Go.st st_32 ?_
  have V_32 : Arv Z h_32 b_1 kA_1 .int (34 : Int32) [(.int (58 : Int32)), (.int (65 : Int32)), (.int (90 : Int32)), (.int (95 : Int32)), (.int (97 : Int32)), (.int (122 : Int32)), (.int (192 : Int32)), (.int (214 : Int32)), (.int (216 : Int32)), (.int (246 : Int32)), (.int (248 : Int32)), (.int (767 : Int32)), (.int (880 : Int32)), (.int (893 : Int32)), (.int (895 : Int32)), (.int (8191 : Int32)), (.int (8204 : Int32)), (.int (8205 : Int32)), (.int (8304 : Int32)), (.int (8591 : Int32)), (.int (11264 : Int32)), (.int (12271 : Int32)), (.int (12289 : Int32)), (.int (55295 : Int32)), (.int (55296 : Int32)), (.int (56191 : Int32)), (.int (63744 : Int32)), (.int (64975 : Int32)), (.int (65008 : Int32)), (.int (65533 : Int32)), (.int (65536 : Int32)), (.int (0 : Int32)), (.int (0 : Int32)), (.int (0 : Int32))] (.int (0 : Int32)) := Arv.set Ar_32 q_32 S_32 M_32 H_32 G_32 rfl W_32 30 rfl (Nat.le_of_ble_eq_true rfl)
  have N_32 := Fr.snoc X_32 N_31 gg_1
  have z_32 : n0 ≤ h_32.size := Nat.le_trans z_31 (Nat.le_of_eq W_32.size.symm)
  show Go p e below s _ _ _ T_32 (mkF m 201 #[.val (.int k), .val (.int ix), .val (.int dx), .unset, .unset, .unset, .unset] [(.ref b_1)])
  refine Go.st (fun _ => XS.dup X_32.here hx rfl (hb hby at_201) rfl rfl) ?_
  show Go p e below s _ _ _ T_32 (mkF m 202 #[.val (.int k), .val (.int ix), .val (.int dx), .unset, .unset, .unset, .unset] [(.ref b_1), (.ref b_1)])
  refine Go.st (fun _ => XS.bipush X_32.here hx rfl (hb hby at_202)) ?_
  show Go p e below s _ _ _ T_32 (mkF m 204 #[.val (.int k), .val (.int ix), .val (.int dx), .unset, .unset, .unset, .unset] [(.int (31 : Int32)), (.ref b_1), (.ref b_1)])
  refine Go.st (fun tG => X_32.ldcInt hx hown (mvT hZ (hw _ (List.mem_of_getElem? (i := 9) rfl))) (g := (mkF m 204 #[.val (.int k), .val (.int ix), .val (.int dx), .unset, .unset, .unset, .unset] [(.int (31 : Int32)), (.ref b_1), (.ref b_1)])) rfl (hb hby at_204) tG) ?_
  show Go p e below s _ _ _ T_32 (mkF m 206 #[.val (.int k), .val (.int ix), .val (.int dx), .unset, .unset, .unset, .unset] [(.int (983039 : Int32)), (.int (31 : Int32)), (.ref b_1), (.ref b_1)])
  obtain ⟨cl_33, Ar_33, q_33, S_33, M_33, H_33, G_33⟩ := id V_32
  have hin_33 : ¬ ((31 : Int32) < 0 ∨ cl_33.slots.size ≤ ((31 : Int32)).toNatClampNeg) := inb_of S_33 ⟨by decide, by decide⟩
  obtain ⟨T_33, h_33, X_33, e_33, W_33, st_33⟩ := stI X_32 hx hZ e_32 Ar_33 (j := (31 : Int32)) hin_33 (g := (mkF m 206 #[.val (.int k), .val (.int ix), .val (.int dx), .unset, .unset, .unset, .unset] [(.int (983039 : Int32)), (.int (31 : Int32)), (.ref b_1), (.ref b_1)])) rfl rfl (hb hby at_206)
  refine Go.st st_33 ?_
  have V_33 : Arv Z h_33 b_1 kA_1 .int (34 : Int32) [(.int (58 : Int32)), (.int (65 : Int32)), (.int (90 : Int32)), (.int (95 : Int32)), (.int (97 : Int32)), (.int (122 : Int32)), (.int (192 : Int32)), (.int (214 : Int32)), (.int (216 : Int32)), (.int (246 : Int32)), (.int (248 : Int32)), (.int (767 : Int32)), (.int (880 : Int32)), (.int (893 : Int32)), (.int (895 : Int32)), (.int (8191 : Int32)), (.int (8204 : Int32)), (.int (8205 : Int32)), (.int (8304 : Int32)), (.int (8591 : Int32)), (.int (11264 : Int32)), (.int (12271 : Int32)), (.int (12289 : Int32)), (.int (55295 : Int32)), (.int (55296 : Int32)), (.int (56191 : Int32)), (.int (63744 : Int32)), (.int (64975 : Int32)), (.int (65008 : Int32)), (.int (65533 : Int32)), (.int (65536 : Int32)), (.int (983039 : Int32)), (.int (0 : Int32)), (.int (0 : Int32))] (.int (0 : Int32)) := Arv.set Ar_33 q_33 S_33 M_33 H_33 G_33 rfl W_33 31 rfl (Nat.le_of_ble_eq_true rfl)
  have N_33 := Fr.snoc X_33 N_32 gg_1
  have z_33 : n0 ≤ h_33.size := Nat.le_trans z_32 (Nat.le_of_eq W_33.size.symm)
  show Go p e below s _ _ _ T_33 (mkF m 207 #[.val (.int k), .val (.int ix), .val (.int dx), .unset, .unset, .unset, .unset] [(.ref b_1)])
  refine Go.st (fun _ => XS.dup X_33.here hx rfl (hb hby at_207) rfl rfl) ?_
  show Go p e below s _ _ _ T_33 (mkF m 208 #[.val (.int k), .val (.int ix), .val (.int dx), .unset, .unset, .unset, .unset] [(.ref b_1), (.ref b_1)])
  refine Go.st (fun _ => XS.bipush X_33.here hx rfl (hb hby at_208)) ?_
  show Go p e below s _ _ _ T_33 (mkF m 210 #[.val (.int k), .val (.int ix), .val (.int dx), .unset, .unset, .unset, .unset] [(.int (32 : Int32)), (.ref b_1), (.ref b_1)])
  refine Go.st (fun tG => X_33.ldcInt hx hown (mvT hZ (hw _ (List.mem_of_getElem? (i := 10) rfl))) (g := (mkF m 210 #[.val (.int k), .val (.int ix), .val (.int dx), .unset, .unset, .unset, .unset] [(.int (32 : Int32)), (.ref b_1), (.ref b_1)])) rfl (hb hby at_210) tG) ?_
  show Go p e below s _ _ _ T_33 (mkF m 212 #[.val (.int k), .val (.int ix), .val (.int dx), .unset, .unset, .unset, .unset] [(.int (-2147483648 : Int32)), (.int (32 : Int32)), (.ref b_1), (.ref b_1)])
  obtain ⟨cl_34, Ar_34, q_34, S_34, M_34, H_34, G_34⟩ := id V_33
  have hin_34 : ¬ ((32 : Int32) < 0 ∨ cl_34.slots.size ≤ ((32 : Int32)).toNatClampNeg) := inb_of S_34 ⟨by decide, by decide⟩
  obtain ⟨T_34, h_34, X_34, e_34, W_34, st_34⟩ := stI X_33 hx hZ e_33 Ar_34 (j := (32 : Int32)) hin_34 (g := (mkF m 212 #[.val (.int k), .val (.int ix), .val (.int dx), .unset, .unset, .unset, .unset] [(.int (-2147483648 : Int32)), (.int (32 : Int32)), (.ref b_1), (.ref b_1)])) rfl rfl (hb hby at_212)
  refine Go.st st_34 ?_
  have V_34 : Arv Z h_34 b_1 kA_1 .int (34 : Int32) [(.int (58 : Int32)), (.int (65 : Int32)), (.int (90 : Int32)), (.int (95 : Int32)), (.int (97 : Int32)), (.int (122 : Int32)), (.int (192 : Int32)), (.int (214 : Int32)), (.int (216 : Int32)), (.int (246 : Int32)), (.int (248 : Int32)), (.int (767 : Int32)), (.int (880 : Int32)), (.int (893 : Int32)), (.int (895 : Int32)), (.int (8191 : Int32)), (.int (8204 : Int32)), (.int (8205 : Int32)), (.int (8304 : Int32)), (.int (8591 : Int32)), (.int (11264 : Int32)), (.int (12271 : Int32)), (.int (12289 : Int32)), (.int (55295 : Int32)), (.int (55296 : Int32)), (.int (56191 : Int32)), (.int (63744 : Int32)), (.int (64975 : Int32)), (.int (65008 : Int32)), (.int (65533 : Int32)), (.int (65536 : Int32)), (.int (983039 : Int32)), (.int (-2147483648 : Int32)), (.int (0 : Int32))] (.int (0 : Int32)) := Arv.set Ar_34 q_34 S_34 M_34 H_34 G_34 rfl W_34 32 rfl (Nat.le_of_ble_eq_true rfl)
  have N_34 := Fr.snoc X_34 N_33 gg_1
  have z_34 : n0 ≤ h_34.size := Nat.le_trans z_33 (Nat.le_of_eq W_34.size.symm)
  show Go p e below s _ _ _ T_34 (mkF m 213 #[.val (.int k), .val (.int ix), .val (.int dx), .unset, .unset, .unset, .unset] [(.ref b_1)])
  refine Go.st (fun _ => XS.dup X_34.here hx rfl (hb hby at_213) rfl rfl) ?_
  show Go p e below s _ _ _ T_34 (mkF m 214 #[.val (.int k), .val (.int ix), .val (.int dx), .unset, .unset, .unset, .unset] [(.ref b_1), (.ref b_1)])
  refine Go.st (fun _ => XS.bipush X_34.here hx rfl (hb hby at_214)) ?_
  show Go p e below s _ _ _ T_34 (mkF m 216 #[.val (.int k), .val (.int ix), .val (.int dx), .unset, .unset, .unset, .unset] [(.int (33 : Int32)), (.ref b_1), (.ref b_1)])
  refine Go.st (fun tG => X_34.ldcInt hx hown (mvT hZ (hw _ (List.mem_of_getElem? (i := 11) rfl))) (g := (mkF m 216 #[.val (.int k), .val (.int ix), .val (.int dx), .unset, .unset, .unset, .unset] [(.int (33 : Int32)), (.ref b_1), (.ref b_1)])) rfl (hb hby at_216) tG) ?_
  show Go p e below s _ _ _ T_34 (mkF m 218 #[.val (.int k), .val (.int ix), .val (.int dx), .unset, .unset, .unset, .unset] [(.int (2147483647 : Int32)), (.int (33 : Int32)), (.ref b_1), (.ref b_1)])
  obtain ⟨cl_35, Ar_35, q_35, S_35, M_35, H_35, G_35⟩ := id V_34
  have hin_35 : ¬ ((33 : Int32) < 0 ∨ cl_35.slots.size ≤ ((33 : Int32)).toNatClampNeg) := inb_of S_35 ⟨by decide, by decide⟩
  obtain ⟨T_35, h_35, X_35, e_35, W_35, st_35⟩ := stI X_34 hx hZ e_34 Ar_35 (j := (33 : Int32)) hin_35 (g := (mkF m 218 #[.val (.int k), .val (.int ix), .val (.int dx), .unset, .unset, .unset, .unset] [(.int (2147483647 : Int32)), (.int (33 : Int32)), (.ref b_1), (.ref b_1)])) rfl rfl (hb hby at_218)
  refine Go.st st_35 ?_
  have V_35 : Arv Z h_35 b_1 kA_1 .int (34 : Int32) [(.int (58 : Int32)), (.int (65 : Int32)), (.int (90 : Int32)), (.int (95 : Int32)), (.int (97 : Int32)), (.int (122 : Int32)), (.int (192 : Int32)), (.int (214 : Int32)), (.int (216 : Int32)), (.int (246 : Int32)), (.int (248 : Int32)), (.int (767 : Int32)), (.int (880 : Int32)), (.int (893 : Int32)), (.int (895 : Int32)), (.int (8191 : Int32)), (.int (8204 : Int32)), (.int (8205 : Int32)), (.int (8304 : Int32)), (.int (8591 : Int32)), (.int (11264 : Int32)), (.int (12271 : Int32)), (.int (12289 : Int32)), (.int (55295 : Int32)), (.int (55296 : Int32)), (.int (56191 : Int32)), (.int (63744 : Int32)), (.int (64975 : Int32)), (.int (65008 : Int32)), (.int (65533 : Int32)), (.int (65536 : Int32)), (.int (983039 : Int32)), (.int (-2147483648 : Int32)), (.int (2147483647 : Int32))] (.int (0 : Int32)) := Arv.set Ar_35 q_35 S_35 M_35 H_35 G_35 rfl W_35 33 rfl (Nat.le_of_ble_eq_true rfl)
  have N_35 := Fr.snoc X_35 N_34 gg_1
  have z_35 : n0 ≤ h_35.size := Nat.le_trans z_34 (Nat.le_of_eq W_35.size.symm)
  show Go p e below s _ _ _ T_35 (mkF m 219 #[.val (.int k), .val (.int ix), .val (.int dx), .unset, .unset, .unset, .unset] [(.ref b_1)])
  refine Go.st (fun _ => XS.astoreN X_35.here hx rfl (hb hby at_219) rfl rfl (l' := #[.val (.int k), .val (.int ix), .val (.int dx), .val (.ref b_1), .unset, .unset, .unset]) rfl) ?_
  show Go p e below s _ _ _ T_35 (mkF m 220 #[.val (.int k), .val (.int ix), .val (.int dx), .val (.ref b_1), .unset, .unset, .unset] [])
  refine Go.st (fun _ => XS.aloadN X_35.here hx rfl (hb hby at_220) rfl rfl) ?_
  show Go p e below s _ _ _ T_35 (mkF m 221 #[.val (.int k), .val (.int ix), .val (.int dx), .val (.ref b_1), .unset, .unset, .unset] [(.ref b_1)])
  refine Go.st (fun _ => XS.iloadN X_35.here hx rfl (hb hby at_221) rfl) ?_
  show Go p e below s _ _ _ T_35 (mkF m 222 #[.val (.int k), .val (.int ix), .val (.int dx), .val (.ref b_1), .unset, .unset, .unset] [(.int ix), (.ref b_1)])
  refine Go.st (fun tG => X_35.ldcInt hx hown (mvT hZ (hw _ (List.mem_of_getElem? (i := 11) rfl))) (g := (mkF m 222 #[.val (.int k), .val (.int ix), .val (.int dx), .val (.ref b_1), .unset, .unset, .unset] [(.int ix), (.ref b_1)])) rfl (hb hby at_222) tG) ?_
  show Go p e below s _ _ _ T_35 (mkF m 224 #[.val (.int k), .val (.int ix), .val (.int dx), .val (.ref b_1), .unset, .unset, .unset] [(.int (2147483647 : Int32)), (.int ix), (.ref b_1)])
  refine Go.st (fun _ => XS.iand X_35.here hx rfl (hb hby at_224) rfl) ?_
  show Go p e below s _ _ _ T_35 (mkF m 225 #[.val (.int k), .val (.int ix), .val (.int dx), .val (.ref b_1), .unset, .unset, .unset] [(.int (ix &&& (2147483647 : Int32))), (.ref b_1)])
  refine Go.st (fun _ => XS.bipush X_35.here hx rfl (hb hby at_225)) ?_
  show Go p e below s _ _ _ T_35 (mkF m 227 #[.val (.int k), .val (.int ix), .val (.int dx), .val (.ref b_1), .unset, .unset, .unset] [(.int (34 : Int32)), (.int (ix &&& (2147483647 : Int32))), (.ref b_1)])
  refine Go.st (fun _ => iremM X_35 hx rfl (hb hby at_227) rfl (by decide)) ?_
  show Go p e below s _ _ _ T_35 (mkF m 228 #[.val (.int k), .val (.int ix), .val (.int dx), .val (.ref b_1), .unset, .unset, .unset] [(.int ((ix &&& (2147483647 : Int32)) % (34 : Int32))), (.ref b_1)])
  obtain ⟨cl_36, Ar_36, q_36, S_36, M_36, H_36, G_36⟩ := id V_35
  obtain ⟨w_36, hw_36⟩ := own_getint [(.int (58 : Int32)), (.int (65 : Int32)), (.int (90 : Int32)), (.int (95 : Int32)), (.int (97 : Int32)), (.int (122 : Int32)), (.int (192 : Int32)), (.int (214 : Int32)), (.int (216 : Int32)), (.int (246 : Int32)), (.int (248 : Int32)), (.int (767 : Int32)), (.int (880 : Int32)), (.int (893 : Int32)), (.int (895 : Int32)), (.int (8191 : Int32)), (.int (8204 : Int32)), (.int (8205 : Int32)), (.int (8304 : Int32)), (.int (8591 : Int32)), (.int (11264 : Int32)), (.int (12271 : Int32)), (.int (12289 : Int32)), (.int (55295 : Int32)), (.int (55296 : Int32)), (.int (56191 : Int32)), (.int (63744 : Int32)), (.int (64975 : Int32)), (.int (65008 : Int32)), (.int (65533 : Int32)), (.int (65536 : Int32)), (.int (983039 : Int32)), (.int (-2147483648 : Int32)), (.int (2147483647 : Int32))] rfl (((ix &&& (2147483647 : Int32)) % (34 : Int32))).toNatClampNeg
  have hin_36 : ¬ (((ix &&& (2147483647 : Int32)) % (34 : Int32)) < 0 ∨ cl_36.slots.size ≤ (((ix &&& (2147483647 : Int32)) % (34 : Int32))).toNatClampNeg) := inb_of S_36 (own_mod ix)
  have hat_36 : cl_36.slots[(((ix &&& (2147483647 : Int32)) % (34 : Int32))).toNatClampNeg]? = some (.int w_36) := H_36.at hin_36 hw_36
  refine Go.st (fun tG => X_35.iaload hx (j := ((ix &&& (2147483647 : Int32)) % (34 : Int32))) (v := (.int w_36)) (by rw [e_35]; exact Ar_36.1) (State.isArrayOf_alike hZ.alike Ar_36.2.1) Ar_36.2.2 hin_36 hat_36 (g := (mkF m 228 #[.val (.int k), .val (.int ix), .val (.int dx), .val (.ref b_1), .unset, .unset, .unset] [(.int ((ix &&& (2147483647 : Int32)) % (34 : Int32))), (.ref b_1)])) rfl rfl (hb hby at_228) tG) ?_
  show Go p e below s _ _ _ T_35 (mkF m 229 #[.val (.int k), .val (.int ix), .val (.int dx), .val (.ref b_1), .unset, .unset, .unset] [(.int w_36)])
  refine Go.st (fun _ => XS.iloadN X_35.here hx rfl (hb hby at_229) rfl) ?_
  show Go p e below s _ _ _ T_35 (mkF m 230 #[.val (.int k), .val (.int ix), .val (.int dx), .val (.ref b_1), .unset, .unset, .unset] [(.int dx), (.int w_36)])
  refine Go.st (fun _ => XS.iconst X_35.here hx rfl (hb hby at_230)) ?_
  show Go p e below s _ _ _ T_35 (mkF m 231 #[.val (.int k), .val (.int ix), .val (.int dx), .val (.ref b_1), .unset, .unset, .unset] [(.int (3 : Int32)), (.int dx), (.int w_36)])
  refine Go.st (fun _ => XS.iand X_35.here hx rfl (hb hby at_231) rfl) ?_
  show Go p e below s _ _ _ T_35 (mkF m 232 #[.val (.int k), .val (.int ix), .val (.int dx), .val (.ref b_1), .unset, .unset, .unset] [(.int (dx &&& (3 : Int32))), (.int w_36)])
  refine Go.st (fun _ => XS.iconst X_35.here hx rfl (hb hby at_232)) ?_
  show Go p e below s _ _ _ T_35 (mkF m 233 #[.val (.int k), .val (.int ix), .val (.int dx), .val (.ref b_1), .unset, .unset, .unset] [(.int (1 : Int32)), (.int (dx &&& (3 : Int32))), (.int w_36)])
  refine Go.st (fun _ => XS.isub X_35.here hx rfl (hb hby at_233) rfl) ?_
  show Go p e below s _ _ _ T_35 (mkF m 234 #[.val (.int k), .val (.int ix), .val (.int dx), .val (.ref b_1), .unset, .unset, .unset] [(.int ((dx &&& (3 : Int32)) - (1 : Int32))), (.int w_36)])
  refine Go.st (fun _ => XS.iadd X_35.here hx rfl (hb hby at_234) rfl) ?_
  show Go p e below s _ _ _ T_35 (mkF m 235 #[.val (.int k), .val (.int ix), .val (.int dx), .val (.ref b_1), .unset, .unset, .unset] [(.int (w_36 + ((dx &&& (3 : Int32)) - (1 : Int32))))])
  refine Go.st (fun _ => XS.istore X_35.here hx rfl (hb hby at_235) rfl (l' := #[.val (.int k), .val (.int ix), .val (.int dx), .val (.ref b_1), .val (.int (w_36 + ((dx &&& (3 : Int32)) - (1 : Int32)))), .unset, .unset]) rfl) ?_
  show Go p e below s _ _ _ T_35 (mkF m 237 #[.val (.int k), .val (.int ix), .val (.int dx), .val (.ref b_1), .val (.int (w_36 + ((dx &&& (3 : Int32)) - (1 : Int32)))), .unset, .unset] [])
  obtain ⟨vx_37, hvx_37⟩ : ∃ z, z = (w_36 + ((dx &&& (3 : Int32)) - (1 : Int32))) := ⟨_, rfl⟩
  rw [← hvx_37]
  show Go p e below s _ _ _ T_35 (mkF m 237 #[.val (.int k), .val (.int ix), .val (.int dx), .val (.ref b_1), .val (.int vx_37), .unset, .unset] [])
  refine Go.st (fun _ => XS.iloadN X_35.here hx rfl (hb hby at_237) rfl) ?_
  show Go p e below s _ _ _ T_35 (mkF m 238 #[.val (.int k), .val (.int ix), .val (.int dx), .val (.ref b_1), .val (.int vx_37), .unset, .unset] [(.int k)])
  obtain ⟨_, _, ⟨T_38, L_38, kc_38, nc_38⟩, -, X_38, ⟨Lc_38, hQ_38, l_38, y_38, z_38⟩, st_38⟩ := Jvm.LawKit.callS X_35 hx (y := (⟨"com/example/moat/moat/xpath/Names", "isNameStart", "(I)Z"⟩ : MethodName)) hown (mvT hZ (hw _ (List.mem_of_getElem? (i := 12) rfl))) (mvT hZ (hw _ (List.mem_of_getElem? (i := 13) rfl))) (mvT hZ (hw _ (List.mem_of_getElem? (i := 14) rfl))) (mvT hZ (hw _ (List.mem_of_getElem? (i := 15) rfl))) (by decide) (backOf (W := 0) (rm1 l Z a0 hw [] k h_35 n0 z_35 ) hZ (hw _ (List.mem_of_getElem? (i := 15) rfl)) (hw _ (List.mem_of_getElem? (i := 14) rfl)) (by decide) (by decide)) (g := (mkF m 238 #[.val (.int k), .val (.int ix), .val (.int dx), .val (.ref b_1), .val (.int vx_37), .unset, .unset] [(.int k)])) rfl (by rw [hml]; rfl) (argsL := [(.int k)]) (rest := []) (lenOf pd_1 rfl) rfl (by show 2 * 0 + _ ≤ _; exact Nat.le_of_eq rfl) (hb hby at_238) (fun _ _ => ⟨rfl, e_35, (by decide : 1 + 0 ≤ _), (by decide : 34 + 0 ≤ _)⟩)
  dsimp only [Pt.U, Pt.locs, Pt.cells, Pt.slots] at X_38 l_38 y_38 z_38 st_38 hQ_38
  obtain rfl : kc_38 = 1 := y_38
  obtain rfl : nc_38 = 34 := z_38
  obtain ⟨h_38, e_38⟩ : ∃ hh, T_38.heap = hh := ⟨_, rfl⟩
  rw [e_38] at hQ_38
  obtain ⟨rfl, N_38q, sm_38⟩ := hQ_38
  have N_38 : Fr n0 L_38 := by rw [l_38]; exact Fr.app N_35 N_38q
  refine Go.st st_38 ?_
  rw [sm_38] at e_38
  show Go p e below s _ _ _ T_38 (mkF m 241 #[.val (.int k), .val (.int ix), .val (.int dx), .val (.ref b_1), .val (.int vx_37), .unset, .unset] [(.int (b2i (own_ns k.toInt = true)))])
  by_cases hc_39 : own_ns k.toInt = true
  · rw [show (b2i (own_ns k.toInt = true)) = (1 : Int32) from b2i_pos hc_39]
    show Go p e below s _ _ _ T_38 (mkF m 241 #[.val (.int k), .val (.int ix), .val (.int dx), .val (.ref b_1), .val (.int vx_37), .unset, .unset] [(.int (1 : Int32))])
    refine Go.st (fun _ => XS.iloadN X_38.here hx rfl (hb hby at_241) rfl) ?_
    show Go p e below s _ _ _ T_38 (mkF m 242 #[.val (.int k), .val (.int ix), .val (.int dx), .val (.ref b_1), .val (.int vx_37), .unset, .unset] [(.int k), (.int (1 : Int32))])
    obtain ⟨_, _, ⟨T_40, L_40, kc_40, nc_40⟩, -, X_40, ⟨Lc_40, hQ_40, l_40, y_40, z_40⟩, st_40⟩ := Jvm.LawKit.callS X_38 hx (y := (⟨"com/example/moat/moat/xpath/NamesIsNameStartPinLaw", "ref", "(I)Z"⟩ : MethodName)) hown (mvT hZ (hw _ (List.mem_of_getElem? (i := 20) rfl))) (mvT hZ (hw _ (List.mem_of_getElem? (i := 21) rfl))) (mvT hZ (hw _ (List.mem_of_getElem? (i := 22) rfl))) (mvT hZ (hw _ (List.mem_of_getElem? (i := 23) rfl))) (by decide) (backOf (W := 1) (rm2 l Z a0 hw [] k h_35 n0 z_35 ) hZ (hw _ (List.mem_of_getElem? (i := 23) rfl)) (hw _ (List.mem_of_getElem? (i := 22) rfl)) (by decide) (by decide)) (g := (mkF m 242 #[.val (.int k), .val (.int ix), .val (.int dx), .val (.ref b_1), .val (.int vx_37), .unset, .unset] [(.int k), (.int (1 : Int32))])) rfl (by rw [hml]; rfl) (argsL := [(.int k)]) (rest := [(.int (1 : Int32))]) (lenOf pd_1 rfl) rfl (by show 2 * 0 + _ ≤ _; exact Nat.le_of_eq rfl) (hb hby at_242) (fun _ _ => ⟨rfl, e_38, (by decide : 1 + 0 ≤ _), (by decide : 34 + 0 ≤ _)⟩)
    dsimp only [Pt.U, Pt.locs, Pt.cells, Pt.slots] at X_40 l_40 y_40 z_40 st_40 hQ_40
    obtain rfl : kc_40 = 1 := y_40
    obtain rfl : nc_40 = 34 := z_40
    obtain ⟨h_40, e_40⟩ : ∃ hh, T_40.heap = hh := ⟨_, rfl⟩
    rw [e_40] at hQ_40
    obtain ⟨rfl, N_40q, sm_40⟩ := hQ_40
    have N_40 : Fr n0 L_40 := by rw [l_40]; exact Fr.app N_38 N_40q
    refine Go.st st_40 ?_
    rw [sm_40] at e_40
    show Go p e below s _ _ _ T_40 (mkF m 245 #[.val (.int k), .val (.int ix), .val (.int dx), .val (.ref b_1), .val (.int vx_37), .unset, .unset] [(.int (b2i (¬ (own_gap k.toInt = true)))), (.int (1 : Int32))])
    rw [show (b2i (¬ (own_gap k.toInt = true))) = (1 : Int32) from b2i_pos (own_no hc_39)]
    show Go p e below s _ _ _ T_40 (mkF m 245 #[.val (.int k), .val (.int ix), .val (.int dx), .val (.ref b_1), .val (.int vx_37), .unset, .unset] [(.int (1 : Int32)), (.int (1 : Int32))])
    refine Go.st (fun _ => XS.icmpNo X_40.here hx rfl (hb hby at_245) rfl (teq (by decide : (1 : Int32) = (1 : Int32))).2) ?_
    show Go p e below s _ _ _ T_40 (mkF m 248 #[.val (.int k), .val (.int ix), .val (.int dx), .val (.ref b_1), .val (.int vx_37), .unset, .unset] [])
    refine Go.st (fun _ => XS.iconst X_40.here hx rfl (hb hby at_248)) ?_
    show Go p e below s _ _ _ T_40 (mkF m 249 #[.val (.int k), .val (.int ix), .val (.int dx), .val (.ref b_1), .val (.int vx_37), .unset, .unset] [(.int (1 : Int32))])
    refine Go.st (fun _ => XS.goto X_40.here hx rfl (pc0 := 249) (pc' := 253) rfl (hb hby at_249) (by decide) (by decide)) ?_
    show Go p e below s _ _ _ T_40 (mkF m 253 #[.val (.int k), .val (.int ix), .val (.int dx), .val (.ref b_1), .val (.int vx_37), .unset, .unset] [(.int (1 : Int32))])
    refine Go.st (fun _ => XS.istore X_40.here hx rfl (hb hby at_253) rfl (l' := #[.val (.int k), .val (.int ix), .val (.int dx), .val (.ref b_1), .val (.int vx_37), .val (.int (1 : Int32)), .unset]) rfl) ?_
    show Go p e below s _ _ _ T_40 (mkF m 255 #[.val (.int k), .val (.int ix), .val (.int dx), .val (.ref b_1), .val (.int vx_37), .val (.int (1 : Int32)), .unset] [])
    refine Go.st (fun _ => XS.iload X_40.here hx rfl (hb hby at_255) rfl) ?_
    show Go p e below s _ _ _ T_40 (mkF m 257 #[.val (.int k), .val (.int ix), .val (.int dx), .val (.ref b_1), .val (.int vx_37), .val (.int (1 : Int32)), .unset] [(.int vx_37)])
    obtain ⟨_, _, ⟨T_41, L_41, kc_41, nc_41⟩, -, X_41, ⟨Lc_41, hQ_41, l_41, y_41, z_41⟩, st_41⟩ := Jvm.LawKit.callS X_40 hx (y := (⟨"com/example/moat/moat/xpath/Names", "isNameStart", "(I)Z"⟩ : MethodName)) hown (mvT hZ (hw _ (List.mem_of_getElem? (i := 12) rfl))) (mvT hZ (hw _ (List.mem_of_getElem? (i := 13) rfl))) (mvT hZ (hw _ (List.mem_of_getElem? (i := 14) rfl))) (mvT hZ (hw _ (List.mem_of_getElem? (i := 15) rfl))) (by decide) (backOf (W := 0) (rm1 l Z a0 hw [] vx_37 h_35 n0 z_35 ) hZ (hw _ (List.mem_of_getElem? (i := 15) rfl)) (hw _ (List.mem_of_getElem? (i := 14) rfl)) (by decide) (by decide)) (g := (mkF m 257 #[.val (.int k), .val (.int ix), .val (.int dx), .val (.ref b_1), .val (.int vx_37), .val (.int (1 : Int32)), .unset] [(.int vx_37)])) rfl (by rw [hml]; rfl) (argsL := [(.int vx_37)]) (rest := []) (lenOf pd_1 rfl) rfl (by show 2 * 0 + _ ≤ _; exact Nat.le_of_eq rfl) (hb hby at_257) (fun _ _ => ⟨rfl, e_40, (by decide : 1 + 0 ≤ _), (by decide : 34 + 0 ≤ _)⟩)
    dsimp only [Pt.U, Pt.locs, Pt.cells, Pt.slots] at X_41 l_41 y_41 z_41 st_41 hQ_41
    obtain rfl : kc_41 = 1 := y_41
    obtain rfl : nc_41 = 34 := z_41
    obtain ⟨h_41, e_41⟩ : ∃ hh, T_41.heap = hh := ⟨_, rfl⟩
    rw [e_41] at hQ_41
    obtain ⟨rfl, N_41q, sm_41⟩ := hQ_41
    have N_41 : Fr n0 L_41 := by rw [l_41]; exact Fr.app N_40 N_41q
    refine Go.st st_41 ?_
    rw [sm_41] at e_41
    show Go p e below s _ _ _ T_41 (mkF m 260 #[.val (.int k), .val (.int ix), .val (.int dx), .val (.ref b_1), .val (.int vx_37), .val (.int (1 : Int32)), .unset] [(.int (b2i (own_ns vx_37.toInt = true)))])
    by_cases hc_42 : own_ns vx_37.toInt = true
    · rw [show (b2i (own_ns vx_37.toInt = true)) = (1 : Int32) from b2i_pos hc_42]
      show Go p e below s _ _ _ T_41 (mkF m 260 #[.val (.int k), .val (.int ix), .val (.int dx), .val (.ref b_1), .val (.int vx_37), .val (.int (1 : Int32)), .unset] [(.int (1 : Int32))])
      refine Go.st (fun _ => XS.iload X_41.here hx rfl (hb hby at_260) rfl) ?_
      show Go p e below s _ _ _ T_41 (mkF m 262 #[.val (.int k), .val (.int ix), .val (.int dx), .val (.ref b_1), .val (.int vx_37), .val (.int (1 : Int32)), .unset] [(.int vx_37), (.int (1 : Int32))])
      obtain ⟨_, _, ⟨T_43, L_43, kc_43, nc_43⟩, -, X_43, ⟨Lc_43, hQ_43, l_43, y_43, z_43⟩, st_43⟩ := Jvm.LawKit.callS X_41 hx (y := (⟨"com/example/moat/moat/xpath/NamesIsNameStartPinLaw", "ref", "(I)Z"⟩ : MethodName)) hown (mvT hZ (hw _ (List.mem_of_getElem? (i := 20) rfl))) (mvT hZ (hw _ (List.mem_of_getElem? (i := 21) rfl))) (mvT hZ (hw _ (List.mem_of_getElem? (i := 22) rfl))) (mvT hZ (hw _ (List.mem_of_getElem? (i := 23) rfl))) (by decide) (backOf (W := 1) (rm2 l Z a0 hw [] vx_37 h_35 n0 z_35 ) hZ (hw _ (List.mem_of_getElem? (i := 23) rfl)) (hw _ (List.mem_of_getElem? (i := 22) rfl)) (by decide) (by decide)) (g := (mkF m 262 #[.val (.int k), .val (.int ix), .val (.int dx), .val (.ref b_1), .val (.int vx_37), .val (.int (1 : Int32)), .unset] [(.int vx_37), (.int (1 : Int32))])) rfl (by rw [hml]; rfl) (argsL := [(.int vx_37)]) (rest := [(.int (1 : Int32))]) (lenOf pd_1 rfl) rfl (by show 2 * 0 + _ ≤ _; exact Nat.le_of_eq rfl) (hb hby at_262) (fun _ _ => ⟨rfl, e_41, (by decide : 1 + 0 ≤ _), (by decide : 34 + 0 ≤ _)⟩)
      dsimp only [Pt.U, Pt.locs, Pt.cells, Pt.slots] at X_43 l_43 y_43 z_43 st_43 hQ_43
      obtain rfl : kc_43 = 1 := y_43
      obtain rfl : nc_43 = 34 := z_43
      obtain ⟨h_43, e_43⟩ : ∃ hh, T_43.heap = hh := ⟨_, rfl⟩
      rw [e_43] at hQ_43
      obtain ⟨rfl, N_43q, sm_43⟩ := hQ_43
      have N_43 : Fr n0 L_43 := by rw [l_43]; exact Fr.app N_41 N_43q
      refine Go.st st_43 ?_
      rw [sm_43] at e_43
      show Go p e below s _ _ _ T_43 (mkF m 265 #[.val (.int k), .val (.int ix), .val (.int dx), .val (.ref b_1), .val (.int vx_37), .val (.int (1 : Int32)), .unset] [(.int (b2i (¬ (own_gap vx_37.toInt = true)))), (.int (1 : Int32))])
      rw [show (b2i (¬ (own_gap vx_37.toInt = true))) = (1 : Int32) from b2i_pos (own_no hc_42)]
      show Go p e below s _ _ _ T_43 (mkF m 265 #[.val (.int k), .val (.int ix), .val (.int dx), .val (.ref b_1), .val (.int vx_37), .val (.int (1 : Int32)), .unset] [(.int (1 : Int32)), (.int (1 : Int32))])
      refine Go.st (fun _ => XS.icmpNo X_43.here hx rfl (hb hby at_265) rfl (teq (by decide : (1 : Int32) = (1 : Int32))).2) ?_
      show Go p e below s _ _ _ T_43 (mkF m 268 #[.val (.int k), .val (.int ix), .val (.int dx), .val (.ref b_1), .val (.int vx_37), .val (.int (1 : Int32)), .unset] [])
      refine Go.st (fun _ => XS.iconst X_43.here hx rfl (hb hby at_268)) ?_
      show Go p e below s _ _ _ T_43 (mkF m 269 #[.val (.int k), .val (.int ix), .val (.int dx), .val (.ref b_1), .val (.int vx_37), .val (.int (1 : Int32)), .unset] [(.int (1 : Int32))])
      refine Go.st (fun _ => XS.goto X_43.here hx rfl (pc0 := 269) (pc' := 273) rfl (hb hby at_269) (by decide) (by decide)) ?_
      show Go p e below s _ _ _ T_43 (mkF m 273 #[.val (.int k), .val (.int ix), .val (.int dx), .val (.ref b_1), .val (.int vx_37), .val (.int (1 : Int32)), .unset] [(.int (1 : Int32))])
      refine Go.st (fun _ => XS.istore X_43.here hx rfl (hb hby at_273) rfl (l' := #[.val (.int k), .val (.int ix), .val (.int dx), .val (.ref b_1), .val (.int vx_37), .val (.int (1 : Int32)), .val (.int (1 : Int32))]) rfl) ?_
      show Go p e below s _ _ _ T_43 (mkF m 275 #[.val (.int k), .val (.int ix), .val (.int dx), .val (.ref b_1), .val (.int vx_37), .val (.int (1 : Int32)), .val (.int (1 : Int32))] [])
      refine Go.st (fun _ => XS.iload X_43.here hx rfl (hb hby at_275) rfl) ?_
      show Go p e below s _ _ _ T_43 (mkF m 277 #[.val (.int k), .val (.int ix), .val (.int dx), .val (.ref b_1), .val (.int vx_37), .val (.int (1 : Int32)), .val (.int (1 : Int32))] [(.int (1 : Int32))])
      refine Go.st (fun _ => XS.ifNo X_43.here hx rfl (hb hby at_277) rfl ((if0 _ _).trans (feq (by decide : ¬ ((1 : Int32) = (0 : Int32)))).1)) ?_
      show Go p e below s _ _ _ T_43 (mkF m 280 #[.val (.int k), .val (.int ix), .val (.int dx), .val (.ref b_1), .val (.int vx_37), .val (.int (1 : Int32)), .val (.int (1 : Int32))] [])
      refine Go.st (fun _ => XS.iload X_43.here hx rfl (hb hby at_280) rfl) ?_
      show Go p e below s _ _ _ T_43 (mkF m 282 #[.val (.int k), .val (.int ix), .val (.int dx), .val (.ref b_1), .val (.int vx_37), .val (.int (1 : Int32)), .val (.int (1 : Int32))] [(.int (1 : Int32))])
      refine Go.st (fun _ => XS.ifNo X_43.here hx rfl (hb hby at_282) rfl ((if0 _ _).trans (feq (by decide : ¬ ((1 : Int32) = (0 : Int32)))).1)) ?_
      show Go p e below s _ _ _ T_43 (mkF m 285 #[.val (.int k), .val (.int ix), .val (.int dx), .val (.ref b_1), .val (.int vx_37), .val (.int (1 : Int32)), .val (.int (1 : Int32))] [])
      refine Go.st (fun _ => XS.iconst X_43.here hx rfl (hb hby at_285)) ?_
      show Go p e below s _ _ _ T_43 (mkF m 286 #[.val (.int k), .val (.int ix), .val (.int dx), .val (.ref b_1), .val (.int vx_37), .val (.int (1 : Int32)), .val (.int (1 : Int32))] [(.int (1 : Int32))])
      refine Go.st (fun _ => XS.goto X_43.here hx rfl (pc0 := 286) (pc' := 290) rfl (hb hby at_286) (by decide) (by decide)) ?_
      show Go p e below s _ _ _ T_43 (mkF m 290 #[.val (.int k), .val (.int ix), .val (.int dx), .val (.ref b_1), .val (.int vx_37), .val (.int (1 : Int32)), .val (.int (1 : Int32))] [(.int (1 : Int32))])
      exact Go.retZ X_43 hx hlk Bd.returns (hb hby at_290) rfl (by rw [e_43]; exact ⟨rfl, N_43⟩) (by decide) (by decide)
    · rw [show (b2i (own_ns vx_37.toInt = true)) = (0 : Int32) from b2i_neg hc_42]
      show Go p e below s _ _ _ T_41 (mkF m 260 #[.val (.int k), .val (.int ix), .val (.int dx), .val (.ref b_1), .val (.int vx_37), .val (.int (1 : Int32)), .unset] [(.int (0 : Int32))])
      refine Go.st (fun _ => XS.iload X_41.here hx rfl (hb hby at_260) rfl) ?_
      show Go p e below s _ _ _ T_41 (mkF m 262 #[.val (.int k), .val (.int ix), .val (.int dx), .val (.ref b_1), .val (.int vx_37), .val (.int (1 : Int32)), .unset] [(.int vx_37), (.int (0 : Int32))])
      obtain ⟨_, _, ⟨T_44, L_44, kc_44, nc_44⟩, -, X_44, ⟨Lc_44, hQ_44, l_44, y_44, z_44⟩, st_44⟩ := Jvm.LawKit.callS X_41 hx (y := (⟨"com/example/moat/moat/xpath/NamesIsNameStartPinLaw", "ref", "(I)Z"⟩ : MethodName)) hown (mvT hZ (hw _ (List.mem_of_getElem? (i := 20) rfl))) (mvT hZ (hw _ (List.mem_of_getElem? (i := 21) rfl))) (mvT hZ (hw _ (List.mem_of_getElem? (i := 22) rfl))) (mvT hZ (hw _ (List.mem_of_getElem? (i := 23) rfl))) (by decide) (backOf (W := 1) (rm2 l Z a0 hw [] vx_37 h_35 n0 z_35 ) hZ (hw _ (List.mem_of_getElem? (i := 23) rfl)) (hw _ (List.mem_of_getElem? (i := 22) rfl)) (by decide) (by decide)) (g := (mkF m 262 #[.val (.int k), .val (.int ix), .val (.int dx), .val (.ref b_1), .val (.int vx_37), .val (.int (1 : Int32)), .unset] [(.int vx_37), (.int (0 : Int32))])) rfl (by rw [hml]; rfl) (argsL := [(.int vx_37)]) (rest := [(.int (0 : Int32))]) (lenOf pd_1 rfl) rfl (by show 2 * 0 + _ ≤ _; exact Nat.le_of_eq rfl) (hb hby at_262) (fun _ _ => ⟨rfl, e_41, (by decide : 1 + 0 ≤ _), (by decide : 34 + 0 ≤ _)⟩)
      dsimp only [Pt.U, Pt.locs, Pt.cells, Pt.slots] at X_44 l_44 y_44 z_44 st_44 hQ_44
      obtain rfl : kc_44 = 1 := y_44
      obtain rfl : nc_44 = 34 := z_44
      obtain ⟨h_44, e_44⟩ : ∃ hh, T_44.heap = hh := ⟨_, rfl⟩
      rw [e_44] at hQ_44
      obtain ⟨rfl, N_44q, sm_44⟩ := hQ_44
      have N_44 : Fr n0 L_44 := by rw [l_44]; exact Fr.app N_41 N_44q
      refine Go.st st_44 ?_
      rw [sm_44] at e_44
      show Go p e below s _ _ _ T_44 (mkF m 265 #[.val (.int k), .val (.int ix), .val (.int dx), .val (.ref b_1), .val (.int vx_37), .val (.int (1 : Int32)), .unset] [(.int (b2i (¬ (own_gap vx_37.toInt = true)))), (.int (0 : Int32))])
      rw [show (b2i (¬ (own_gap vx_37.toInt = true))) = (0 : Int32) from b2i_neg (not_not_intro (own_yes hc_42))]
      show Go p e below s _ _ _ T_44 (mkF m 265 #[.val (.int k), .val (.int ix), .val (.int dx), .val (.ref b_1), .val (.int vx_37), .val (.int (1 : Int32)), .unset] [(.int (0 : Int32)), (.int (0 : Int32))])
      refine Go.st (fun _ => XS.icmpNo X_44.here hx rfl (hb hby at_265) rfl (teq (by decide : (0 : Int32) = (0 : Int32))).2) ?_
      show Go p e below s _ _ _ T_44 (mkF m 268 #[.val (.int k), .val (.int ix), .val (.int dx), .val (.ref b_1), .val (.int vx_37), .val (.int (1 : Int32)), .unset] [])
      refine Go.st (fun _ => XS.iconst X_44.here hx rfl (hb hby at_268)) ?_
      show Go p e below s _ _ _ T_44 (mkF m 269 #[.val (.int k), .val (.int ix), .val (.int dx), .val (.ref b_1), .val (.int vx_37), .val (.int (1 : Int32)), .unset] [(.int (1 : Int32))])
      refine Go.st (fun _ => XS.goto X_44.here hx rfl (pc0 := 269) (pc' := 273) rfl (hb hby at_269) (by decide) (by decide)) ?_
      show Go p e below s _ _ _ T_44 (mkF m 273 #[.val (.int k), .val (.int ix), .val (.int dx), .val (.ref b_1), .val (.int vx_37), .val (.int (1 : Int32)), .unset] [(.int (1 : Int32))])
      refine Go.st (fun _ => XS.istore X_44.here hx rfl (hb hby at_273) rfl (l' := #[.val (.int k), .val (.int ix), .val (.int dx), .val (.ref b_1), .val (.int vx_37), .val (.int (1 : Int32)), .val (.int (1 : Int32))]) rfl) ?_
      show Go p e below s _ _ _ T_44 (mkF m 275 #[.val (.int k), .val (.int ix), .val (.int dx), .val (.ref b_1), .val (.int vx_37), .val (.int (1 : Int32)), .val (.int (1 : Int32))] [])
      refine Go.st (fun _ => XS.iload X_44.here hx rfl (hb hby at_275) rfl) ?_
      show Go p e below s _ _ _ T_44 (mkF m 277 #[.val (.int k), .val (.int ix), .val (.int dx), .val (.ref b_1), .val (.int vx_37), .val (.int (1 : Int32)), .val (.int (1 : Int32))] [(.int (1 : Int32))])
      refine Go.st (fun _ => XS.ifNo X_44.here hx rfl (hb hby at_277) rfl ((if0 _ _).trans (feq (by decide : ¬ ((1 : Int32) = (0 : Int32)))).1)) ?_
      show Go p e below s _ _ _ T_44 (mkF m 280 #[.val (.int k), .val (.int ix), .val (.int dx), .val (.ref b_1), .val (.int vx_37), .val (.int (1 : Int32)), .val (.int (1 : Int32))] [])
      refine Go.st (fun _ => XS.iload X_44.here hx rfl (hb hby at_280) rfl) ?_
      show Go p e below s _ _ _ T_44 (mkF m 282 #[.val (.int k), .val (.int ix), .val (.int dx), .val (.ref b_1), .val (.int vx_37), .val (.int (1 : Int32)), .val (.int (1 : Int32))] [(.int (1 : Int32))])
      refine Go.st (fun _ => XS.ifNo X_44.here hx rfl (hb hby at_282) rfl ((if0 _ _).trans (feq (by decide : ¬ ((1 : Int32) = (0 : Int32)))).1)) ?_
      show Go p e below s _ _ _ T_44 (mkF m 285 #[.val (.int k), .val (.int ix), .val (.int dx), .val (.ref b_1), .val (.int vx_37), .val (.int (1 : Int32)), .val (.int (1 : Int32))] [])
      refine Go.st (fun _ => XS.iconst X_44.here hx rfl (hb hby at_285)) ?_
      show Go p e below s _ _ _ T_44 (mkF m 286 #[.val (.int k), .val (.int ix), .val (.int dx), .val (.ref b_1), .val (.int vx_37), .val (.int (1 : Int32)), .val (.int (1 : Int32))] [(.int (1 : Int32))])
      refine Go.st (fun _ => XS.goto X_44.here hx rfl (pc0 := 286) (pc' := 290) rfl (hb hby at_286) (by decide) (by decide)) ?_
      show Go p e below s _ _ _ T_44 (mkF m 290 #[.val (.int k), .val (.int ix), .val (.int dx), .val (.ref b_1), .val (.int vx_37), .val (.int (1 : Int32)), .val (.int (1 : Int32))] [(.int (1 : Int32))])
      exact Go.retZ X_44 hx hlk Bd.returns (hb hby at_290) rfl (by rw [e_44]; exact ⟨rfl, N_44⟩) (by decide) (by decide)
  · rw [show (b2i (own_ns k.toInt = true)) = (0 : Int32) from b2i_neg hc_39]
    show Go p e below s _ _ _ T_38 (mkF m 241 #[.val (.int k), .val (.int ix), .val (.int dx), .val (.ref b_1), .val (.int vx_37), .unset, .unset] [(.int (0 : Int32))])
    refine Go.st (fun _ => XS.iloadN X_38.here hx rfl (hb hby at_241) rfl) ?_
    show Go p e below s _ _ _ T_38 (mkF m 242 #[.val (.int k), .val (.int ix), .val (.int dx), .val (.ref b_1), .val (.int vx_37), .unset, .unset] [(.int k), (.int (0 : Int32))])
    obtain ⟨_, _, ⟨T_45, L_45, kc_45, nc_45⟩, -, X_45, ⟨Lc_45, hQ_45, l_45, y_45, z_45⟩, st_45⟩ := Jvm.LawKit.callS X_38 hx (y := (⟨"com/example/moat/moat/xpath/NamesIsNameStartPinLaw", "ref", "(I)Z"⟩ : MethodName)) hown (mvT hZ (hw _ (List.mem_of_getElem? (i := 20) rfl))) (mvT hZ (hw _ (List.mem_of_getElem? (i := 21) rfl))) (mvT hZ (hw _ (List.mem_of_getElem? (i := 22) rfl))) (mvT hZ (hw _ (List.mem_of_getElem? (i := 23) rfl))) (by decide) (backOf (W := 1) (rm2 l Z a0 hw [] k h_35 n0 z_35 ) hZ (hw _ (List.mem_of_getElem? (i := 23) rfl)) (hw _ (List.mem_of_getElem? (i := 22) rfl)) (by decide) (by decide)) (g := (mkF m 242 #[.val (.int k), .val (.int ix), .val (.int dx), .val (.ref b_1), .val (.int vx_37), .unset, .unset] [(.int k), (.int (0 : Int32))])) rfl (by rw [hml]; rfl) (argsL := [(.int k)]) (rest := [(.int (0 : Int32))]) (lenOf pd_1 rfl) rfl (by show 2 * 0 + _ ≤ _; exact Nat.le_of_eq rfl) (hb hby at_242) (fun _ _ => ⟨rfl, e_38, (by decide : 1 + 0 ≤ _), (by decide : 34 + 0 ≤ _)⟩)
    dsimp only [Pt.U, Pt.locs, Pt.cells, Pt.slots] at X_45 l_45 y_45 z_45 st_45 hQ_45
    obtain rfl : kc_45 = 1 := y_45
    obtain rfl : nc_45 = 34 := z_45
    obtain ⟨h_45, e_45⟩ : ∃ hh, T_45.heap = hh := ⟨_, rfl⟩
    rw [e_45] at hQ_45
    obtain ⟨rfl, N_45q, sm_45⟩ := hQ_45
    have N_45 : Fr n0 L_45 := by rw [l_45]; exact Fr.app N_38 N_45q
    refine Go.st st_45 ?_
    rw [sm_45] at e_45
    show Go p e below s _ _ _ T_45 (mkF m 245 #[.val (.int k), .val (.int ix), .val (.int dx), .val (.ref b_1), .val (.int vx_37), .unset, .unset] [(.int (b2i (¬ (own_gap k.toInt = true)))), (.int (0 : Int32))])
    rw [show (b2i (¬ (own_gap k.toInt = true))) = (0 : Int32) from b2i_neg (not_not_intro (own_yes hc_39))]
    show Go p e below s _ _ _ T_45 (mkF m 245 #[.val (.int k), .val (.int ix), .val (.int dx), .val (.ref b_1), .val (.int vx_37), .unset, .unset] [(.int (0 : Int32)), (.int (0 : Int32))])
    refine Go.st (fun _ => XS.icmpNo X_45.here hx rfl (hb hby at_245) rfl (teq (by decide : (0 : Int32) = (0 : Int32))).2) ?_
    show Go p e below s _ _ _ T_45 (mkF m 248 #[.val (.int k), .val (.int ix), .val (.int dx), .val (.ref b_1), .val (.int vx_37), .unset, .unset] [])
    refine Go.st (fun _ => XS.iconst X_45.here hx rfl (hb hby at_248)) ?_
    show Go p e below s _ _ _ T_45 (mkF m 249 #[.val (.int k), .val (.int ix), .val (.int dx), .val (.ref b_1), .val (.int vx_37), .unset, .unset] [(.int (1 : Int32))])
    refine Go.st (fun _ => XS.goto X_45.here hx rfl (pc0 := 249) (pc' := 253) rfl (hb hby at_249) (by decide) (by decide)) ?_
    show Go p e below s _ _ _ T_45 (mkF m 253 #[.val (.int k), .val (.int ix), .val (.int dx), .val (.ref b_1), .val (.int vx_37), .unset, .unset] [(.int (1 : Int32))])
    refine Go.st (fun _ => XS.istore X_45.here hx rfl (hb hby at_253) rfl (l' := #[.val (.int k), .val (.int ix), .val (.int dx), .val (.ref b_1), .val (.int vx_37), .val (.int (1 : Int32)), .unset]) rfl) ?_
    show Go p e below s _ _ _ T_45 (mkF m 255 #[.val (.int k), .val (.int ix), .val (.int dx), .val (.ref b_1), .val (.int vx_37), .val (.int (1 : Int32)), .unset] [])
    refine Go.st (fun _ => XS.iload X_45.here hx rfl (hb hby at_255) rfl) ?_
    show Go p e below s _ _ _ T_45 (mkF m 257 #[.val (.int k), .val (.int ix), .val (.int dx), .val (.ref b_1), .val (.int vx_37), .val (.int (1 : Int32)), .unset] [(.int vx_37)])
    obtain ⟨_, _, ⟨T_46, L_46, kc_46, nc_46⟩, -, X_46, ⟨Lc_46, hQ_46, l_46, y_46, z_46⟩, st_46⟩ := Jvm.LawKit.callS X_45 hx (y := (⟨"com/example/moat/moat/xpath/Names", "isNameStart", "(I)Z"⟩ : MethodName)) hown (mvT hZ (hw _ (List.mem_of_getElem? (i := 12) rfl))) (mvT hZ (hw _ (List.mem_of_getElem? (i := 13) rfl))) (mvT hZ (hw _ (List.mem_of_getElem? (i := 14) rfl))) (mvT hZ (hw _ (List.mem_of_getElem? (i := 15) rfl))) (by decide) (backOf (W := 0) (rm1 l Z a0 hw [] vx_37 h_35 n0 z_35 ) hZ (hw _ (List.mem_of_getElem? (i := 15) rfl)) (hw _ (List.mem_of_getElem? (i := 14) rfl)) (by decide) (by decide)) (g := (mkF m 257 #[.val (.int k), .val (.int ix), .val (.int dx), .val (.ref b_1), .val (.int vx_37), .val (.int (1 : Int32)), .unset] [(.int vx_37)])) rfl (by rw [hml]; rfl) (argsL := [(.int vx_37)]) (rest := []) (lenOf pd_1 rfl) rfl (by show 2 * 0 + _ ≤ _; exact Nat.le_of_eq rfl) (hb hby at_257) (fun _ _ => ⟨rfl, e_45, (by decide : 1 + 0 ≤ _), (by decide : 34 + 0 ≤ _)⟩)
    dsimp only [Pt.U, Pt.locs, Pt.cells, Pt.slots] at X_46 l_46 y_46 z_46 st_46 hQ_46
    obtain rfl : kc_46 = 1 := y_46
    obtain rfl : nc_46 = 34 := z_46
    obtain ⟨h_46, e_46⟩ : ∃ hh, T_46.heap = hh := ⟨_, rfl⟩
    rw [e_46] at hQ_46
    obtain ⟨rfl, N_46q, sm_46⟩ := hQ_46
    have N_46 : Fr n0 L_46 := by rw [l_46]; exact Fr.app N_45 N_46q
    refine Go.st st_46 ?_
    rw [sm_46] at e_46
    show Go p e below s _ _ _ T_46 (mkF m 260 #[.val (.int k), .val (.int ix), .val (.int dx), .val (.ref b_1), .val (.int vx_37), .val (.int (1 : Int32)), .unset] [(.int (b2i (own_ns vx_37.toInt = true)))])
    by_cases hc_47 : own_ns vx_37.toInt = true
    · rw [show (b2i (own_ns vx_37.toInt = true)) = (1 : Int32) from b2i_pos hc_47]
      show Go p e below s _ _ _ T_46 (mkF m 260 #[.val (.int k), .val (.int ix), .val (.int dx), .val (.ref b_1), .val (.int vx_37), .val (.int (1 : Int32)), .unset] [(.int (1 : Int32))])
      refine Go.st (fun _ => XS.iload X_46.here hx rfl (hb hby at_260) rfl) ?_
      show Go p e below s _ _ _ T_46 (mkF m 262 #[.val (.int k), .val (.int ix), .val (.int dx), .val (.ref b_1), .val (.int vx_37), .val (.int (1 : Int32)), .unset] [(.int vx_37), (.int (1 : Int32))])
      obtain ⟨_, _, ⟨T_48, L_48, kc_48, nc_48⟩, -, X_48, ⟨Lc_48, hQ_48, l_48, y_48, z_48⟩, st_48⟩ := Jvm.LawKit.callS X_46 hx (y := (⟨"com/example/moat/moat/xpath/NamesIsNameStartPinLaw", "ref", "(I)Z"⟩ : MethodName)) hown (mvT hZ (hw _ (List.mem_of_getElem? (i := 20) rfl))) (mvT hZ (hw _ (List.mem_of_getElem? (i := 21) rfl))) (mvT hZ (hw _ (List.mem_of_getElem? (i := 22) rfl))) (mvT hZ (hw _ (List.mem_of_getElem? (i := 23) rfl))) (by decide) (backOf (W := 1) (rm2 l Z a0 hw [] vx_37 h_35 n0 z_35 ) hZ (hw _ (List.mem_of_getElem? (i := 23) rfl)) (hw _ (List.mem_of_getElem? (i := 22) rfl)) (by decide) (by decide)) (g := (mkF m 262 #[.val (.int k), .val (.int ix), .val (.int dx), .val (.ref b_1), .val (.int vx_37), .val (.int (1 : Int32)), .unset] [(.int vx_37), (.int (1 : Int32))])) rfl (by rw [hml]; rfl) (argsL := [(.int vx_37)]) (rest := [(.int (1 : Int32))]) (lenOf pd_1 rfl) rfl (by show 2 * 0 + _ ≤ _; exact Nat.le_of_eq rfl) (hb hby at_262) (fun _ _ => ⟨rfl, e_46, (by decide : 1 + 0 ≤ _), (by decide : 34 + 0 ≤ _)⟩)
      dsimp only [Pt.U, Pt.locs, Pt.cells, Pt.slots] at X_48 l_48 y_48 z_48 st_48 hQ_48
      obtain rfl : kc_48 = 1 := y_48
      obtain rfl : nc_48 = 34 := z_48
      obtain ⟨h_48, e_48⟩ : ∃ hh, T_48.heap = hh := ⟨_, rfl⟩
      rw [e_48] at hQ_48
      obtain ⟨rfl, N_48q, sm_48⟩ := hQ_48
      have N_48 : Fr n0 L_48 := by rw [l_48]; exact Fr.app N_46 N_48q
      refine Go.st st_48 ?_
      rw [sm_48] at e_48
      show Go p e below s _ _ _ T_48 (mkF m 265 #[.val (.int k), .val (.int ix), .val (.int dx), .val (.ref b_1), .val (.int vx_37), .val (.int (1 : Int32)), .unset] [(.int (b2i (¬ (own_gap vx_37.toInt = true)))), (.int (1 : Int32))])
      rw [show (b2i (¬ (own_gap vx_37.toInt = true))) = (1 : Int32) from b2i_pos (own_no hc_47)]
      show Go p e below s _ _ _ T_48 (mkF m 265 #[.val (.int k), .val (.int ix), .val (.int dx), .val (.ref b_1), .val (.int vx_37), .val (.int (1 : Int32)), .unset] [(.int (1 : Int32)), (.int (1 : Int32))])
      refine Go.st (fun _ => XS.icmpNo X_48.here hx rfl (hb hby at_265) rfl (teq (by decide : (1 : Int32) = (1 : Int32))).2) ?_
      show Go p e below s _ _ _ T_48 (mkF m 268 #[.val (.int k), .val (.int ix), .val (.int dx), .val (.ref b_1), .val (.int vx_37), .val (.int (1 : Int32)), .unset] [])
      refine Go.st (fun _ => XS.iconst X_48.here hx rfl (hb hby at_268)) ?_
      show Go p e below s _ _ _ T_48 (mkF m 269 #[.val (.int k), .val (.int ix), .val (.int dx), .val (.ref b_1), .val (.int vx_37), .val (.int (1 : Int32)), .unset] [(.int (1 : Int32))])
      refine Go.st (fun _ => XS.goto X_48.here hx rfl (pc0 := 269) (pc' := 273) rfl (hb hby at_269) (by decide) (by decide)) ?_
      show Go p e below s _ _ _ T_48 (mkF m 273 #[.val (.int k), .val (.int ix), .val (.int dx), .val (.ref b_1), .val (.int vx_37), .val (.int (1 : Int32)), .unset] [(.int (1 : Int32))])
      refine Go.st (fun _ => XS.istore X_48.here hx rfl (hb hby at_273) rfl (l' := #[.val (.int k), .val (.int ix), .val (.int dx), .val (.ref b_1), .val (.int vx_37), .val (.int (1 : Int32)), .val (.int (1 : Int32))]) rfl) ?_
      show Go p e below s _ _ _ T_48 (mkF m 275 #[.val (.int k), .val (.int ix), .val (.int dx), .val (.ref b_1), .val (.int vx_37), .val (.int (1 : Int32)), .val (.int (1 : Int32))] [])
      refine Go.st (fun _ => XS.iload X_48.here hx rfl (hb hby at_275) rfl) ?_
      show Go p e below s _ _ _ T_48 (mkF m 277 #[.val (.int k), .val (.int ix), .val (.int dx), .val (.ref b_1), .val (.int vx_37), .val (.int (1 : Int32)), .val (.int (1 : Int32))] [(.int (1 : Int32))])
      refine Go.st (fun _ => XS.ifNo X_48.here hx rfl (hb hby at_277) rfl ((if0 _ _).trans (feq (by decide : ¬ ((1 : Int32) = (0 : Int32)))).1)) ?_
      show Go p e below s _ _ _ T_48 (mkF m 280 #[.val (.int k), .val (.int ix), .val (.int dx), .val (.ref b_1), .val (.int vx_37), .val (.int (1 : Int32)), .val (.int (1 : Int32))] [])
      refine Go.st (fun _ => XS.iload X_48.here hx rfl (hb hby at_280) rfl) ?_
      show Go p e below s _ _ _ T_48 (mkF m 282 #[.val (.int k), .val (.int ix), .val (.int dx), .val (.ref b_1), .val (.int vx_37), .val (.int (1 : Int32)), .val (.int (1 : Int32))] [(.int (1 : Int32))])
      refine Go.st (fun _ => XS.ifNo X_48.here hx rfl (hb hby at_282) rfl ((if0 _ _).trans (feq (by decide : ¬ ((1 : Int32) = (0 : Int32)))).1)) ?_
      show Go p e below s _ _ _ T_48 (mkF m 285 #[.val (.int k), .val (.int ix), .val (.int dx), .val (.ref b_1), .val (.int vx_37), .val (.int (1 : Int32)), .val (.int (1 : Int32))] [])
      refine Go.st (fun _ => XS.iconst X_48.here hx rfl (hb hby at_285)) ?_
      show Go p e below s _ _ _ T_48 (mkF m 286 #[.val (.int k), .val (.int ix), .val (.int dx), .val (.ref b_1), .val (.int vx_37), .val (.int (1 : Int32)), .val (.int (1 : Int32))] [(.int (1 : Int32))])
      refine Go.st (fun _ => XS.goto X_48.here hx rfl (pc0 := 286) (pc' := 290) rfl (hb hby at_286) (by decide) (by decide)) ?_
      show Go p e below s _ _ _ T_48 (mkF m 290 #[.val (.int k), .val (.int ix), .val (.int dx), .val (.ref b_1), .val (.int vx_37), .val (.int (1 : Int32)), .val (.int (1 : Int32))] [(.int (1 : Int32))])
      exact Go.retZ X_48 hx hlk Bd.returns (hb hby at_290) rfl (by rw [e_48]; exact ⟨rfl, N_48⟩) (by decide) (by decide)
    · rw [show (b2i (own_ns vx_37.toInt = true)) = (0 : Int32) from b2i_neg hc_47]
      show Go p e below s _ _ _ T_46 (mkF m 260 #[.val (.int k), .val (.int ix), .val (.int dx), .val (.ref b_1), .val (.int vx_37), .val (.int (1 : Int32)), .unset] [(.int (0 : Int32))])
      refine Go.st (fun _ => XS.iload X_46.here hx rfl (hb hby at_260) rfl) ?_
      show Go p e below s _ _ _ T_46 (mkF m 262 #[.val (.int k), .val (.int ix), .val (.int dx), .val (.ref b_1), .val (.int vx_37), .val (.int (1 : Int32)), .unset] [(.int vx_37), (.int (0 : Int32))])
      obtain ⟨_, _, ⟨T_49, L_49, kc_49, nc_49⟩, -, X_49, ⟨Lc_49, hQ_49, l_49, y_49, z_49⟩, st_49⟩ := Jvm.LawKit.callS X_46 hx (y := (⟨"com/example/moat/moat/xpath/NamesIsNameStartPinLaw", "ref", "(I)Z"⟩ : MethodName)) hown (mvT hZ (hw _ (List.mem_of_getElem? (i := 20) rfl))) (mvT hZ (hw _ (List.mem_of_getElem? (i := 21) rfl))) (mvT hZ (hw _ (List.mem_of_getElem? (i := 22) rfl))) (mvT hZ (hw _ (List.mem_of_getElem? (i := 23) rfl))) (by decide) (backOf (W := 1) (rm2 l Z a0 hw [] vx_37 h_35 n0 z_35 ) hZ (hw _ (List.mem_of_getElem? (i := 23) rfl)) (hw _ (List.mem_of_getElem? (i := 22) rfl)) (by decide) (by decide)) (g := (mkF m 262 #[.val (.int k), .val (.int ix), .val (.int dx), .val (.ref b_1), .val (.int vx_37), .val (.int (1 : Int32)), .unset] [(.int vx_37), (.int (0 : Int32))])) rfl (by rw [hml]; rfl) (argsL := [(.int vx_37)]) (rest := [(.int (0 : Int32))]) (lenOf pd_1 rfl) rfl (by show 2 * 0 + _ ≤ _; exact Nat.le_of_eq rfl) (hb hby at_262) (fun _ _ => ⟨rfl, e_46, (by decide : 1 + 0 ≤ _), (by decide : 34 + 0 ≤ _)⟩)
      dsimp only [Pt.U, Pt.locs, Pt.cells, Pt.slots] at X_49 l_49 y_49 z_49 st_49 hQ_49
      obtain rfl : kc_49 = 1 := y_49
      obtain rfl : nc_49 = 34 := z_49
      obtain ⟨h_49, e_49⟩ : ∃ hh, T_49.heap = hh := ⟨_, rfl⟩
      rw [e_49] at hQ_49
      obtain ⟨rfl, N_49q, sm_49⟩ := hQ_49
      have N_49 : Fr n0 L_49 := by rw [l_49]; exact Fr.app N_46 N_49q
      refine Go.st st_49 ?_
      rw [sm_49] at e_49
      show Go p e below s _ _ _ T_49 (mkF m 265 #[.val (.int k), .val (.int ix), .val (.int dx), .val (.ref b_1), .val (.int vx_37), .val (.int (1 : Int32)), .unset] [(.int (b2i (¬ (own_gap vx_37.toInt = true)))), (.int (0 : Int32))])
      rw [show (b2i (¬ (own_gap vx_37.toInt = true))) = (0 : Int32) from b2i_neg (not_not_intro (own_yes hc_47))]
      show Go p e below s _ _ _ T_49 (mkF m 265 #[.val (.int k), .val (.int ix), .val (.int dx), .val (.ref b_1), .val (.int vx_37), .val (.int (1 : Int32)), .unset] [(.int (0 : Int32)), (.int (0 : Int32))])
      refine Go.st (fun _ => XS.icmpNo X_49.here hx rfl (hb hby at_265) rfl (teq (by decide : (0 : Int32) = (0 : Int32))).2) ?_
      show Go p e below s _ _ _ T_49 (mkF m 268 #[.val (.int k), .val (.int ix), .val (.int dx), .val (.ref b_1), .val (.int vx_37), .val (.int (1 : Int32)), .unset] [])
      refine Go.st (fun _ => XS.iconst X_49.here hx rfl (hb hby at_268)) ?_
      show Go p e below s _ _ _ T_49 (mkF m 269 #[.val (.int k), .val (.int ix), .val (.int dx), .val (.ref b_1), .val (.int vx_37), .val (.int (1 : Int32)), .unset] [(.int (1 : Int32))])
      refine Go.st (fun _ => XS.goto X_49.here hx rfl (pc0 := 269) (pc' := 273) rfl (hb hby at_269) (by decide) (by decide)) ?_
      show Go p e below s _ _ _ T_49 (mkF m 273 #[.val (.int k), .val (.int ix), .val (.int dx), .val (.ref b_1), .val (.int vx_37), .val (.int (1 : Int32)), .unset] [(.int (1 : Int32))])
      refine Go.st (fun _ => XS.istore X_49.here hx rfl (hb hby at_273) rfl (l' := #[.val (.int k), .val (.int ix), .val (.int dx), .val (.ref b_1), .val (.int vx_37), .val (.int (1 : Int32)), .val (.int (1 : Int32))]) rfl) ?_
      show Go p e below s _ _ _ T_49 (mkF m 275 #[.val (.int k), .val (.int ix), .val (.int dx), .val (.ref b_1), .val (.int vx_37), .val (.int (1 : Int32)), .val (.int (1 : Int32))] [])
      refine Go.st (fun _ => XS.iload X_49.here hx rfl (hb hby at_275) rfl) ?_
      show Go p e below s _ _ _ T_49 (mkF m 277 #[.val (.int k), .val (.int ix), .val (.int dx), .val (.ref b_1), .val (.int vx_37), .val (.int (1 : Int32)), .val (.int (1 : Int32))] [(.int (1 : Int32))])
      refine Go.st (fun _ => XS.ifNo X_49.here hx rfl (hb hby at_277) rfl ((if0 _ _).trans (feq (by decide : ¬ ((1 : Int32) = (0 : Int32)))).1)) ?_
      show Go p e below s _ _ _ T_49 (mkF m 280 #[.val (.int k), .val (.int ix), .val (.int dx), .val (.ref b_1), .val (.int vx_37), .val (.int (1 : Int32)), .val (.int (1 : Int32))] [])
      refine Go.st (fun _ => XS.iload X_49.here hx rfl (hb hby at_280) rfl) ?_
      show Go p e below s _ _ _ T_49 (mkF m 282 #[.val (.int k), .val (.int ix), .val (.int dx), .val (.ref b_1), .val (.int vx_37), .val (.int (1 : Int32)), .val (.int (1 : Int32))] [(.int (1 : Int32))])
      refine Go.st (fun _ => XS.ifNo X_49.here hx rfl (hb hby at_282) rfl ((if0 _ _).trans (feq (by decide : ¬ ((1 : Int32) = (0 : Int32)))).1)) ?_
      show Go p e below s _ _ _ T_49 (mkF m 285 #[.val (.int k), .val (.int ix), .val (.int dx), .val (.ref b_1), .val (.int vx_37), .val (.int (1 : Int32)), .val (.int (1 : Int32))] [])
      refine Go.st (fun _ => XS.iconst X_49.here hx rfl (hb hby at_285)) ?_
      show Go p e below s _ _ _ T_49 (mkF m 286 #[.val (.int k), .val (.int ix), .val (.int dx), .val (.ref b_1), .val (.int vx_37), .val (.int (1 : Int32)), .val (.int (1 : Int32))] [(.int (1 : Int32))])
      refine Go.st (fun _ => XS.goto X_49.here hx rfl (pc0 := 286) (pc' := 290) rfl (hb hby at_286) (by decide) (by decide)) ?_
      show Go p e below s _ _ _ T_49 (mkF m 290 #[.val (.int k), .val (.int ix), .val (.int dx), .val (.ref b_1), .val (.int vx_37), .val (.int (1 : Int32)), .val (.int (1 : Int32))] [(.int (1 : Int32))])
      exact Go.retZ X_49 hx hlk Bd.returns (hb hby at_290) rfl (by rw [e_49]; exact ⟨rfl, N_49⟩) (by decide) (by decide)
set_option maxRecDepth 65536 in
set_option maxHeartbeats 40000000 in
theorem comes_1 {Post : Tables → Env → Array Value → State → Outcome → State → Prop} (hpost : ∀ tb e args s v u, (limb_1_1.after args s (.returned v) u = true ∧ limb_1_2.after args s (.returned v) u = true ∧ True) → FrameEnd s (.returned v) u (Jvm.fieldLocs frame_1_writes args s ++ Jvm.arrayLocs frame_1_arrays args s ++ Jvm.staticLocs frame_1_statics s) 16 192 → Post tb e args s (.returned v) u) :
    ArmFor flags0 classFile x code maxLocals ret World_1 tables_1 room_1 Calls_1 rest_1 Pre_1 Post := by
  intro l hfl _ _ p e ha hc hk s m args below hf hA hF happ hP
  obtain ⟨hcalls, hrest, hpre⟩ := hP
  obtain ⟨-, -, -, hnamed, -, -, -, hat⟩ := (Spec.applies_iff hf).mp happ
  obtain ⟨hg, hn⟩ := and_e (Cond.before_iff.mp (show (Jvm.Cond.and given_1 narrow_1).before args s = true from hpre))
  obtain ⟨g1, g2⟩ := and_e hg
  obtain ⟨g3, g4⟩ := and_e g2
  obtain ⟨g5, g6⟩ := and_e g4
  obtain ⟨w0, w1, w2, rfl⟩ : ∃ w0 w1 w2 : Value, args = #[w0, w1, w2] := by
    have hs : args.size = 3 := by simpa [Cond.value, given_1] using g1
    obtain ⟨L⟩ := args
    match L, hs with
    | [w0, w1, w2], _ => exact ⟨w0, w1, w2, rfl⟩
  have hw := fun d (hd : d ∈ tables_1) => atoms_spec (ws := Jvm.Cond.code x code maxLocals ret :: tables_1) hat d (List.mem_cons_of_mem _ hd)
  have hfit : Fit s := fun {y c} hc i hi => by
    obtain ⟨ha, rfl⟩ := Array.getElem?_eq_some_iff.mp hc
    have q := List.all_eq_true.mp ((Array.all_eq_true_iff_forall_mem.mp hF) _ (Array.getElem_mem ha)) i (List.mem_range.mpr hi)
    simpa [Array.getElem?_eq_getElem hi] using q
  obtain ⟨i0, ei0⟩ := is_v g3
  obtain rfl : w0 = (.int i0) := Option.some.inj ei0
  obtain ⟨i1, ei1⟩ := is_v g5
  obtain rfl : w1 = (.int i1) := Option.some.inj ei1
  obtain ⟨i2, ei2⟩ := is_v g6
  obtain rfl : w2 = (.int i2) := Option.some.inj ei2
  obtain ⟨n, o, h1, h2, h3, _, L, rfl, ⟨rfl, N⟩, hq⟩ := rm0 l s _ hw tables_1 i0 i1 i2 s.heap s.heap.size (Nat.le_refl _)  p e ha hc hk s m _ below hf ((Spec.applies_iff_loose hf).mp happ).1 ⟨rfl, State.Warmed39.refl s, rfl⟩ trivial
  refine ⟨n, _, h1, h2, h3, hpost _ _ _ _ _ _ ⟨Cond.after_iff.mpr rfl, Cond.after_iff.mpr (eq_i res_at (Term.int_eval (1)) rfl), trivial⟩ ⟨hq.1, hq.2.1, (hq.2.2.sift fun y hy => Or.inr (N y hy)).mono (by decide) (by decide)⟩⟩
theorem main_1_1 : Claimed_1_1 := comes_1 fun _ _ _ _ _ _ h hF => ⟨h.1, hF⟩
theorem main_1_2 : Claimed_1_2 := comes_1 fun _ _ _ _ _ _ h hF => ⟨h.2.1, hF⟩
end Jvm.Pilot.@@N@@
namespace Jvm.Pilot.@@N@@
open Jvm Jvm.ClassFile Sem Op Lib Jvm.Free Jvm.Stand Jvm.Pilot.@@N@@.Jvm.D
/-! MADE BY PROGRAM (witnessworld.py) out of the Statement's table words and the real class files: 9 classes; the members and pool entries that the words name. The judged class is class 1, her method 4. -/
namespace start1
open Jvm.ClassFile
def u (s : String) : CpInfo := .utf8 (stringToUtf16 s)
/-- a pool by its gaps: so many unusable entries, then the entry; so many at the end -/
def gap : Nat → List CpInfo → List CpInfo
  | 0, r => r
  | n + 1, r => .unusable :: gap n r
def poolList (es : List (Nat × CpInfo)) (last : Nat) : List CpInfo := es.foldr (fun e r => gap e.1 (e.2 :: r)) (gap last [])
def pool (es : List (Nat × CpInfo)) (last : Nat) : Array CpInfo := ⟨poolList es last⟩
def fileOf (pool : Array CpInfo) (this : Nat) (attrs : Array Attribute := #[]) (ms : Array MethodInfo := #[]) (fl : Nat := 33) (sup : Nat := 0) (ifs : Array Nat := #[]) (fds : Array FieldInfo := #[]) : ClassFile where
  minorVersion := 0
  majorVersion := 65
  constantPool := pool
  accessFlags := fl
  thisClass := this
  superClass := sup
  interfaces := ifs
  fields := fds
  methods := ms
  attributes := attrs
def plain (name : String) (sup : Option ClassId) : Class where
  name := name
  kind := .ordinary
  loader := none
  accessFlags := 33
  super := sup
  interfaces := #[]
  cf := none
  fields := #[]
  methods := #[]
  instanceTypes := #[]
  staticTypes := #[]
  resolved := #[]
  callSites := []
  init := .initialized
  statics := none
  mirror := none

def pool0 : Array CpInfo := pool [(5, u "<init>"), (0, u "()V"), (1, .class_ 10), (1, u "java/lang/Object")] 113

def k0m0 : Method := { name := "<init>", desc := "()V", sig := { parameters := [], returnType := none }, accessFlags := 1, code := none }
/-- java/lang/Object -/
def k0 : Class := { plain "java/lang/Object" none with
  accessFlags := 33
  interfaces := #[]
  cf := some (fileOf pool0 8 #[] #[{ accessFlags := 1, nameIndex := 5, descriptorIndex := 6, attributes := #[] }] 33 0 #[] #[])
  fields := #[]
  methods := #[k0m0]
  instanceTypes := #[]
  staticTypes := #[]
  resolved := Array.replicate 124 none
  statics := none }

def pool1 : Array CpInfo := pool [(2, .class_ 4), (1, u "java/lang/Object"), (0, u "<init>"), (0, u "()V"), (0, .methodref 8 9), (0, .class_ 10), (0, .nameAndType 11 12), (0, u "com/example/moat/moat/xpath/NamesIsNameStartPinLaw"), (0, u "in"), (0, u "(III)Z"), (0, .integer 56192), (0, .integer 63743), (0, .integer 64976), (0, .integer 65007), (0, .integer 65534), (0, .integer 65535), (0, .integer 983039), (0, .methodref 8 21), (0, .nameAndType 22 23), (0, u "gap"), (0, u "(I)Z"), (0, .integer 55295), (0, .integer 55296), (0, .integer 56191), (0, .integer 63744), (0, .integer 64975), (0, .integer 65008), (0, .integer 65533), (0, .integer 65536), (2, .integer 2147483648), (0, .integer 2147483647), (0, .methodref 37 38), (0, .class_ 39), (0, .nameAndType 40 23), (0, u "com/example/moat/moat/xpath/Names"), (0, u "isNameStart"), (0, .methodref 8 42), (0, .nameAndType 43 23), (0, u "ref"), (3, u "law")] 4

def k1m0 : Method := { name := "<init>", desc := "()V", sig := { parameters := [], returnType := none }, accessFlags := 2, code := none }
def k1c1 : Code := { maxStack := 2, maxLocals := 3, code := method_2_code, exceptionTable := #[], attributes := #[] }
def k1m1 : Method := { name := "in", desc := "(III)Z", sig := { parameters := [.int, .int, .int], returnType := some .boolean }, accessFlags := 10, code := some k1c1 }
def k1c2 : Code := { maxStack := 3, maxLocals := 1, code := method_3_code, exceptionTable := #[], attributes := #[] }
def k1m2 : Method := { name := "gap", desc := "(I)Z", sig := { parameters := [.int], returnType := some .boolean }, accessFlags := 10, code := some k1c2 }
def k1c3 : Code := { maxStack := 1, maxLocals := 1, code := method_4_code, exceptionTable := #[], attributes := #[] }
def k1m3 : Method := { name := "ref", desc := "(I)Z", sig := { parameters := [.int], returnType := some .boolean }, accessFlags := 10, code := some k1c3 }
def k1c4 : Code := { maxStack := 4, maxLocals := 7, code := code, exceptionTable := #[], attributes := #[] }
def k1m4 : Method := { name := "law", desc := "(III)Z", sig := { parameters := [.int, .int, .int], returnType := some .boolean }, accessFlags := 9, code := some k1c4 }
/-- com/example/moat/moat/xpath/NamesIsNameStartPinLaw -/
def k1 : Class := { plain "com/example/moat/moat/xpath/NamesIsNameStartPinLaw" (some 0) with
  accessFlags := 49
  interfaces := #[]
  cf := some (fileOf pool1 8 #[] #[{ accessFlags := 2, nameIndex := 5, descriptorIndex := 6, attributes := #[] }, { accessFlags := 10, nameIndex := 11, descriptorIndex := 12, attributes := #[] }, { accessFlags := 10, nameIndex := 22, descriptorIndex := 23, attributes := #[] }, { accessFlags := 10, nameIndex := 43, descriptorIndex := 23, attributes := #[] }, { accessFlags := 9, nameIndex := 47, descriptorIndex := 12, attributes := #[] }] 49 2 #[] #[])
  fields := #[]
  methods := #[k1m0, k1m1, k1m2, k1m3, k1m4]
  instanceTypes := #[]
  staticTypes := #[]
  resolved := Array.replicate 52 none
  statics := none }

def pool2 : Array CpInfo := pool [(2, .class_ 4), (1, u "java/lang/Object"), (0, u "<init>"), (0, u "()V"), (11, .class_ 20), (1, u "com/example/moat/moat/xpath/Names"), (0, u "isNameStart"), (0, u "(I)Z"), (9, .integer 55296), (4, .integer 55295), (0, .integer 63744), (0, .integer 64975), (0, .integer 65008), (0, .integer 65533), (0, .integer 65536), (0, .integer 983039), (0, .integer 56191)] 7

def k2m0 : Method := { name := "<init>", desc := "()V", sig := { parameters := [], returnType := none }, accessFlags := 2, code := none }
def k2c1 : Code := { maxStack := 2, maxLocals := 1, code := prog_57_method_3_code, exceptionTable := #[], attributes := #[] }
def k2m1 : Method := { name := "isNameStart", desc := "(I)Z", sig := { parameters := [.int], returnType := some .boolean }, accessFlags := 8, code := some k2c1 }
/-- com/example/moat/moat/xpath/Names -/
def k2 : Class := { plain "com/example/moat/moat/xpath/Names" (some 0) with
  accessFlags := 49
  interfaces := #[]
  cf := some (fileOf pool2 18 #[] #[{ accessFlags := 2, nameIndex := 5, descriptorIndex := 6, attributes := #[] }, { accessFlags := 8, nameIndex := 21, descriptorIndex := 22, attributes := #[] }] 49 2 #[] #[])
  fields := #[]
  methods := #[k2m0, k2m1]
  instanceTypes := #[]
  staticTypes := #[]
  resolved := Array.replicate 52 none
  statics := none }

def pool3 : Array CpInfo := pool [(1, u "java/lang/Cloneable"), (0, .class_ 1), (0, u "java/lang/Object"), (0, .class_ 3)] 3

/-- java/lang/Cloneable -/
def k3 : Class := { plain "java/lang/Cloneable" (some 0) with
  accessFlags := 1537
  interfaces := #[]
  cf := some (fileOf pool3 2 #[] #[] 1537 4 #[] #[])
  fields := #[]
  methods := #[]
  instanceTypes := #[]
  staticTypes := #[]
  resolved := Array.replicate 8 none
  statics := none }

def pool4 : Array CpInfo := pool [(1, u "java/io/Serializable"), (0, .class_ 1), (0, u "java/lang/Object"), (0, .class_ 3)] 3

/-- java/io/Serializable -/
def k4 : Class := { plain "java/io/Serializable" (some 0) with
  accessFlags := 1537
  interfaces := #[]
  cf := some (fileOf pool4 2 #[] #[] 1537 4 #[] #[])
  fields := #[]
  methods := #[]
  instanceTypes := #[]
  staticTypes := #[]
  resolved := Array.replicate 8 none
  statics := none }

/-- the primitive byte -/
def k5 : Class := { plain "byte" none with kind := .primitive 'B', accessFlags := 0x411 }
/-- [B -/
def k6 : Class := { plain "[B" (some 0) with kind := .array 5 .byte, interfaces := #[3, 4], accessFlags := 1041 }

/-- the primitive int -/
def k7 : Class := { plain "int" none with kind := .primitive 'I', accessFlags := 0x411 }
/-- [I -/
def k8 : Class := { plain "[I" (some 0) with kind := .array 7 .int, interfaces := #[3, 4], accessFlags := 1041 }

def heap : Heap := #[]
def classes : Array Class := #[k0, k1, k2, k3, k4, k5, k6, k7, k8]
def interned : List (Array UInt16 × Addr) := []
def slotsUsed : Nat := 0
def theMethod : MethodId := ⟨1, 4⟩
def args0 : Array Value := #[.int 5, .int 6, .int 7]
def aboutOver (below : List Frame) : State where
  vm := { classes := classes, interned := interned.toArray }
  heap := heap
  slotsUsed := slotsUsed
  threads := #[{ frames := .invoking theMethod args0 :: below }]
def below0 : List Frame := [.native { method := ⟨0, 0⟩, args := #[] }]
def about1 : State := aboutOver below0
def p0 : Program := .bare "" "" ""
def e0 : Env := launch0.env 0 0 0
theorem w_frames : about1.frames = Frame.invoking theMethod args0 :: below0 := rfl
set_option maxRecDepth 65536 in
theorem w_args : argsFit about1.vm theMethod args0 = true := by decide +kernel
set_option maxRecDepth 65536 in
theorem w_heap : heapFits about1 = true := by decide +kernel
set_option maxRecDepth 65536 in
theorem w_runnable : about1.curStatus? = some .runnable := by decide +kernel
set_option maxRecDepth 65536 in
theorem w_alone : about1.alone = true := by decide +kernel
set_option maxRecDepth 65536 in
theorem w_named : about1.methodNamed? x = some theMethod := by decide +kernel
set_option maxRecDepth 65536 in
theorem w_hears : about1.hears theMethod below0 = true := by decide +kernel
set_option maxRecDepth 65536 in
theorem w_ripe : about1.ripe theMethod args0 below0 = true := by decide +kernel
theorem w_running : about1.status = .running := rfl
set_option maxRecDepth 65536 in
theorem w_room : about1.hasRoom e0.platform room_1 = true :=
  launch0.hasRoom_least _ room_1 (by decide +kernel) (by decide +kernel) (by decide +kernel) (by decide +kernel) (by decide +kernel) (by decide +kernel)
theorem allAtoms_all (ts : List Jvm.Cond) (a : Array Jvm.Value) (st : Jvm.State) : (allAtoms ts).before a st = ts.all (fun c => c.before a st) := by
  induction ts with
  | nil => rfl
  | cons c t ih =>
    show (Jvm.Cond.and c (allAtoms t)).before a st = _
    rw [Jvm.Cond.before_and, ih, List.all_cons]
def words1 : List Jvm.Cond := Jvm.Cond.code x code maxLocals ret :: tables_1
/-- a 'code' word, met by the world's own term for the bytes: nothing is compared byte by byte -/
theorem code_word {y : MethodName} {bytes : ByteArray} {mx : Nat} {rt : Option FieldType} {a : Array Value} {s : State} {m : MethodId} {meth : Method} {c : Code} (h1 : s.methodNamed? y = some m) (h2 : s.vm.method? m = some meth) (h3 : meth.code = some c) (h4 : c.code = bytes)
    (h5 : (c.maxLocals == mx && c.exceptionTable.isEmpty && decide (c.maxStack ≤ mostOperands) && decide (meth.sig.returnType = rt) && !meth.locks && decide (parseMethodDescriptor y.desc = some meth.sig)) = true) : (Jvm.Cond.code y bytes mx rt).before a s = true := by
  simp only [Bool.and_eq_true, beq_iff_eq, Bool.not_eq_true', decide_eq_true_eq] at h5
  obtain ⟨⟨⟨⟨⟨g1, g2⟩, g3⟩, g4⟩, g5⟩, g6⟩ := h5
  simp [Cond.before, Cond.holds, Cond.value, h1, h2, h3, h4, g1, g2, g3, g4, g5, g6]
def isCode : Jvm.Cond → Bool
  | .code _ _ _ _ => true
  | _ => false
theorem all_split {L : List Jvm.Cond} {P : Jvm.Cond → Bool} (h1 : L.all (fun c => isCode c || P c) = true) (h2 : ∀ c ∈ L.filter isCode, P c = true) : L.all P = true := by
  refine List.all_eq_true.mpr fun c hc => ?_
  have h := List.all_eq_true.mp h1 c hc
  rcases Bool.eq_false_or_eq_true (isCode c) with hi | hi
  · exact h2 c (List.mem_filter.mpr ⟨hc, hi⟩)
  · simpa [hi] using h
set_option maxRecDepth 65536 in
theorem w_c0 : (Jvm.Cond.code x code maxLocals ret).before args0 about1 = true := code_word (m := ⟨1, 4⟩) (meth := k1m4) (c := k1c4) (by decide +kernel) rfl rfl rfl (by decide +kernel)
set_option maxRecDepth 65536 in
theorem w_c1 : (Jvm.Cond.code ({ cls := "com/example/moat/moat/xpath/Names", name := "isNameStart", desc := "(I)Z" } : Jvm.MethodName) prog_57_method_3_code (1 : Nat) (Option.some Jvm.ClassFile.FieldType.boolean)).before args0 about1 = true := code_word (m := ⟨2, 1⟩) (meth := k2m1) (c := k2c1) (by decide +kernel) rfl rfl rfl (by decide +kernel)
set_option maxRecDepth 65536 in
theorem w_c2 : (Jvm.Cond.code ({ cls := "com/example/moat/moat/xpath/NamesIsNameStartPinLaw", name := "ref", desc := "(I)Z" } : Jvm.MethodName) method_4_code (1 : Nat) (Option.some Jvm.ClassFile.FieldType.boolean)).before args0 about1 = true := code_word (m := ⟨1, 3⟩) (meth := k1m3) (c := k1c3) (by decide +kernel) rfl rfl rfl (by decide +kernel)
set_option maxRecDepth 65536 in
theorem w_c3 : (Jvm.Cond.code ({ cls := "com/example/moat/moat/xpath/NamesIsNameStartPinLaw", name := "gap", desc := "(I)Z" } : Jvm.MethodName) method_3_code (1 : Nat) (Option.some Jvm.ClassFile.FieldType.boolean)).before args0 about1 = true := code_word (m := ⟨1, 2⟩) (meth := k1m2) (c := k1c2) (by decide +kernel) rfl rfl rfl (by decide +kernel)
set_option maxRecDepth 65536 in
theorem w_c4 : (Jvm.Cond.code ({ cls := "com/example/moat/moat/xpath/NamesIsNameStartPinLaw", name := "in", desc := "(III)Z" } : Jvm.MethodName) method_2_code (3 : Nat) (Option.some Jvm.ClassFile.FieldType.boolean)).before args0 about1 = true := code_word (m := ⟨1, 1⟩) (meth := k1m1) (c := k1c1) (by decide +kernel) rfl rfl rfl (by decide +kernel)
def codes1 : List Jvm.Cond := [Jvm.Cond.code x code maxLocals ret, Jvm.Cond.code ({ cls := "com/example/moat/moat/xpath/Names", name := "isNameStart", desc := "(I)Z" } : Jvm.MethodName) prog_57_method_3_code (1 : Nat) (Option.some Jvm.ClassFile.FieldType.boolean), Jvm.Cond.code ({ cls := "com/example/moat/moat/xpath/NamesIsNameStartPinLaw", name := "ref", desc := "(I)Z" } : Jvm.MethodName) method_4_code (1 : Nat) (Option.some Jvm.ClassFile.FieldType.boolean), Jvm.Cond.code ({ cls := "com/example/moat/moat/xpath/NamesIsNameStartPinLaw", name := "gap", desc := "(I)Z" } : Jvm.MethodName) method_3_code (1 : Nat) (Option.some Jvm.ClassFile.FieldType.boolean), Jvm.Cond.code ({ cls := "com/example/moat/moat/xpath/NamesIsNameStartPinLaw", name := "in", desc := "(III)Z" } : Jvm.MethodName) method_2_code (3 : Nat) (Option.some Jvm.ClassFile.FieldType.boolean)]
set_option maxRecDepth 65536 in
theorem codes_eq : words1.filter isCode = codes1 := rfl
theorem w_codes : ∀ c ∈ words1.filter isCode, c.before args0 about1 = true := by
  rw [codes_eq]
  intro c hc
  simp only [codes1, List.mem_cons, List.not_mem_nil, or_false] at hc
  rcases hc with rfl | rfl | rfl | rfl | rfl
  · exact w_c0
  · exact w_c1
  · exact w_c2
  · exact w_c3
  · exact w_c4
set_option maxRecDepth 65536 in
theorem w_t1 : (words1.take 24).all (fun c => isCode c || c.before args0 about1) = true := by decide +kernel
set_option maxRecDepth 65536 in
theorem w_t2 : (words1.drop 24).all (fun c => isCode c || c.before args0 about1) = true := by decide +kernel
theorem w_tables : (allAtoms (Jvm.Cond.code x code maxLocals ret :: tables_1)).before args0 about1 = true := by
  rw [allAtoms_all]
  show words1.all (fun c => c.before args0 about1) = true
  refine all_split ?_ w_codes
  rw [← List.take_append_drop 24 words1, List.all_append, w_t1, w_t2]
  rfl
set_option maxRecDepth 65536 in
theorem w_case : (Jvm.Cond.and given_1 narrow_1).before args0 about1 = true := by decide +kernel
theorem w_applies : (headSpec (Jvm.Cond.code x code maxLocals ret :: tables_1) room_1).applies x e0.platform about1 = true :=
  (Spec.applies_iff w_frames).mpr ⟨w_running, w_runnable, w_alone, w_named, w_hears, w_ripe, w_room, w_tables⟩
theorem atStart : AtStart classFile x code maxLocals ret World_1 tables_1 room_1 Calls_1 rest_1 Pre_1 launch0 p0 e0 about1 theMethod args0 below0 :=
  ⟨lists_1, trivial, launch0.admits_env _ _ _, launch0.least_env, fairChoices_fair.cas, fairChoices_fair.clock, w_frames, w_args, w_heap, w_applies, trivial, trivial, w_case⟩
end start1
theorem witness_1 : WitnessClaimed_1 := ⟨start1.p0, start1.e0, start1.about1, start1.theMethod, start1.args0, start1.below0, start1.atStart⟩
end Jvm.Pilot.@@N@@
