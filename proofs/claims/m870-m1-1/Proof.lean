import JvmDerived
import JvmDerived.Pilot.@@N@@Statement
import JvmDerived.Pilot.@@N@@Code
set_option linter.unusedVariables false
set_option linter.unusedSimpArgs false
namespace Jvm.OwnKit
open Sem ClassFile Op Lib Jvm.Stand Jvm.Free Jvm.LawKit Jvm.RoadKit
/-- from the frame g over T the run ends, and what it leaves is Q's -/
def Go (p : Program) (e : Env) (below : List Frame) (s : State) (Q : Option Value → Heap → List Loc → Prop) (C S : Nat) (T : State) (g : JFrame) : Prop :=
  ∃ s₂ o, Steps p.tables e below (T.setTop g) s₂ ∧ s₂.status = .running ∧ Ended s₂ below o ∧ ∃ v L, o = .returned v ∧ Q v s₂.heap L ∧ FrameEnd s o s₂ L C S
section OwnGo
variable {p : Program} {l : Launch} {e : Env} {R : Room} {s : State} {m : MethodId} {args : Array Value} {below : List Frame} {meth : Method} {c : Code} {T T' : State} {locs : List Loc} {cells slots : Nat} {Q : Option Value → Heap → List Loc → Prop} {C S : Nat} {g g' : JFrame}
theorem Go.st (h : ∀ t, Steps p.tables e below (T'.setTop g') t → Steps p.tables e below (T.setTop g) t) (k : Go p e below s Q C S T' g') : Go p e below s Q C S T g := by
  obtain ⟨s₂, o, h1, h2⟩ := k
  exact ⟨s₂, o, h _ h1, h2⟩
theorem Go.eq (q : g = g') (k : Go p e below s Q C S T g') : Go p e below s Q C S T g := q ▸ k
theorem Go.retV (X : Stand p l e R s m args below meth c T locs cells slots) (hx : p.tables.exec = Jvm.exec) (hlk : meth.locks = false) {pc : Nat} {Ls : Array Slot} {w : Value} {t : FieldType} {i : Instr} {rest : List Value} (hret : meth.sig.returnType = some t) (hn : narrow t w = w)
    (hi : (i = .ireturn ∧ (t = .int ∨ t = .boolean ∨ t = .byte ∨ t = .char ∨ t = .short) ∧ ∃ z, w = .int z) ∨ (i = .lreturn ∧ t = .long ∧ ∃ z, w = .long z) ∨ (i = .dreturn ∧ t = .double ∧ ∃ z, w = .double z) ∨ (i = .freturn ∧ t = .float ∧ ∃ z, w = .float z) ∨ (i = .areturn ∧ t.isReference = true ∧ w.isRef = true))
    (hd : decode c.code pc = .ok (i, 1)) (hQ : Q (some w) T.heap locs) (hc : cells ≤ C) (hs : slots ≤ S) : Go p e below s Q C S T (mkF m pc Ls (w :: rest)) := by
  obtain ⟨fs, hr, hrun, hended, hW, hsame⟩ := X.leave (v := some w) (fun h => by rw [hret] at h; cases h) hlk
  exact ⟨_, _, retOut X hx hret hn hi hd hr, hrun, hended, _, _, rfl, hQ, ⟨_, rfl⟩, hW, hsame.mono hc hs⟩
theorem Go.retI (X : Stand p l e R s m args below meth c T locs cells slots) (hx : p.tables.exec = Jvm.exec) (hlk : meth.locks = false) {pc : Nat} {Ls : Array Slot} {z : Int32} {rest : List Value} (hret : meth.sig.returnType = some .int) (hd : decode c.code pc = .ok (.ireturn, 1)) (hQ : Q (some (.int z)) T.heap locs) (hc : cells ≤ C) (hs : slots ≤ S) : Go p e below s Q C S T (mkF m pc Ls (.int z :: rest)) :=
  Go.retV X hx hlk hret rfl (Or.inl ⟨rfl, Or.inl rfl, _, rfl⟩) hd hQ hc hs
theorem Go.retZ (X : Stand p l e R s m args below meth c T locs cells slots) (hx : p.tables.exec = Jvm.exec) (hlk : meth.locks = false) {pc : Nat} {Ls : Array Slot} {z : Int32} {rest : List Value} (hret : meth.sig.returnType = some .boolean) (hd : decode c.code pc = .ok (.ireturn, 1)) (hn : narrow .boolean (.int z) = .int z) (hQ : Q (some (.int z)) T.heap locs) (hc : cells ≤ C) (hs : slots ≤ S) : Go p e below s Q C S T (mkF m pc Ls (.int z :: rest)) :=
  Go.retV X hx hlk hret hn (Or.inl ⟨rfl, Or.inr (Or.inl rfl), _, rfl⟩) hd hQ hc hs
theorem Go.retB (X : Stand p l e R s m args below meth c T locs cells slots) (hx : p.tables.exec = Jvm.exec) (hlk : meth.locks = false) {pc : Nat} {Ls : Array Slot} {z : Int32} {rest : List Value} (hret : meth.sig.returnType = some .byte) (hd : decode c.code pc = .ok (.ireturn, 1)) (hn : narrow .byte (.int z) = .int z) (hQ : Q (some (.int z)) T.heap locs) (hc : cells ≤ C) (hs : slots ≤ S) : Go p e below s Q C S T (mkF m pc Ls (.int z :: rest)) :=
  Go.retV X hx hlk hret hn (Or.inl ⟨rfl, Or.inr (Or.inr (Or.inl rfl)), _, rfl⟩) hd hQ hc hs
theorem Go.retC (X : Stand p l e R s m args below meth c T locs cells slots) (hx : p.tables.exec = Jvm.exec) (hlk : meth.locks = false) {pc : Nat} {Ls : Array Slot} {z : Int32} {rest : List Value} (hret : meth.sig.returnType = some .char) (hd : decode c.code pc = .ok (.ireturn, 1)) (hn : narrow .char (.int z) = .int z) (hQ : Q (some (.int z)) T.heap locs) (hc : cells ≤ C) (hs : slots ≤ S) : Go p e below s Q C S T (mkF m pc Ls (.int z :: rest)) :=
  Go.retV X hx hlk hret hn (Or.inl ⟨rfl, Or.inr (Or.inr (Or.inr (Or.inl rfl))), _, rfl⟩) hd hQ hc hs
theorem Go.retJ (X : Stand p l e R s m args below meth c T locs cells slots) (hx : p.tables.exec = Jvm.exec) (hlk : meth.locks = false) {pc : Nat} {Ls : Array Slot} {z : Int64} {rest : List Value} (hret : meth.sig.returnType = some .long) (hd : decode c.code pc = .ok (.lreturn, 1)) (hQ : Q (some (.long z)) T.heap locs) (hc : cells ≤ C) (hs : slots ≤ S) : Go p e below s Q C S T (mkF m pc Ls (.long z :: rest)) :=
  Go.retV X hx hlk hret rfl (Or.inr (Or.inl ⟨rfl, rfl, _, rfl⟩)) hd hQ hc hs
theorem own_nar_ref {t : FieldType} {w : Value} (hw : w.isRef = true) : narrow t w = w := by
  rcases ref_cases hw with rfl | ⟨_, rfl⟩ <;> cases t <;> rfl
theorem Go.retA (X : Stand p l e R s m args below meth c T locs cells slots) (hx : p.tables.exec = Jvm.exec) (hlk : meth.locks = false) {pc : Nat} {Ls : Array Slot} {w : Value} {t : FieldType} {rest : List Value} (hret : meth.sig.returnType = some t) (ht : t.isReference = true) (hw : w.isRef = true) (hd : decode c.code pc = .ok (.areturn, 1)) (hQ : Q (some w) T.heap locs) (hc : cells ≤ C) (hs : slots ≤ S) : Go p e below s Q C S T (mkF m pc Ls (w :: rest)) :=
  Go.retV X hx hlk hret (own_nar_ref hw) (Or.inr (Or.inr (Or.inr (Or.inr ⟨rfl, ht, hw⟩)))) hd hQ hc hs
theorem Go.ret0 (X : Stand p l e R s m args below meth c T locs cells slots) (hx : p.tables.exec = Jvm.exec) (hlk : meth.locks = false) {pc : Nat} {Ls : Array Slot} (hret : meth.sig.returnType = none) (hd : decode c.code pc = .ok (.return_, 1)) (hQ : Q none T.heap locs) (hc : cells ≤ C) (hs : slots ≤ S) : Go p e below s Q C S T (mkF m pc Ls []) := by
  obtain ⟨fs, hr, hrun, hended, hW, hsame⟩ := X.leave (v := none) (fun _ => rfl) hlk
  exact ⟨_, _, X.returnOut hx hret hd hr, hrun, hended, _, _, rfl, hQ, ⟨_, rfl⟩, hW, hsame.mono hc hs⟩
end OwnGo
/-- a proposition as Java's boolean -/
def b2i (P : Prop) [Decidable P] : Int32 := if P then 1 else 0
theorem b2i_pos {P : Prop} [Decidable P] (h : P) : b2i P = 1 := if_pos h
theorem b2i_neg {P : Prop} [Decidable P] (h : ¬ P) : b2i P = 0 := if_neg h
theorem b2i_ne {P : Prop} [Decidable P] (h : P) : ¬ b2i P = 0 := by rw [b2i_pos h]; decide
theorem b2i_zero {P : Prop} [Decidable P] (h : ¬ P) : b2i P = 0 := b2i_neg h
theorem own_b2i_t {P : Prop} [Decidable P] (h : P) : some (Value.int 1) = some (Value.int (b2i P)) := by rw [b2i_pos h]
theorem own_b2i_f {P : Prop} [Decidable P] (h : ¬ P) : some (Value.int 0) = some (Value.int (b2i P)) := by rw [b2i_neg h]
theorem own_nb (y : Int32) : nar .byte (y.toInt8.toInt32) = y.toInt8.toInt32 := by
  show y.toInt8.toInt32.toInt8.toInt32 = y.toInt8.toInt32
  simp
theorem own_nc (y : Int32) : nar .char (y.toUInt32.toUInt16.toUInt32.toInt32) = y.toUInt32.toUInt16.toUInt32.toInt32 := by
  show (y.toUInt32.toUInt16.toUInt32.toInt32).toUInt32.toUInt16.toUInt32.toInt32 = y.toUInt32.toUInt16.toUInt32.toInt32
  rw [UInt32.toUInt32_toInt32, UInt16.toUInt16_toUInt32]
theorem own_nbv (y : Int32) : narrow .byte (.int (y.toInt8.toInt32)) = .int (y.toInt8.toInt32) := congrArg Value.int (own_nb y)
theorem own_and1 (a : Int32) : a &&& (1 : Int32) = (0 : Int32) ∨ a &&& (1 : Int32) = (1 : Int32) := and_one a
theorem own_and3 (a : Int32) : a &&& (3 : Int32) = (0 : Int32) ∨ a &&& (3 : Int32) = (1 : Int32) ∨ a &&& (3 : Int32) = (2 : Int32) ∨ a &&& (3 : Int32) = (3 : Int32) := by
  have e := c_mask a 3 2 (by decide) (by decide)
  have h : (a &&& (3 : Int32)).toInt = 0 ∨ (a &&& (3 : Int32)).toInt = 1 ∨ (a &&& (3 : Int32)).toInt = 2 ∨ (a &&& (3 : Int32)).toInt = 3 := by omega
  rcases h with h | h | h | h
  · exact Or.inl (Int32.toInt_inj.mp (h.trans (by decide)))
  · exact Or.inr (Or.inl (Int32.toInt_inj.mp (h.trans (by decide))))
  · exact Or.inr (Or.inr (Or.inl (Int32.toInt_inj.mp (h.trans (by decide)))))
  · exact Or.inr (Or.inr (Or.inr (Int32.toInt_inj.mp (h.trans (by decide)))))
theorem own_ord {s : State} {args : Array Value} {t : Term} {a : Addr} {C n d : String} {k : Int32} (ev : t.eval args s none [] s = some (.ref a)) (h : (Jvm.Cond.eq (Term.field t C n d) (Term.int k)).value args s none s [] = some true) : Fld s s.heap a C n d (.int k) := by
  obtain ⟨u, w, hu, hw, k1, k2⟩ := cmp_v (Or.inl h)
  have hw' : (Term.int k).eval args s none [] s = some (.int k) := Term.int_eval k
  cases hw.symm.trans hw'
  obtain ⟨z, rfl⟩ : ∃ z, u = .int z := k2
  have hz : z = k := gotT (Cond.eq_ints hu hw') h
  subst hz
  exact Fld.start ((fld_at ev).symm.trans hu)
section OwnBounds
variable {c a b : Int32} {n : Int}
theorem own_i1 (h : c < a) (q : a.toInt ≤ b.toInt) : c < b := by rw [Int32.lt_iff_toInt_lt] at *; omega
theorem own_i2 (h : ¬ a < c) (q : a.toInt < b.toInt) : c < b := by rw [Int32.lt_iff_toInt_lt] at *; omega
theorem own_i3 (h : ¬ c < a) (q : b.toInt ≤ a.toInt) : ¬ c < b := by rw [Int32.lt_iff_toInt_lt] at *; omega
theorem own_i4 (h : a < c) (q : b.toInt ≤ a.toInt + 1) : ¬ c < b := by rw [Int32.lt_iff_toInt_lt] at *; omega
theorem own_j1 (h : c < a) (q : a.toInt ≤ b.toInt + 1) : ¬ b < c := by rw [Int32.lt_iff_toInt_lt] at *; omega
theorem own_j2 (h : ¬ a < c) (q : a.toInt ≤ b.toInt) : ¬ b < c := by rw [Int32.lt_iff_toInt_lt] at *; omega
theorem own_j3 (h : ¬ c < a) (q : b.toInt < a.toInt) : b < c := by rw [Int32.lt_iff_toInt_lt] at *; omega
theorem own_j4 (h : a < c) (q : b.toInt ≤ a.toInt) : b < c := by rw [Int32.lt_iff_toInt_lt] at *; omega
theorem own_k1 (h : c < a) (q : a.toInt ≤ b.toInt) : ¬ c = b := fun e => by rw [e, Int32.lt_iff_toInt_lt] at h; omega
theorem own_k2 (h : ¬ a < c) (q : a.toInt < b.toInt) : ¬ c = b := fun e => by rw [e, Int32.lt_iff_toInt_lt] at h; omega
theorem own_k3 (h : ¬ c < a) (q : b.toInt < a.toInt) : ¬ c = b := fun e => by rw [e, Int32.lt_iff_toInt_lt] at h; omega
theorem own_k4 (h : a < c) (q : b.toInt ≤ a.toInt) : ¬ c = b := fun e => by rw [e, Int32.lt_iff_toInt_lt] at h; omega
theorem own_c1 (h : c < a) (q : a.toInt = n) : c.toInt < n := by rw [Int32.lt_iff_toInt_lt] at h; omega
theorem own_c2 (h : ¬ a < c) (q : a.toInt = n) : c.toInt ≤ n := by rw [Int32.lt_iff_toInt_lt] at h; omega
theorem own_c3 (h : ¬ c < a) (q : a.toInt = n) : n ≤ c.toInt := by rw [Int32.lt_iff_toInt_lt] at h; omega
theorem own_c4 (h : a < c) (q : a.toInt = n) : n < c.toInt := by rw [Int32.lt_iff_toInt_lt] at h; omega
theorem own_c5 (h : c = a) (q : a.toInt = n) : c.toInt = n := by rw [h]; exact q
theorem own_c6 (h : ¬ c = a) (q : a.toInt = n) : ¬ c.toInt = n := fun e => h (Int32.toInt_inj.mp (e.trans q.symm))
end OwnBounds
theorem own_addc {a b c d : Int32} (h : b + c = d) : (a + b) + c = a + d := by rw [Int32.add_assoc, h]
theorem own_byte_of {v : Value} (h : fits .byte v = true) : ∃ w, v = .int w ∧ narrow .byte (.int w) = .int w := by
  cases v with
  | int w =>
    refine ⟨w, rfl, ?_⟩
    obtain ⟨h1, h2⟩ := rng_byte h
    have e := c_i2b w
    have e1 : (-128 : Int32).toInt = -128 := by decide
    have e2 : (127 : Int32).toInt = 127 := by decide
    rw [Int32.lt_iff_toInt_lt, e1] at h1
    rw [Int32.lt_iff_toInt_lt, e2] at h2
    have e3 : w.toInt8.toInt32 = w := Int32.toInt_inj.mp (by omega)
    exact congrArg Value.int e3
  | _ => simp [fits] at h
theorem own_arv_nostat {Z : State} {h : Heap} {a : Addr} {k : ClassId} {ty : FieldType} {z : Int32} {vs : List Value} {dv : Value} (F : Arv Z h a k ty z vs dv) : ∀ cell : Cell, h[a]? = some cell → cell.vm.isStatics = false := by
  obtain ⟨c, A, -⟩ := F
  intro cell hc
  cases A.1.symm.trans hc
  exact A.plain
theorem own_selP {s : State} {args : Array Value} {y y' : MethodName} (hsel : (Jvm.Cond.selects y'.cls y' y').before args s = true) (he : y.cls = y'.cls) (hp : s.PrivateAt y) (hi : (Jvm.Cond.instanceMethod y).before args s = true) (hy : y.cls ≠ "java/lang/invoke/MethodHandle" ∧ y.cls ≠ "java/lang/invoke/VarHandle") : (Jvm.Cond.selects y.cls y y).before args s = true := by
  obtain ⟨c2, r2, m2, -, -, q3, -, kP, hkP, hkPi⟩ := Cond.selects_spec hsel
  exact Jvm.Stand.selects_self_of_private (by rw [he]; exact findClass_of_methodNamed q3) hkP hkPi hp hi hy
theorem own_irr {a : Int32} : ¬ (a < a) := Int32.lt_irrefl
theorem own_irrL {a : Int64} : ¬ (a < a) := Int64.lt_irrefl
theorem own_sta_keep {Z : State} {h h' : Heap} {C n d : String} {v : Value} {ws : List Addr} (F : Sta Z h C n d v) (K : Keep h h' ws) (q : ∀ x ∈ ws, ∀ cell : Cell, h[x]? = some cell → cell.vm.isStatics = false) : Sta Z h' C n d v := by
  obtain ⟨cf, i, k, f, st, cell, h1, h2, h3, h4, h5, h6, h7⟩ := F
  refine ⟨cf, i, k, f, st, cell, h1, h2, h3, h4, K.2.1 _ _ h5 (fun hm => ?_), h6, h7⟩
  have := q _ hm _ h5
  rw [h6] at this
  cases this
end Jvm.OwnKit
namespace Jvm.Pilot.@@N@@
open Jvm Jvm.ClassFile Sem Op Lib Jvm.Free Jvm.Stand Jvm.LawKit Jvm.RoadKit Jvm.OwnKit Bundle Jvm.Pilot.@@N@@.Jvm.D
def own_ln (v : Int32) : Int32 := if ((v.toUInt32 >>> ((7 : Int32) &&& 31).toUInt32).toInt32) = (0 : Int32) then 1 else if ((v.toUInt32 >>> ((14 : Int32) &&& 31).toUInt32).toInt32) = (0 : Int32) then 2 else if ((v.toUInt32 >>> ((21 : Int32) &&& 31).toUInt32).toInt32) = (0 : Int32) then 3 else if ((v.toUInt32 >>> ((28 : Int32) &&& 31).toUInt32).toInt32) = (0 : Int32) then 4 else 5
def own_put : Nat → Int32 → Int32 → List Value → List Value
  | 0, x1, j, vs => vs.set j.toNatClampNeg (.int (x1.toInt8.toInt32))
  | f + 1, x1, j, vs => if (x1 &&& (-128 : Int32)) = (0 : Int32) then vs.set j.toNatClampNeg (.int (x1.toInt8.toInt32)) else own_put f ((x1.toUInt32 >>> ((7 : Int32) &&& 31).toUInt32).toInt32) (j + (1 : Int32)) (vs.set j.toNatClampNeg (.int (((x1 &&& (127 : Int32)) ||| (128 : Int32)).toInt8.toInt32)))
def own_end : Nat → Int32 → Int32 → Int32
  | 0, _, j => j + (1 : Int32)
  | f + 1, x1, j => if (x1 &&& (-128 : Int32)) = (0 : Int32) then j + (1 : Int32) else own_end f ((x1.toUInt32 >>> ((7 : Int32) &&& 31).toUInt32).toInt32) (j + (1 : Int32))
theorem own_put_t {f : Nat} {x1 j : Int32} {vs : List Value} (h : (x1 &&& (-128 : Int32)) = (0 : Int32)) : own_put (f + 1) x1 j vs = vs.set j.toNatClampNeg (.int (x1.toInt8.toInt32)) := if_pos h
theorem own_put_f {f : Nat} {x1 j : Int32} {vs : List Value} (h : ¬ (x1 &&& (-128 : Int32)) = (0 : Int32)) : own_put (f + 1) x1 j vs = own_put f ((x1.toUInt32 >>> ((7 : Int32) &&& 31).toUInt32).toInt32) (j + (1 : Int32)) (vs.set j.toNatClampNeg (.int (((x1 &&& (127 : Int32)) ||| (128 : Int32)).toInt8.toInt32))) := if_neg h
theorem own_end_t {f : Nat} {x1 j : Int32} (h : (x1 &&& (-128 : Int32)) = (0 : Int32)) : own_end (f + 1) x1 j = j + (1 : Int32) := if_pos h
theorem own_end_f {f : Nat} {x1 j : Int32} (h : ¬ (x1 &&& (-128 : Int32)) = (0 : Int32)) : own_end (f + 1) x1 j = own_end f ((x1.toUInt32 >>> ((7 : Int32) &&& 31).toUInt32).toInt32) (j + (1 : Int32)) := if_neg h
def own_exp (i j v k f : Int32) : Int32 := if i < j then f else if i < j + k then (if (i - j) < (k - (1 : Int32)) then (((((v.toUInt32 >>> (((7 : Int32) * (i - j)) &&& 31).toUInt32).toInt32) &&& (127 : Int32)) ||| (128 : Int32)).toInt8.toInt32) else ((((v.toUInt32 >>> (((7 : Int32) * (i - j)) &&& 31).toUInt32).toInt32) &&& (127 : Int32)).toInt8.toInt32)) else f
theorem own_one : (1 : Int32).toInt = 1 := by decide
theorem own_inc {u w : Int32} {n : Int} (h : w = u + (1 : Int32)) (q : u.toInt = n) (r : 0 ≤ n ∧ n < 100) : w.toInt = n + 1 := by
  have e1 := c_iadd u (1 : Int32)
  have e2 := rng32 (u + (1 : Int32))
  rw [own_one] at e1
  rw [h]
  omega
theorem own_rng {u : Int32} {n : Int} (q : u.toInt = n) (r : 0 ≤ n ∧ n < 10) : ¬ u < 0 ∧ u < (10 : Int32) := by
  have h0 : (0 : Int32).toInt = 0 := by decide
  have h1 : (10 : Int32).toInt = 10 := by decide
  rw [Int32.lt_iff_toInt_lt, Int32.lt_iff_toInt_lt, h0, h1]
  omega
theorem own_nat {u : Int32} {n : Int} (q : u.toInt = n) (r : 0 ≤ n ∧ n < 10) : u.toNatClampNeg < 10 := by
  have := nat_of (own_rng q r).1
  omega
/-! shifts -/
theorem own_ush (y : Int32) (k : Nat) (q : Int32) (hq : (q &&& 31).toUInt32.toNat = k) (hk : k < 32) : ((y.toUInt32 >>> (q &&& 31).toUInt32).toInt32).toBitVec = y.toBitVec >>> k := by
  have e : (q &&& 31).toUInt32.toBitVec.toNat = k := hq
  show (y.toUInt32 >>> (q &&& 31).toUInt32).toBitVec = _
  rw [UInt32.toBitVec_shiftRight]
  show y.toBitVec >>> ((q &&& 31).toUInt32.toBitVec % 32#32) = _
  rw [BitVec.ushiftRight_eq', BitVec.toNat_umod, e]
  show y.toBitVec >>> (k % 32) = _
  rw [Nat.mod_eq_of_lt hk]
theorem own_mask (y : Int32) : (y &&& (-128 : Int32)).toBitVec = (y.toBitVec >>> 7) <<< 7 := by
  rw [BitVec.shiftLeft_ushiftRight]
  show y.toBitVec &&& (-128 : Int32).toBitVec = _
  congr 1
theorem own_low (y : Int32) (h : (y &&& (-128 : Int32)) = (0 : Int32)) : (y &&& (127 : Int32)) = y := by
  have e1 := c_mask y 127 7 (by decide) (by decide)
  have e2 : (y.toBitVec >>> 7) <<< 7 = 0#32 := by rw [← own_mask, h]; rfl
  have e3 : y.toBitVec = (y &&& (127 : Int32)).toBitVec ||| (y &&& (-128 : Int32)).toBitVec := by
    show y.toBitVec = (y.toBitVec &&& (127 : Int32).toBitVec) ||| (y.toBitVec &&& (-128 : Int32).toBitVec)
    rw [← BitVec.and_or_distrib_left]
    show y.toBitVec = y.toBitVec &&& 4294967295#32
    exact (BitVec.and_allOnes).symm
  apply Int32.toBitVec_inj.mp
  rw [h] at e3
  rw [e3]
  show _ = (y &&& (127 : Int32)).toBitVec ||| 0#32
  rw [BitVec.or_zero]

theorem own_U (y : Int32) (k : Nat) (q : Int32) (hk : q.toBitVec.toNat % 32 = k) (h0 : 0 < k) : ((y.toUInt32 >>> (q &&& 31).toUInt32).toInt32).toInt = (y.toInt % 4294967296) / (2 ^ k : Nat) := c_iushr y q k hk h0
theorem own_lowr (y : Int32) (h : (y &&& (-128 : Int32)) = (0 : Int32)) : 0 ≤ y.toInt ∧ y.toInt < 128 := by
  have e := c_mask y 127 7 (by decide) (by decide)
  rw [own_low y h] at e
  omega
theorem own_P (y : Int32) : (y &&& (-128 : Int32)) = (0 : Int32) ↔ ((y.toUInt32 >>> ((7 : Int32) &&& 31).toUInt32).toInt32) = (0 : Int32) := by
  have e := own_U y 7 (7 : Int32) (by decide) (by decide)
  have h0 : (0 : Int32).toInt = 0 := by decide
  constructor
  · intro h
    have := own_lowr y h
    apply Int32.toInt_inj.mp
    rw [e, h0]
    omega
  · intro h
    rw [h, h0] at e
    have r := rng32 y
    have e2 := c_mask y 127 7 (by decide) (by decide)
    have e3 : (y &&& (127 : Int32)) = y := Int32.toInt_inj.mp (by rw [e2]; omega)
    rw [← e3, Int32.and_assoc]
    have : (127 : Int32) &&& (-128 : Int32) = 0 := by decide
    rw [this]
    exact Int32.and_zero
theorem own_UU (y : Int32) (a b : Int32) (i : Nat) (ha : a.toBitVec.toNat % 32 = i) (hb : b.toBitVec.toNat % 32 = i + 7) (h0 : 0 < i) : ((((y.toUInt32 >>> (a &&& 31).toUInt32).toInt32).toUInt32 >>> ((7 : Int32) &&& 31).toUInt32).toInt32) = ((y.toUInt32 >>> (b &&& 31).toUInt32).toInt32) := by
  apply Int32.toInt_inj.mp
  rw [own_U _ 7 (7 : Int32) (by decide) (by decide), own_U y i a ha h0, own_U y (i + 7) b hb (by omega)]
  have e : (((2 ^ (i + 7) : Nat)) : Int) = ((2 ^ i : Nat) : Int) * 128 := by rw [Nat.pow_add]; simp
  have p : (0 : Int) < ((2 ^ i : Nat) : Int) := by have := Nat.two_pow_pos i; omega
  rw [e, ← Int.ediv_ediv_of_nonneg (by omega)]
  have q1 : 0 ≤ (y.toInt % 4294967296) / ((2 ^ i : Nat) : Int) := Int.ediv_nonneg (by omega) (by omega)
  have q2 : (y.toInt % 4294967296) / ((2 ^ i : Nat) : Int) ≤ y.toInt % 4294967296 := Int.ediv_le_self _ (by omega)
  rw [Int.emod_eq_of_lt q1 (by omega)]
  rfl

theorem own_U0 (v : Int32) : ((v.toUInt32 >>> ((0 : Int32) &&& 31).toUInt32).toInt32) = v := by
  apply Int32.toBitVec_inj.mp
  rw [own_ush v 0 (0 : Int32) (by decide) (by decide)]
  exact BitVec.ushiftRight_zero _
theorem own_and3r (a : Int32) : 0 ≤ (a &&& (3 : Int32)).toInt ∧ (a &&& (3 : Int32)).toInt < 4 := by
  have e := c_mask a 3 2 (by decide) (by decide)
  omega
theorem own_ln_eq (v : Int32) : own_ln v = if ((v.toUInt32 >>> ((7 : Int32) &&& 31).toUInt32).toInt32) = (0 : Int32) then 1 else if ((v.toUInt32 >>> ((14 : Int32) &&& 31).toUInt32).toInt32) = (0 : Int32) then 2 else if ((v.toUInt32 >>> ((21 : Int32) &&& 31).toUInt32).toInt32) = (0 : Int32) then 3 else if ((v.toUInt32 >>> ((28 : Int32) &&& 31).toUInt32).toInt32) = (0 : Int32) then 4 else 5 := rfl
theorem own_s1 (v : Int32) : ((((v.toUInt32 >>> ((7 : Int32) &&& 31).toUInt32).toInt32).toUInt32 >>> ((7 : Int32) &&& 31).toUInt32).toInt32) = ((v.toUInt32 >>> ((14 : Int32) &&& 31).toUInt32).toInt32) := own_UU v 7 14 7 (by decide) (by decide) (by decide)
theorem own_s2 (v : Int32) : ((((v.toUInt32 >>> ((14 : Int32) &&& 31).toUInt32).toInt32).toUInt32 >>> ((7 : Int32) &&& 31).toUInt32).toInt32) = ((v.toUInt32 >>> ((21 : Int32) &&& 31).toUInt32).toInt32) := own_UU v 14 21 14 (by decide) (by decide) (by decide)
theorem own_s3 (v : Int32) : ((((v.toUInt32 >>> ((21 : Int32) &&& 31).toUInt32).toInt32).toUInt32 >>> ((7 : Int32) &&& 31).toUInt32).toInt32) = ((v.toUInt32 >>> ((28 : Int32) &&& 31).toUInt32).toInt32) := own_UU v 21 28 21 (by decide) (by decide) (by decide)
theorem own_t4 (v : Int32) : (((v.toUInt32 >>> ((28 : Int32) &&& 31).toUInt32).toInt32) &&& (-128 : Int32)) = (0 : Int32) := by
  apply (own_P _).mpr
  apply Int32.toInt_inj.mp
  have h0 : (0 : Int32).toInt = 0 := by decide
  rw [own_U _ 7 (7 : Int32) (by decide) (by decide), own_U v 28 (28 : Int32) (by decide) (by decide), h0]
  omega
theorem own_cs (v : Int32) : (own_ln v = (1 : Int32) ∧ (∀ (ps : Int32) (vs : List Value), own_put 4 v ps vs = (vs.set ps.toNatClampNeg (.int ((((v.toUInt32 >>> ((0 : Int32) &&& 31).toUInt32).toInt32) &&& (127 : Int32)).toInt8.toInt32)))) ∧ ∀ ps : Int32, own_end 4 v ps = (ps + (1 : Int32))) ∨ (own_ln v = (2 : Int32) ∧ (∀ (ps : Int32) (vs : List Value), own_put 4 v ps vs = ((vs.set ps.toNatClampNeg (.int (((((v.toUInt32 >>> ((0 : Int32) &&& 31).toUInt32).toInt32) &&& (127 : Int32)) ||| (128 : Int32)).toInt8.toInt32))).set (ps + (1 : Int32)).toNatClampNeg (.int ((((v.toUInt32 >>> ((7 : Int32) &&& 31).toUInt32).toInt32) &&& (127 : Int32)).toInt8.toInt32)))) ∧ ∀ ps : Int32, own_end 4 v ps = ((ps + (1 : Int32)) + (1 : Int32))) ∨ (own_ln v = (3 : Int32) ∧ (∀ (ps : Int32) (vs : List Value), own_put 4 v ps vs = (((vs.set ps.toNatClampNeg (.int (((((v.toUInt32 >>> ((0 : Int32) &&& 31).toUInt32).toInt32) &&& (127 : Int32)) ||| (128 : Int32)).toInt8.toInt32))).set (ps + (1 : Int32)).toNatClampNeg (.int (((((v.toUInt32 >>> ((7 : Int32) &&& 31).toUInt32).toInt32) &&& (127 : Int32)) ||| (128 : Int32)).toInt8.toInt32))).set ((ps + (1 : Int32)) + (1 : Int32)).toNatClampNeg (.int ((((v.toUInt32 >>> ((14 : Int32) &&& 31).toUInt32).toInt32) &&& (127 : Int32)).toInt8.toInt32)))) ∧ ∀ ps : Int32, own_end 4 v ps = (((ps + (1 : Int32)) + (1 : Int32)) + (1 : Int32))) ∨ (own_ln v = (4 : Int32) ∧ (∀ (ps : Int32) (vs : List Value), own_put 4 v ps vs = ((((vs.set ps.toNatClampNeg (.int (((((v.toUInt32 >>> ((0 : Int32) &&& 31).toUInt32).toInt32) &&& (127 : Int32)) ||| (128 : Int32)).toInt8.toInt32))).set (ps + (1 : Int32)).toNatClampNeg (.int (((((v.toUInt32 >>> ((7 : Int32) &&& 31).toUInt32).toInt32) &&& (127 : Int32)) ||| (128 : Int32)).toInt8.toInt32))).set ((ps + (1 : Int32)) + (1 : Int32)).toNatClampNeg (.int (((((v.toUInt32 >>> ((14 : Int32) &&& 31).toUInt32).toInt32) &&& (127 : Int32)) ||| (128 : Int32)).toInt8.toInt32))).set (((ps + (1 : Int32)) + (1 : Int32)) + (1 : Int32)).toNatClampNeg (.int ((((v.toUInt32 >>> ((21 : Int32) &&& 31).toUInt32).toInt32) &&& (127 : Int32)).toInt8.toInt32)))) ∧ ∀ ps : Int32, own_end 4 v ps = ((((ps + (1 : Int32)) + (1 : Int32)) + (1 : Int32)) + (1 : Int32))) ∨ (own_ln v = (5 : Int32) ∧ (∀ (ps : Int32) (vs : List Value), own_put 4 v ps vs = (((((vs.set ps.toNatClampNeg (.int (((((v.toUInt32 >>> ((0 : Int32) &&& 31).toUInt32).toInt32) &&& (127 : Int32)) ||| (128 : Int32)).toInt8.toInt32))).set (ps + (1 : Int32)).toNatClampNeg (.int (((((v.toUInt32 >>> ((7 : Int32) &&& 31).toUInt32).toInt32) &&& (127 : Int32)) ||| (128 : Int32)).toInt8.toInt32))).set ((ps + (1 : Int32)) + (1 : Int32)).toNatClampNeg (.int (((((v.toUInt32 >>> ((14 : Int32) &&& 31).toUInt32).toInt32) &&& (127 : Int32)) ||| (128 : Int32)).toInt8.toInt32))).set (((ps + (1 : Int32)) + (1 : Int32)) + (1 : Int32)).toNatClampNeg (.int (((((v.toUInt32 >>> ((21 : Int32) &&& 31).toUInt32).toInt32) &&& (127 : Int32)) ||| (128 : Int32)).toInt8.toInt32))).set ((((ps + (1 : Int32)) + (1 : Int32)) + (1 : Int32)) + (1 : Int32)).toNatClampNeg (.int ((((v.toUInt32 >>> ((28 : Int32) &&& 31).toUInt32).toInt32) &&& (127 : Int32)).toInt8.toInt32)))) ∧ ∀ ps : Int32, own_end 4 v ps = (((((ps + (1 : Int32)) + (1 : Int32)) + (1 : Int32)) + (1 : Int32)) + (1 : Int32))) := by
  by_cases hp : (v &&& (-128 : Int32)) = (0 : Int32)
  · exact Or.inl ⟨by rw [own_ln_eq, if_pos (((own_P _).mp hp))], fun ps vs => by rw [own_U0, own_low _ hp, own_put_t hp], fun ps => by rw [own_end_t hp]⟩
  · have hn0 := hp
    by_cases hp : (((v.toUInt32 >>> ((7 : Int32) &&& 31).toUInt32).toInt32) &&& (-128 : Int32)) = (0 : Int32)
    · exact Or.inr (Or.inl ⟨by rw [own_ln_eq, if_neg (fun q => hn0 ((own_P _).mpr (q))), if_pos ((own_s1 v).symm.trans ((own_P _).mp hp))], fun ps vs => by rw [own_U0, own_low _ hp, own_put_f hn0, own_put_t hp], fun ps => by rw [own_end_f hn0, own_end_t hp]⟩)
    · have hn1 := hp
      by_cases hp : (((v.toUInt32 >>> ((14 : Int32) &&& 31).toUInt32).toInt32) &&& (-128 : Int32)) = (0 : Int32)
      · exact Or.inr (Or.inr (Or.inl ⟨by rw [own_ln_eq, if_neg (fun q => hn0 ((own_P _).mpr (q))), if_neg (fun q => hn1 ((own_P _).mpr ((own_s1 v).trans q))), if_pos ((own_s2 v).symm.trans ((own_P _).mp hp))], fun ps vs => by rw [own_U0, own_low _ hp, own_put_f hn0, own_put_f hn1, own_s1 v, own_put_t hp], fun ps => by rw [own_end_f hn0, own_end_f hn1, own_s1 v, own_end_t hp]⟩))
      · have hn2 := hp
        by_cases hp : (((v.toUInt32 >>> ((21 : Int32) &&& 31).toUInt32).toInt32) &&& (-128 : Int32)) = (0 : Int32)
        · exact Or.inr (Or.inr (Or.inr (Or.inl ⟨by rw [own_ln_eq, if_neg (fun q => hn0 ((own_P _).mpr (q))), if_neg (fun q => hn1 ((own_P _).mpr ((own_s1 v).trans q))), if_neg (fun q => hn2 ((own_P _).mpr ((own_s2 v).trans q))), if_pos ((own_s3 v).symm.trans ((own_P _).mp hp))], fun ps vs => by rw [own_U0, own_low _ hp, own_put_f hn0, own_put_f hn1, own_s1 v, own_put_f hn2, own_s2 v, own_put_t hp], fun ps => by rw [own_end_f hn0, own_end_f hn1, own_s1 v, own_end_f hn2, own_s2 v, own_end_t hp]⟩)))
        · have hn3 := hp
          have hp := own_t4 v
          exact Or.inr (Or.inr (Or.inr (Or.inr (⟨by rw [own_ln_eq, if_neg (fun q => hn0 ((own_P _).mpr (q))), if_neg (fun q => hn1 ((own_P _).mpr ((own_s1 v).trans q))), if_neg (fun q => hn2 ((own_P _).mpr ((own_s2 v).trans q))), if_neg (fun q => hn3 ((own_P _).mpr ((own_s3 v).trans q)))], fun ps vs => by rw [own_U0, own_low _ hp, own_put_f hn0, own_put_f hn1, own_s1 v, own_put_f hn2, own_s2 v, own_put_f hn3, own_s3 v]; rfl, fun ps => by rw [own_end_f hn0, own_end_f hn1, own_s1 v, own_end_f hn2, own_s2 v, own_end_f hn3, own_s3 v]; rfl⟩))))
theorem own_lit {y : Int32} {n : Int} (z : Int32) (h : y.toInt = n) (q : z.toInt = n) : y = z := Int32.toInt_inj.mp (h.trans q.symm)
theorem own_all (v : Int32) {ps f : Int32} (hps : 0 ≤ ps.toInt ∧ ps.toInt < 4) (i : Int32) (hi : 0 ≤ i.toInt ∧ i.toInt < 10) : (own_put 4 v ps [.int f, .int f, .int f, .int f, .int f, .int f, .int f, .int f, .int f, .int f]).getD i.toNatClampNeg (.int (0 : Int32)) = .int (own_exp i ps v (own_ln v) f) := by
  have hp : ps = (0 : Int32) ∨ ps = (1 : Int32) ∨ ps = (2 : Int32) ∨ ps = (3 : Int32) := by
    have : ps.toInt = 0 ∨ ps.toInt = 1 ∨ ps.toInt = 2 ∨ ps.toInt = 3 := by omega
    rcases this with h | h | h | h
    · exact Or.inl (own_lit _ h (by decide))
    · exact Or.inr (Or.inl (own_lit _ h (by decide)))
    · exact Or.inr (Or.inr (Or.inl (own_lit _ h (by decide))))
    · exact Or.inr (Or.inr (Or.inr ((own_lit _ h (by decide)))))
  have hj : i = (0 : Int32) ∨ i = (1 : Int32) ∨ i = (2 : Int32) ∨ i = (3 : Int32) ∨ i = (4 : Int32) ∨ i = (5 : Int32) ∨ i = (6 : Int32) ∨ i = (7 : Int32) ∨ i = (8 : Int32) ∨ i = (9 : Int32) := by
    have : i.toInt = 0 ∨ i.toInt = 1 ∨ i.toInt = 2 ∨ i.toInt = 3 ∨ i.toInt = 4 ∨ i.toInt = 5 ∨ i.toInt = 6 ∨ i.toInt = 7 ∨ i.toInt = 8 ∨ i.toInt = 9 := by omega
    rcases this with h | h | h | h | h | h | h | h | h | h
    · exact Or.inl (own_lit _ h (by decide))
    · exact Or.inr (Or.inl (own_lit _ h (by decide)))
    · exact Or.inr (Or.inr (Or.inl (own_lit _ h (by decide))))
    · exact Or.inr (Or.inr (Or.inr (Or.inl (own_lit _ h (by decide)))))
    · exact Or.inr (Or.inr (Or.inr (Or.inr (Or.inl (own_lit _ h (by decide))))))
    · exact Or.inr (Or.inr (Or.inr (Or.inr (Or.inr (Or.inl (own_lit _ h (by decide)))))))
    · exact Or.inr (Or.inr (Or.inr (Or.inr (Or.inr (Or.inr (Or.inl (own_lit _ h (by decide))))))))
    · exact Or.inr (Or.inr (Or.inr (Or.inr (Or.inr (Or.inr (Or.inr (Or.inl (own_lit _ h (by decide)))))))))
    · exact Or.inr (Or.inr (Or.inr (Or.inr (Or.inr (Or.inr (Or.inr (Or.inr (Or.inl (own_lit _ h (by decide))))))))))
    · exact Or.inr (Or.inr (Or.inr (Or.inr (Or.inr (Or.inr (Or.inr (Or.inr (Or.inr ((own_lit _ h (by decide)))))))))))
  rcases own_cs v with h | h | h | h | h
  all_goals
    obtain ⟨hl, hput, -⟩ := h
    rw [hl, hput]
    clear hl hput
    rcases hp with rfl | rfl | rfl | rfl
    all_goals
      rcases hj with rfl | rfl | rfl | rfl | rfl | rfl | rfl | rfl | rfl | rfl
      all_goals rfl
theorem own_endln (v ps : Int32) : own_end 4 v ps = ps + own_ln v := by
  rcases own_cs v with h | h | h | h | h
  all_goals
    obtain ⟨hl, -, he⟩ := h
    rw [hl, he]
  · rw [Int32.add_assoc]; rfl
  · rw [Int32.add_assoc, Int32.add_assoc]; rfl
  · rw [Int32.add_assoc, Int32.add_assoc, Int32.add_assoc]; rfl
  · rw [Int32.add_assoc, Int32.add_assoc, Int32.add_assoc, Int32.add_assoc]; rfl

theorem own_top (v : Int32) : (((((((((v.toUInt32 >>> ((7 : Int32) &&& 31).toUInt32).toInt32).toUInt32 >>> ((7 : Int32) &&& 31).toUInt32).toInt32).toUInt32 >>> ((7 : Int32) &&& 31).toUInt32).toInt32).toUInt32 >>> ((7 : Int32) &&& 31).toUInt32).toInt32) &&& (-128 : Int32)) = (0 : Int32) := by
  apply Int32.toBitVec_inj.mp
  rw [own_mask, own_ush _ 7 7 (by decide) (by decide), own_ush _ 7 7 (by decide) (by decide), own_ush _ 7 7 (by decide) (by decide), own_ush _ 7 7 (by decide) (by decide)]
  rw [← BitVec.shiftRight_add, ← BitVec.shiftRight_add, ← BitVec.shiftRight_add, ← BitVec.shiftRight_add]
  rw [BitVec.ushiftRight_eq_zero (by decide)]
  rfl
theorem own_exp_eq (i j v k f : Int32) : own_exp i j v k f = if i < j then f else if i < j + k then (if (i - j) < (k - (1 : Int32)) then (((((v.toUInt32 >>> (((7 : Int32) * (i - j)) &&& 31).toUInt32).toInt32) &&& (127 : Int32)) ||| (128 : Int32)).toInt8.toInt32) else ((((v.toUInt32 >>> (((7 : Int32) * (i - j)) &&& 31).toUInt32).toInt32) &&& (127 : Int32)).toInt8.toInt32)) else f := rfl
theorem d1_0 : decode method_3_code 0 = .ok (.iload_n 0, 1) := by decide +kernel
theorem d1_1 : decode method_3_code 1 = .ok (.bipush 7, 2) := by decide +kernel
theorem d1_3 : decode method_3_code 3 = .ok (.iushr, 1) := by decide +kernel
theorem d1_4 : decode method_3_code 4 = .ok (.ifCond .ne 5, 3) := by decide +kernel
theorem d1_7 : decode method_3_code 7 = .ok (.iconst 1, 1) := by decide +kernel
theorem d1_8 : decode method_3_code 8 = .ok (.ireturn, 1) := by decide +kernel
theorem d1_9 : decode method_3_code 9 = .ok (.iload_n 0, 1) := by decide +kernel
theorem d1_10 : decode method_3_code 10 = .ok (.bipush 14, 2) := by decide +kernel
theorem d1_12 : decode method_3_code 12 = .ok (.iushr, 1) := by decide +kernel
theorem d1_13 : decode method_3_code 13 = .ok (.ifCond .ne 5, 3) := by decide +kernel
theorem d1_16 : decode method_3_code 16 = .ok (.iconst 2, 1) := by decide +kernel
theorem d1_17 : decode method_3_code 17 = .ok (.ireturn, 1) := by decide +kernel
theorem d1_18 : decode method_3_code 18 = .ok (.iload_n 0, 1) := by decide +kernel
theorem d1_19 : decode method_3_code 19 = .ok (.bipush 21, 2) := by decide +kernel
theorem d1_21 : decode method_3_code 21 = .ok (.iushr, 1) := by decide +kernel
theorem d1_22 : decode method_3_code 22 = .ok (.ifCond .ne 5, 3) := by decide +kernel
theorem d1_25 : decode method_3_code 25 = .ok (.iconst 3, 1) := by decide +kernel
theorem d1_26 : decode method_3_code 26 = .ok (.ireturn, 1) := by decide +kernel
theorem d1_27 : decode method_3_code 27 = .ok (.iload_n 0, 1) := by decide +kernel
theorem d1_28 : decode method_3_code 28 = .ok (.bipush 28, 2) := by decide +kernel
theorem d1_30 : decode method_3_code 30 = .ok (.iushr, 1) := by decide +kernel
theorem d1_31 : decode method_3_code 31 = .ok (.ifCond .ne 5, 3) := by decide +kernel
theorem d1_34 : decode method_3_code 34 = .ok (.iconst 4, 1) := by decide +kernel
theorem d1_35 : decode method_3_code 35 = .ok (.ireturn, 1) := by decide +kernel
theorem d1_36 : decode method_3_code 36 = .ok (.iconst 5, 1) := by decide +kernel
theorem d1_37 : decode method_3_code 37 = .ok (.ireturn, 1) := by decide +kernel
theorem pn_0 : plainName "com/example/sift_sentences/siftsentences/index/IndexFormatPutVarintPinLaw" = true := by first | (simp [plainName, overriddenIn]; done) | decide +kernel
theorem ef_rm1 (m : MethodId) (v : Int32) : entryFrame m #[(.int v)] 1 = mkF m 0 #[.val (.int v)] [] := by first | (simp [entryFrame, mkF, argsToLocals, Value.category]; done) | rfl
def Qrm1 (Z : State) (v : Int32) (h0 : Heap) (n0 : Nat) (rV : Option Value) (hE : Heap) (LE : List Loc) : Prop := rV = some (.int (own_ln v)) ∧ Fr n0 LE ∧ hE = h0
set_option maxRecDepth 65536 in
set_option maxHeartbeats 40000000 in
theorem rm1 (l : Launch) (Z : State) (a0 : Array Value) (hw : ∀ d ∈ tables_1, d.before a0 Z = true) (ws : List Jvm.Cond) (v : Int32) (h0 : Heap) (n0 : Nat) (Z0 : n0 ≤ h0.size) :
    MetFree l (⟨"com/example/sift_sentences/siftsentences/index/IndexFormatPutVarintPinLaw", "length", "(I)I"⟩ : MethodName) (head1 (Jvm.Cond.code (⟨"com/example/sift_sentences/siftsentences/index/IndexFormatPutVarintPinLaw", "length", "(I)I"⟩ : MethodName) method_3_code 1 (some .int) :: ws) ({ frames := 0, cells := 0, slots := 0, locals := 0 } : Room)) (fun aA UA => aA = #[(.int v)] ∧ Z.Warmed39 UA.vm ∧ UA.heap = h0) (fun _ _ _ _ _ => True) (fun _ UA oA UB => ∃ rV LE, oA = .returned rV ∧ Qrm1 Z v h0 n0 rV UB.heap LE ∧ FrameEnd UA oA UB LE ({ frames := 0, cells := 0, slots := 0, locals := 0 } : Room).cells ({ frames := 0, cells := 0, slots := 0, locals := 0 } : Room).slots) := by
  refine MetFree.of_bodySF (plainFor_of_name pn_0) hisR ?_
  intro p e s m args below meth c s₁ Bd hml0 hP hK
  obtain ⟨rfl, hZ, hh⟩ := hP
  have hx := Bd.exec
  have hby := Bd.bytes
  have hml : c.maxLocals = 1 := hml0
  have hown : s.vm.findClass "com/example/sift_sentences/siftsentences/index/IndexFormatPutVarintPinLaw" = some m.cls := findClass_of_methodNamed Bd.named
  have hnm := (name_of_methodNamed Bd.named Bd.method).1
  have hlk := Bd.notSynchronized
  have X0 : Stand p l e ({ frames := 0, cells := 0, slots := 0, locals := 0 } : Room) s m #[(.int v)] below meth c s₁ [] 0 0 := Stand.of_body Bd
  have e0 : s₁.heap = h0 := by rw [← hh, Bd.state]; rfl
  have N0 := Fr.nil n0
  show Go p e below s (Qrm1 Z v h0 n0) ({ frames := 0, cells := 0, slots := 0, locals := 0 } : Room).cells ({ frames := 0, cells := 0, slots := 0, locals := 0 } : Room).slots s₁ (entryFrame m #[(.int v)] 1)
  refine Go.eq (ef_rm1 m v) ?_
  show Go p e below s _ _ _ s₁ (mkF m 0 #[.val (.int v)] [])
  refine Go.st (fun _ => XS.iloadN X0.here hx rfl (hb hby d1_0) rfl) ?_
  show Go p e below s _ _ _ s₁ (mkF m 1 #[.val (.int v)] [(.int v)])
  refine Go.st (fun _ => XS.bipush X0.here hx rfl (hb hby d1_1)) ?_
  show Go p e below s _ _ _ s₁ (mkF m 3 #[.val (.int v)] [(.int (7 : Int32)), (.int v)])
  refine Go.st (fun _ => XS.iushr X0.here hx rfl (hb hby d1_3) rfl) ?_
  show Go p e below s _ _ _ s₁ (mkF m 4 #[.val (.int v)] [(.int ((v.toUInt32 >>> ((7 : Int32) &&& 31).toUInt32).toInt32))])
  by_cases hc_1 : ((v.toUInt32 >>> ((7 : Int32) &&& 31).toUInt32).toInt32) = (0 : Int32)
  · refine Go.st (fun _ => XS.ifNo X0.here hx rfl (hb hby d1_4) rfl ((if0 _ _).trans (teq hc_1).2)) ?_
    show Go p e below s _ _ _ s₁ (mkF m 7 #[.val (.int v)] [])
    refine Go.st (fun _ => XS.iconst X0.here hx rfl (hb hby d1_7)) ?_
    show Go p e below s _ _ _ s₁ (mkF m 8 #[.val (.int v)] [(.int (1 : Int32))])
    exact Go.retI X0 hx hlk Bd.returns (hb hby d1_8) (by rw [e0]; exact ⟨(by rw [own_ln_eq, if_pos hc_1]), N0, rfl⟩) (by decide) (by decide)
  · refine Go.st (fun _ => XS.ifYes X0.here hx rfl (pc0 := 4) (pc' := 9) rfl (hb hby d1_4) rfl ((if0 _ _).trans (feq hc_1).2) (by decide) (by decide)) ?_
    show Go p e below s _ _ _ s₁ (mkF m 9 #[.val (.int v)] [])
    refine Go.st (fun _ => XS.iloadN X0.here hx rfl (hb hby d1_9) rfl) ?_
    show Go p e below s _ _ _ s₁ (mkF m 10 #[.val (.int v)] [(.int v)])
    refine Go.st (fun _ => XS.bipush X0.here hx rfl (hb hby d1_10)) ?_
    show Go p e below s _ _ _ s₁ (mkF m 12 #[.val (.int v)] [(.int (14 : Int32)), (.int v)])
    refine Go.st (fun _ => XS.iushr X0.here hx rfl (hb hby d1_12) rfl) ?_
    show Go p e below s _ _ _ s₁ (mkF m 13 #[.val (.int v)] [(.int ((v.toUInt32 >>> ((14 : Int32) &&& 31).toUInt32).toInt32))])
    by_cases hc_2 : ((v.toUInt32 >>> ((14 : Int32) &&& 31).toUInt32).toInt32) = (0 : Int32)
    · refine Go.st (fun _ => XS.ifNo X0.here hx rfl (hb hby d1_13) rfl ((if0 _ _).trans (teq hc_2).2)) ?_
      show Go p e below s _ _ _ s₁ (mkF m 16 #[.val (.int v)] [])
      refine Go.st (fun _ => XS.iconst X0.here hx rfl (hb hby d1_16)) ?_
      show Go p e below s _ _ _ s₁ (mkF m 17 #[.val (.int v)] [(.int (2 : Int32))])
      exact Go.retI X0 hx hlk Bd.returns (hb hby d1_17) (by rw [e0]; exact ⟨(by rw [own_ln_eq, if_neg hc_1, if_pos hc_2]), N0, rfl⟩) (by decide) (by decide)
    · refine Go.st (fun _ => XS.ifYes X0.here hx rfl (pc0 := 13) (pc' := 18) rfl (hb hby d1_13) rfl ((if0 _ _).trans (feq hc_2).2) (by decide) (by decide)) ?_
      show Go p e below s _ _ _ s₁ (mkF m 18 #[.val (.int v)] [])
      refine Go.st (fun _ => XS.iloadN X0.here hx rfl (hb hby d1_18) rfl) ?_
      show Go p e below s _ _ _ s₁ (mkF m 19 #[.val (.int v)] [(.int v)])
      refine Go.st (fun _ => XS.bipush X0.here hx rfl (hb hby d1_19)) ?_
      show Go p e below s _ _ _ s₁ (mkF m 21 #[.val (.int v)] [(.int (21 : Int32)), (.int v)])
      refine Go.st (fun _ => XS.iushr X0.here hx rfl (hb hby d1_21) rfl) ?_
      show Go p e below s _ _ _ s₁ (mkF m 22 #[.val (.int v)] [(.int ((v.toUInt32 >>> ((21 : Int32) &&& 31).toUInt32).toInt32))])
      by_cases hc_3 : ((v.toUInt32 >>> ((21 : Int32) &&& 31).toUInt32).toInt32) = (0 : Int32)
      · refine Go.st (fun _ => XS.ifNo X0.here hx rfl (hb hby d1_22) rfl ((if0 _ _).trans (teq hc_3).2)) ?_
        show Go p e below s _ _ _ s₁ (mkF m 25 #[.val (.int v)] [])
        refine Go.st (fun _ => XS.iconst X0.here hx rfl (hb hby d1_25)) ?_
        show Go p e below s _ _ _ s₁ (mkF m 26 #[.val (.int v)] [(.int (3 : Int32))])
        exact Go.retI X0 hx hlk Bd.returns (hb hby d1_26) (by rw [e0]; exact ⟨(by rw [own_ln_eq, if_neg hc_1, if_neg hc_2, if_pos hc_3]), N0, rfl⟩) (by decide) (by decide)
      · refine Go.st (fun _ => XS.ifYes X0.here hx rfl (pc0 := 22) (pc' := 27) rfl (hb hby d1_22) rfl ((if0 _ _).trans (feq hc_3).2) (by decide) (by decide)) ?_
        show Go p e below s _ _ _ s₁ (mkF m 27 #[.val (.int v)] [])
        refine Go.st (fun _ => XS.iloadN X0.here hx rfl (hb hby d1_27) rfl) ?_
        show Go p e below s _ _ _ s₁ (mkF m 28 #[.val (.int v)] [(.int v)])
        refine Go.st (fun _ => XS.bipush X0.here hx rfl (hb hby d1_28)) ?_
        show Go p e below s _ _ _ s₁ (mkF m 30 #[.val (.int v)] [(.int (28 : Int32)), (.int v)])
        refine Go.st (fun _ => XS.iushr X0.here hx rfl (hb hby d1_30) rfl) ?_
        show Go p e below s _ _ _ s₁ (mkF m 31 #[.val (.int v)] [(.int ((v.toUInt32 >>> ((28 : Int32) &&& 31).toUInt32).toInt32))])
        by_cases hc_4 : ((v.toUInt32 >>> ((28 : Int32) &&& 31).toUInt32).toInt32) = (0 : Int32)
        · refine Go.st (fun _ => XS.ifNo X0.here hx rfl (hb hby d1_31) rfl ((if0 _ _).trans (teq hc_4).2)) ?_
          show Go p e below s _ _ _ s₁ (mkF m 34 #[.val (.int v)] [])
          refine Go.st (fun _ => XS.iconst X0.here hx rfl (hb hby d1_34)) ?_
          show Go p e below s _ _ _ s₁ (mkF m 35 #[.val (.int v)] [(.int (4 : Int32))])
          exact Go.retI X0 hx hlk Bd.returns (hb hby d1_35) (by rw [e0]; exact ⟨(by rw [own_ln_eq, if_neg hc_1, if_neg hc_2, if_neg hc_3, if_pos hc_4]), N0, rfl⟩) (by decide) (by decide)
        · refine Go.st (fun _ => XS.ifYes X0.here hx rfl (pc0 := 31) (pc' := 36) rfl (hb hby d1_31) rfl ((if0 _ _).trans (feq hc_4).2) (by decide) (by decide)) ?_
          show Go p e below s _ _ _ s₁ (mkF m 36 #[.val (.int v)] [])
          refine Go.st (fun _ => XS.iconst X0.here hx rfl (hb hby d1_36)) ?_
          show Go p e below s _ _ _ s₁ (mkF m 37 #[.val (.int v)] [(.int (5 : Int32))])
          exact Go.retI X0 hx hlk Bd.returns (hb hby d1_37) (by rw [e0]; exact ⟨(by rw [own_ln_eq, if_neg hc_1, if_neg hc_2, if_neg hc_3, if_neg hc_4]), N0, rfl⟩) (by decide) (by decide)
theorem d2_0 : decode prog_14_method_2_code 0 = .ok (.iload_n 2, 1) := by decide +kernel
theorem d2_1 : decode prog_14_method_2_code 1 = .ok (.istore_n 3, 1) := by decide +kernel
theorem d2_2 : decode prog_14_method_2_code 2 = .ok (.iload_n 1, 1) := by decide +kernel
theorem d2_3 : decode prog_14_method_2_code 3 = .ok (.istore 4, 2) := by decide +kernel
theorem d2_5 : decode prog_14_method_2_code 5 = .ok (.iload_n 3, 1) := by decide +kernel
theorem d2_6 : decode prog_14_method_2_code 6 = .ok (.bipush (-128), 2) := by decide +kernel
theorem d2_8 : decode prog_14_method_2_code 8 = .ok (.iand, 1) := by decide +kernel
theorem d2_9 : decode prog_14_method_2_code 9 = .ok (.ifCond .eq 27, 3) := by decide +kernel
theorem d2_36 : decode prog_14_method_2_code 36 = .ok (.aload_n 0, 1) := by decide +kernel
theorem d2_37 : decode prog_14_method_2_code 37 = .ok (.iload 4, 2) := by decide +kernel
theorem d2_39 : decode prog_14_method_2_code 39 = .ok (.iinc 4 1, 3) := by decide +kernel
theorem d2_42 : decode prog_14_method_2_code 42 = .ok (.iload_n 3, 1) := by decide +kernel
theorem d2_43 : decode prog_14_method_2_code 43 = .ok (.i2b, 1) := by decide +kernel
theorem d2_44 : decode prog_14_method_2_code 44 = .ok (.bastore, 1) := by decide +kernel
theorem d2_45 : decode prog_14_method_2_code 45 = .ok (.iload 4, 2) := by decide +kernel
theorem d2_47 : decode prog_14_method_2_code 47 = .ok (.ireturn, 1) := by decide +kernel
theorem d2_12 : decode prog_14_method_2_code 12 = .ok (.aload_n 0, 1) := by decide +kernel
theorem d2_13 : decode prog_14_method_2_code 13 = .ok (.iload 4, 2) := by decide +kernel
theorem d2_15 : decode prog_14_method_2_code 15 = .ok (.iinc 4 1, 3) := by decide +kernel
theorem d2_18 : decode prog_14_method_2_code 18 = .ok (.iload_n 3, 1) := by decide +kernel
theorem d2_19 : decode prog_14_method_2_code 19 = .ok (.bipush 127, 2) := by decide +kernel
theorem d2_21 : decode prog_14_method_2_code 21 = .ok (.iand, 1) := by decide +kernel
theorem d2_22 : decode prog_14_method_2_code 22 = .ok (.sipush 128, 3) := by decide +kernel
theorem d2_25 : decode prog_14_method_2_code 25 = .ok (.ior, 1) := by decide +kernel
theorem d2_26 : decode prog_14_method_2_code 26 = .ok (.i2b, 1) := by decide +kernel
theorem d2_27 : decode prog_14_method_2_code 27 = .ok (.bastore, 1) := by decide +kernel
theorem d2_28 : decode prog_14_method_2_code 28 = .ok (.iload_n 3, 1) := by decide +kernel
theorem d2_29 : decode prog_14_method_2_code 29 = .ok (.bipush 7, 2) := by decide +kernel
theorem d2_31 : decode prog_14_method_2_code 31 = .ok (.iushr, 1) := by decide +kernel
theorem d2_32 : decode prog_14_method_2_code 32 = .ok (.istore_n 3, 1) := by decide +kernel
theorem d2_33 : decode prog_14_method_2_code 33 = .ok (.goto (-28), 3) := by decide +kernel
theorem pn_1 : plainName "com/example/sift_sentences/siftsentences/index/IndexFormat" = true := by first | (simp [plainName, overriddenIn]; done) | decide +kernel
theorem ef_rm2 (m : MethodId) (t : Addr) (ps : Int32) (v : Int32) : entryFrame m #[(.ref t), (.int ps), (.int v)] 5 = mkF m 0 #[.val (.ref t), .val (.int ps), .val (.int v), .unset, .unset] [] := by first | (simp [entryFrame, mkF, argsToLocals, Value.category]; done) | rfl
def Qrm2 (Z : State) (t : Addr) (ps : Int32) (v : Int32) (k : ClassId) (vs : List Value) (dv : Value) (h0 : Heap) (n0 : Nat) (rV : Option Value) (hE : Heap) (LE : List Loc) : Prop := rV = some (.int (own_end 4 v ps)) ∧ Fr n0 LE ∧ Keep h0 hE [t] ∧ Arv Z hE t k .byte (10 : Int32) (own_put 4 v ps vs) dv
set_option maxRecDepth 65536 in
set_option maxHeartbeats 40000000 in
theorem rm2 (l : Launch) (Z : State) (a0 : Array Value) (hw : ∀ d ∈ tables_1, d.before a0 Z = true) (ws : List Jvm.Cond) (t : Addr) (ps : Int32) (v : Int32) (k : ClassId) (vs : List Value) (dv : Value) (h0 : Heap) (n0 : Nat) (Z0 : n0 ≤ h0.size) (V_t : Arv Z h0 t k .byte (10 : Int32) vs dv) (g_t : n0 ≤ t) (hps : 0 ≤ ps.toInt ∧ ps.toInt < 4) (hlen : vs.length = 10) :
    MetFree l (⟨"com/example/sift_sentences/siftsentences/index/IndexFormat", "putVarint", "([BII)I"⟩ : MethodName) (head1 (Jvm.Cond.code (⟨"com/example/sift_sentences/siftsentences/index/IndexFormat", "putVarint", "([BII)I"⟩ : MethodName) prog_14_method_2_code 5 (some .int) :: ws) ({ frames := 0, cells := 0, slots := 0, locals := 0 } : Room)) (fun aA UA => aA = #[(.ref t), (.int ps), (.int v)] ∧ Z.Warmed39 UA.vm ∧ UA.heap = h0) (fun _ _ _ _ _ => True) (fun _ UA oA UB => ∃ rV LE, oA = .returned rV ∧ Qrm2 Z t ps v k vs dv h0 n0 rV UB.heap LE ∧ FrameEnd UA oA UB LE ({ frames := 0, cells := 0, slots := 0, locals := 0 } : Room).cells ({ frames := 0, cells := 0, slots := 0, locals := 0 } : Room).slots) := by
  refine MetFree.of_bodySF (plainFor_of_name pn_1) hisR ?_
  intro p e s m args below meth c s₁ Bd hml0 hP hK
  obtain ⟨rfl, hZ, hh⟩ := hP
  have hx := Bd.exec
  have hby := Bd.bytes
  have hml : c.maxLocals = 5 := hml0
  have hown : s.vm.findClass "com/example/sift_sentences/siftsentences/index/IndexFormat" = some m.cls := findClass_of_methodNamed Bd.named
  have hnm := (name_of_methodNamed Bd.named Bd.method).1
  have hlk := Bd.notSynchronized
  have X0 : Stand p l e ({ frames := 0, cells := 0, slots := 0, locals := 0 } : Room) s m #[(.ref t), (.int ps), (.int v)] below meth c s₁ [] 0 0 := Stand.of_body Bd
  have e0 : s₁.heap = h0 := by rw [← hh, Bd.state]; rfl
  have N0 := Fr.nil n0
  show Go p e below s (Qrm2 Z t ps v k vs dv h0 n0) ({ frames := 0, cells := 0, slots := 0, locals := 0 } : Room).cells ({ frames := 0, cells := 0, slots := 0, locals := 0 } : Room).slots s₁ (entryFrame m #[(.ref t), (.int ps), (.int v)] 5)
  refine Go.eq (ef_rm2 m t ps v) ?_
  show Go p e below s _ _ _ s₁ (mkF m 0 #[.val (.ref t), .val (.int ps), .val (.int v), .unset, .unset] [])
  refine Go.st (fun _ => XS.iloadN X0.here hx rfl (hb hby d2_0) rfl) ?_
  show Go p e below s _ _ _ s₁ (mkF m 1 #[.val (.ref t), .val (.int ps), .val (.int v), .unset, .unset] [(.int v)])
  refine Go.st (fun _ => XS.istoreN X0.here hx rfl (hb hby d2_1) rfl (l' := #[.val (.ref t), .val (.int ps), .val (.int v), .val (.int v), .unset]) rfl) ?_
  show Go p e below s _ _ _ s₁ (mkF m 2 #[.val (.ref t), .val (.int ps), .val (.int v), .val (.int v), .unset] [])
  refine Go.st (fun _ => XS.iloadN X0.here hx rfl (hb hby d2_2) rfl) ?_
  show Go p e below s _ _ _ s₁ (mkF m 3 #[.val (.ref t), .val (.int ps), .val (.int v), .val (.int v), .unset] [(.int ps)])
  refine Go.st (fun _ => XS.istore X0.here hx rfl (hb hby d2_3) rfl (l' := #[.val (.ref t), .val (.int ps), .val (.int v), .val (.int v), .val (.int ps)]) rfl) ?_
  show Go p e below s _ _ _ s₁ (mkF m 5 #[.val (.ref t), .val (.int ps), .val (.int v), .val (.int v), .val (.int ps)] [])
  have hp0 : ps.toInt = ps.toInt := rfl
  refine Go.st (fun _ => XS.iloadN X0.here hx rfl (hb hby d2_5) rfl) ?_
  show Go p e below s _ _ _ s₁ (mkF m 6 #[.val (.ref t), .val (.int ps), .val (.int v), .val (.int v), .val (.int ps)] [(.int v)])
  refine Go.st (fun _ => XS.bipush X0.here hx rfl (hb hby d2_6)) ?_
  show Go p e below s _ _ _ s₁ (mkF m 8 #[.val (.ref t), .val (.int ps), .val (.int v), .val (.int v), .val (.int ps)] [(.int (-128 : Int32)), (.int v)])
  refine Go.st (fun _ => XS.iand X0.here hx rfl (hb hby d2_8) rfl) ?_
  show Go p e below s _ _ _ s₁ (mkF m 9 #[.val (.ref t), .val (.int ps), .val (.int v), .val (.int v), .val (.int ps)] [(.int (v &&& (-128 : Int32)))])
  by_cases hc_1 : (v &&& (-128 : Int32)) = (0 : Int32)
  · refine Go.st (fun _ => XS.ifYes X0.here hx rfl (pc0 := 9) (pc' := 36) rfl (hb hby d2_9) rfl ((if0 _ _).trans (teq hc_1).1) (by decide) (by decide)) ?_
    show Go p e below s _ _ _ s₁ (mkF m 36 #[.val (.ref t), .val (.int ps), .val (.int v), .val (.int v), .val (.int ps)] [])
    refine Go.st (fun _ => XS.aloadN X0.here hx rfl (hb hby d2_36) rfl rfl) ?_
    show Go p e below s _ _ _ s₁ (mkF m 37 #[.val (.ref t), .val (.int ps), .val (.int v), .val (.int v), .val (.int ps)] [(.ref t)])
    refine Go.st (fun _ => XS.iload X0.here hx rfl (hb hby d2_37) rfl) ?_
    show Go p e below s _ _ _ s₁ (mkF m 39 #[.val (.ref t), .val (.int ps), .val (.int v), .val (.int v), .val (.int ps)] [(.int ps), (.ref t)])
    refine Go.st (fun _ => XS.iinc X0.here hx rfl (hb hby d2_39) rfl (l' := #[.val (.ref t), .val (.int ps), .val (.int v), .val (.int v), .val (.int (ps + (1 : Int32)))]) rfl) ?_
    show Go p e below s _ _ _ s₁ (mkF m 42 #[.val (.ref t), .val (.int ps), .val (.int v), .val (.int v), .val (.int (ps + (1 : Int32)))] [(.int ps), (.ref t)])
    refine Go.st (fun _ => XS.iloadN X0.here hx rfl (hb hby d2_42) rfl) ?_
    show Go p e below s _ _ _ s₁ (mkF m 43 #[.val (.ref t), .val (.int ps), .val (.int v), .val (.int v), .val (.int (ps + (1 : Int32)))] [(.int v), (.int ps), (.ref t)])
    refine Go.st (fun _ => XS.i2b X0.here hx rfl (hb hby d2_43) rfl) ?_
    show Go p e below s _ _ _ s₁ (mkF m 44 #[.val (.ref t), .val (.int ps), .val (.int v), .val (.int v), .val (.int (ps + (1 : Int32)))] [(.int (v.toInt8.toInt32)), (.int ps), (.ref t)])
    obtain ⟨cl_2, Ar_2, q_2, S_2, M_2, H_2, G_2⟩ := id V_t
    have hin_2 : ¬ (ps < 0 ∨ cl_2.slots.size ≤ (ps).toNatClampNeg) := inb_of S_2 (own_rng hp0 (by omega))
    obtain ⟨T_2, h_2, X_2, e_2, W_2, st_2⟩ := stB X0 hx hZ e0 Ar_2 (j := ps) hin_2 (g := (mkF m 44 #[.val (.ref t), .val (.int ps), .val (.int v), .val (.int v), .val (.int (ps + (1 : Int32)))] [(.int (v.toInt8.toInt32)), (.int ps), (.ref t)])) rfl rfl (hb hby d2_44)
    refine Go.st st_2 ?_
    rw [own_nb] at W_2
    have V_2 : Arv Z h_2 t k .byte (10 : Int32) (vs.set (ps).toNatClampNeg (.int (v.toInt8.toInt32))) dv := Arv.set Ar_2 q_2 S_2 M_2 H_2 G_2 (fits_nar_byte _) W_2 (ps).toNatClampNeg rfl (by simp only [List.length_set, hlen]; exact own_nat hp0 (by omega))
    have N_2 := Fr.snoc X_2 N0 g_t
    have K_2 : Keep h0 h_2 [t] := (Keep.refl h0 [t]).wr W_2 (Or.inl (List.mem_of_getElem? (i := 0) rfl))
    have z_2 : n0 ≤ h_2.size := Nat.le_trans Z0 (Nat.le_of_eq W_2.size.symm)
    show Go p e below s _ _ _ T_2 (mkF m 45 #[.val (.ref t), .val (.int ps), .val (.int v), .val (.int v), .val (.int (ps + (1 : Int32)))] [])
    refine Go.st (fun _ => XS.iload X_2.here hx rfl (hb hby d2_45) rfl) ?_
    show Go p e below s _ _ _ T_2 (mkF m 47 #[.val (.ref t), .val (.int ps), .val (.int v), .val (.int v), .val (.int (ps + (1 : Int32)))] [(.int (ps + (1 : Int32)))])
    exact Go.retI X_2 hx hlk Bd.returns (hb hby d2_47) (by rw [e_2]; exact ⟨(by rw [own_end_t hc_1]), N_2, K_2, (by rw [own_put_t hc_1]; exact V_2)⟩) (by decide) (by decide)
  · refine Go.st (fun _ => XS.ifNo X0.here hx rfl (hb hby d2_9) rfl ((if0 _ _).trans (feq hc_1).1)) ?_
    show Go p e below s _ _ _ s₁ (mkF m 12 #[.val (.ref t), .val (.int ps), .val (.int v), .val (.int v), .val (.int ps)] [])
    refine Go.st (fun _ => XS.aloadN X0.here hx rfl (hb hby d2_12) rfl rfl) ?_
    show Go p e below s _ _ _ s₁ (mkF m 13 #[.val (.ref t), .val (.int ps), .val (.int v), .val (.int v), .val (.int ps)] [(.ref t)])
    refine Go.st (fun _ => XS.iload X0.here hx rfl (hb hby d2_13) rfl) ?_
    show Go p e below s _ _ _ s₁ (mkF m 15 #[.val (.ref t), .val (.int ps), .val (.int v), .val (.int v), .val (.int ps)] [(.int ps), (.ref t)])
    refine Go.st (fun _ => XS.iinc X0.here hx rfl (hb hby d2_15) rfl (l' := #[.val (.ref t), .val (.int ps), .val (.int v), .val (.int v), .val (.int (ps + (1 : Int32)))]) rfl) ?_
    show Go p e below s _ _ _ s₁ (mkF m 18 #[.val (.ref t), .val (.int ps), .val (.int v), .val (.int v), .val (.int (ps + (1 : Int32)))] [(.int ps), (.ref t)])
    refine Go.st (fun _ => XS.iloadN X0.here hx rfl (hb hby d2_18) rfl) ?_
    show Go p e below s _ _ _ s₁ (mkF m 19 #[.val (.ref t), .val (.int ps), .val (.int v), .val (.int v), .val (.int (ps + (1 : Int32)))] [(.int v), (.int ps), (.ref t)])
    refine Go.st (fun _ => XS.bipush X0.here hx rfl (hb hby d2_19)) ?_
    show Go p e below s _ _ _ s₁ (mkF m 21 #[.val (.ref t), .val (.int ps), .val (.int v), .val (.int v), .val (.int (ps + (1 : Int32)))] [(.int (127 : Int32)), (.int v), (.int ps), (.ref t)])
    refine Go.st (fun _ => XS.iand X0.here hx rfl (hb hby d2_21) rfl) ?_
    show Go p e below s _ _ _ s₁ (mkF m 22 #[.val (.ref t), .val (.int ps), .val (.int v), .val (.int v), .val (.int (ps + (1 : Int32)))] [(.int (v &&& (127 : Int32))), (.int ps), (.ref t)])
    refine Go.st (fun _ => XS.sipush X0.here hx rfl (hb hby d2_22)) ?_
    show Go p e below s _ _ _ s₁ (mkF m 25 #[.val (.ref t), .val (.int ps), .val (.int v), .val (.int v), .val (.int (ps + (1 : Int32)))] [(.int (128 : Int32)), (.int (v &&& (127 : Int32))), (.int ps), (.ref t)])
    refine Go.st (fun _ => XS.ior X0.here hx rfl (hb hby d2_25) rfl) ?_
    show Go p e below s _ _ _ s₁ (mkF m 26 #[.val (.ref t), .val (.int ps), .val (.int v), .val (.int v), .val (.int (ps + (1 : Int32)))] [(.int ((v &&& (127 : Int32)) ||| (128 : Int32))), (.int ps), (.ref t)])
    refine Go.st (fun _ => XS.i2b X0.here hx rfl (hb hby d2_26) rfl) ?_
    show Go p e below s _ _ _ s₁ (mkF m 27 #[.val (.ref t), .val (.int ps), .val (.int v), .val (.int v), .val (.int (ps + (1 : Int32)))] [(.int (((v &&& (127 : Int32)) ||| (128 : Int32)).toInt8.toInt32)), (.int ps), (.ref t)])
    obtain ⟨cl_3, Ar_3, q_3, S_3, M_3, H_3, G_3⟩ := id V_t
    have hin_3 : ¬ (ps < 0 ∨ cl_3.slots.size ≤ (ps).toNatClampNeg) := inb_of S_3 (own_rng hp0 (by omega))
    obtain ⟨T_3, h_3, X_3, e_3, W_3, st_3⟩ := stB X0 hx hZ e0 Ar_3 (j := ps) hin_3 (g := (mkF m 27 #[.val (.ref t), .val (.int ps), .val (.int v), .val (.int v), .val (.int (ps + (1 : Int32)))] [(.int (((v &&& (127 : Int32)) ||| (128 : Int32)).toInt8.toInt32)), (.int ps), (.ref t)])) rfl rfl (hb hby d2_27)
    refine Go.st st_3 ?_
    rw [own_nb] at W_3
    have V_3 : Arv Z h_3 t k .byte (10 : Int32) (vs.set (ps).toNatClampNeg (.int (((v &&& (127 : Int32)) ||| (128 : Int32)).toInt8.toInt32))) dv := Arv.set Ar_3 q_3 S_3 M_3 H_3 G_3 (fits_nar_byte _) W_3 (ps).toNatClampNeg rfl (by simp only [List.length_set, hlen]; exact own_nat hp0 (by omega))
    have N_3 := Fr.snoc X_3 N0 g_t
    have K_3 : Keep h0 h_3 [t] := (Keep.refl h0 [t]).wr W_3 (Or.inl (List.mem_of_getElem? (i := 0) rfl))
    have z_3 : n0 ≤ h_3.size := Nat.le_trans Z0 (Nat.le_of_eq W_3.size.symm)
    show Go p e below s _ _ _ T_3 (mkF m 28 #[.val (.ref t), .val (.int ps), .val (.int v), .val (.int v), .val (.int (ps + (1 : Int32)))] [])
    refine Go.st (fun _ => XS.iloadN X_3.here hx rfl (hb hby d2_28) rfl) ?_
    show Go p e below s _ _ _ T_3 (mkF m 29 #[.val (.ref t), .val (.int ps), .val (.int v), .val (.int v), .val (.int (ps + (1 : Int32)))] [(.int v)])
    refine Go.st (fun _ => XS.bipush X_3.here hx rfl (hb hby d2_29)) ?_
    show Go p e below s _ _ _ T_3 (mkF m 31 #[.val (.ref t), .val (.int ps), .val (.int v), .val (.int v), .val (.int (ps + (1 : Int32)))] [(.int (7 : Int32)), (.int v)])
    refine Go.st (fun _ => XS.iushr X_3.here hx rfl (hb hby d2_31) rfl) ?_
    show Go p e below s _ _ _ T_3 (mkF m 32 #[.val (.ref t), .val (.int ps), .val (.int v), .val (.int v), .val (.int (ps + (1 : Int32)))] [(.int ((v.toUInt32 >>> ((7 : Int32) &&& 31).toUInt32).toInt32))])
    refine Go.st (fun _ => XS.istoreN X_3.here hx rfl (hb hby d2_32) rfl (l' := #[.val (.ref t), .val (.int ps), .val (.int v), .val (.int ((v.toUInt32 >>> ((7 : Int32) &&& 31).toUInt32).toInt32)), .val (.int (ps + (1 : Int32)))]) rfl) ?_
    show Go p e below s _ _ _ T_3 (mkF m 33 #[.val (.ref t), .val (.int ps), .val (.int v), .val (.int ((v.toUInt32 >>> ((7 : Int32) &&& 31).toUInt32).toInt32)), .val (.int (ps + (1 : Int32)))] [])
    refine Go.st (fun _ => XS.goto X_3.here hx rfl (pc0 := 33) (pc' := 5) rfl (hb hby d2_33) (by decide) (by decide)) ?_
    show Go p e below s _ _ _ T_3 (mkF m 5 #[.val (.ref t), .val (.int ps), .val (.int v), .val (.int ((v.toUInt32 >>> ((7 : Int32) &&& 31).toUInt32).toInt32)), .val (.int (ps + (1 : Int32)))] [])
    obtain ⟨j_4, hj_4⟩ : ∃ z, z = (ps + (1 : Int32)) := ⟨_, rfl⟩
    rw [← hj_4]
    show Go p e below s _ _ _ T_3 (mkF m 5 #[.val (.ref t), .val (.int ps), .val (.int v), .val (.int ((v.toUInt32 >>> ((7 : Int32) &&& 31).toUInt32).toInt32)), .val (.int j_4)] [])
    obtain ⟨x_5, hx_5⟩ : ∃ z, z = ((v.toUInt32 >>> ((7 : Int32) &&& 31).toUInt32).toInt32) := ⟨_, rfl⟩
    rw [← hx_5]
    show Go p e below s _ _ _ T_3 (mkF m 5 #[.val (.ref t), .val (.int ps), .val (.int v), .val (.int x_5), .val (.int j_4)] [])
    have hp_6 : j_4.toInt = ps.toInt + 1 := by have q := own_inc hj_4 hp0 (by omega); omega
    refine Go.st (fun _ => XS.iloadN X_3.here hx rfl (hb hby d2_5) rfl) ?_
    show Go p e below s _ _ _ T_3 (mkF m 6 #[.val (.ref t), .val (.int ps), .val (.int v), .val (.int x_5), .val (.int j_4)] [(.int x_5)])
    refine Go.st (fun _ => XS.bipush X_3.here hx rfl (hb hby d2_6)) ?_
    show Go p e below s _ _ _ T_3 (mkF m 8 #[.val (.ref t), .val (.int ps), .val (.int v), .val (.int x_5), .val (.int j_4)] [(.int (-128 : Int32)), (.int x_5)])
    refine Go.st (fun _ => XS.iand X_3.here hx rfl (hb hby d2_8) rfl) ?_
    show Go p e below s _ _ _ T_3 (mkF m 9 #[.val (.ref t), .val (.int ps), .val (.int v), .val (.int x_5), .val (.int j_4)] [(.int (x_5 &&& (-128 : Int32)))])
    by_cases hc_7 : (x_5 &&& (-128 : Int32)) = (0 : Int32)
    · refine Go.st (fun _ => XS.ifYes X_3.here hx rfl (pc0 := 9) (pc' := 36) rfl (hb hby d2_9) rfl ((if0 _ _).trans (teq hc_7).1) (by decide) (by decide)) ?_
      show Go p e below s _ _ _ T_3 (mkF m 36 #[.val (.ref t), .val (.int ps), .val (.int v), .val (.int x_5), .val (.int j_4)] [])
      refine Go.st (fun _ => XS.aloadN X_3.here hx rfl (hb hby d2_36) rfl rfl) ?_
      show Go p e below s _ _ _ T_3 (mkF m 37 #[.val (.ref t), .val (.int ps), .val (.int v), .val (.int x_5), .val (.int j_4)] [(.ref t)])
      refine Go.st (fun _ => XS.iload X_3.here hx rfl (hb hby d2_37) rfl) ?_
      show Go p e below s _ _ _ T_3 (mkF m 39 #[.val (.ref t), .val (.int ps), .val (.int v), .val (.int x_5), .val (.int j_4)] [(.int j_4), (.ref t)])
      refine Go.st (fun _ => XS.iinc X_3.here hx rfl (hb hby d2_39) rfl (l' := #[.val (.ref t), .val (.int ps), .val (.int v), .val (.int x_5), .val (.int (j_4 + (1 : Int32)))]) rfl) ?_
      show Go p e below s _ _ _ T_3 (mkF m 42 #[.val (.ref t), .val (.int ps), .val (.int v), .val (.int x_5), .val (.int (j_4 + (1 : Int32)))] [(.int j_4), (.ref t)])
      refine Go.st (fun _ => XS.iloadN X_3.here hx rfl (hb hby d2_42) rfl) ?_
      show Go p e below s _ _ _ T_3 (mkF m 43 #[.val (.ref t), .val (.int ps), .val (.int v), .val (.int x_5), .val (.int (j_4 + (1 : Int32)))] [(.int x_5), (.int j_4), (.ref t)])
      refine Go.st (fun _ => XS.i2b X_3.here hx rfl (hb hby d2_43) rfl) ?_
      show Go p e below s _ _ _ T_3 (mkF m 44 #[.val (.ref t), .val (.int ps), .val (.int v), .val (.int x_5), .val (.int (j_4 + (1 : Int32)))] [(.int (x_5.toInt8.toInt32)), (.int j_4), (.ref t)])
      obtain ⟨cl_8, Ar_8, q_8, S_8, M_8, H_8, G_8⟩ := id V_3
      have hin_8 : ¬ (j_4 < 0 ∨ cl_8.slots.size ≤ (j_4).toNatClampNeg) := inb_of S_8 (own_rng hp_6 (by omega))
      obtain ⟨T_8, h_8, X_8, e_8, W_8, st_8⟩ := stB X_3 hx hZ e_3 Ar_8 (j := j_4) hin_8 (g := (mkF m 44 #[.val (.ref t), .val (.int ps), .val (.int v), .val (.int x_5), .val (.int (j_4 + (1 : Int32)))] [(.int (x_5.toInt8.toInt32)), (.int j_4), (.ref t)])) rfl rfl (hb hby d2_44)
      refine Go.st st_8 ?_
      rw [own_nb] at W_8
      have V_8 : Arv Z h_8 t k .byte (10 : Int32) ((vs.set (ps).toNatClampNeg (.int (((v &&& (127 : Int32)) ||| (128 : Int32)).toInt8.toInt32))).set (j_4).toNatClampNeg (.int (x_5.toInt8.toInt32))) dv := Arv.set Ar_8 q_8 S_8 M_8 H_8 G_8 (fits_nar_byte _) W_8 (j_4).toNatClampNeg rfl (by simp only [List.length_set, hlen]; exact own_nat hp_6 (by omega))
      have N_8 := Fr.snoc X_8 N_3 g_t
      have K_8 : Keep h0 h_8 [t] := K_3.wr W_8 (Or.inl (List.mem_of_getElem? (i := 0) rfl))
      have z_8 : n0 ≤ h_8.size := Nat.le_trans z_3 (Nat.le_of_eq W_8.size.symm)
      show Go p e below s _ _ _ T_8 (mkF m 45 #[.val (.ref t), .val (.int ps), .val (.int v), .val (.int x_5), .val (.int (j_4 + (1 : Int32)))] [])
      refine Go.st (fun _ => XS.iload X_8.here hx rfl (hb hby d2_45) rfl) ?_
      show Go p e below s _ _ _ T_8 (mkF m 47 #[.val (.ref t), .val (.int ps), .val (.int v), .val (.int x_5), .val (.int (j_4 + (1 : Int32)))] [(.int (j_4 + (1 : Int32)))])
      exact Go.retI X_8 hx hlk Bd.returns (hb hby d2_47) (by rw [e_8]; exact ⟨(by rw [own_end_f hc_1, ← hx_5, ← hj_4, own_end_t hc_7]), N_8, K_8, (by rw [own_put_f hc_1, ← hx_5, ← hj_4, own_put_t hc_7]; exact V_8)⟩) (by decide) (by decide)
    · refine Go.st (fun _ => XS.ifNo X_3.here hx rfl (hb hby d2_9) rfl ((if0 _ _).trans (feq hc_7).1)) ?_
      show Go p e below s _ _ _ T_3 (mkF m 12 #[.val (.ref t), .val (.int ps), .val (.int v), .val (.int x_5), .val (.int j_4)] [])
      refine Go.st (fun _ => XS.aloadN X_3.here hx rfl (hb hby d2_12) rfl rfl) ?_
      show Go p e below s _ _ _ T_3 (mkF m 13 #[.val (.ref t), .val (.int ps), .val (.int v), .val (.int x_5), .val (.int j_4)] [(.ref t)])
      refine Go.st (fun _ => XS.iload X_3.here hx rfl (hb hby d2_13) rfl) ?_
      show Go p e below s _ _ _ T_3 (mkF m 15 #[.val (.ref t), .val (.int ps), .val (.int v), .val (.int x_5), .val (.int j_4)] [(.int j_4), (.ref t)])
      refine Go.st (fun _ => XS.iinc X_3.here hx rfl (hb hby d2_15) rfl (l' := #[.val (.ref t), .val (.int ps), .val (.int v), .val (.int x_5), .val (.int (j_4 + (1 : Int32)))]) rfl) ?_
      show Go p e below s _ _ _ T_3 (mkF m 18 #[.val (.ref t), .val (.int ps), .val (.int v), .val (.int x_5), .val (.int (j_4 + (1 : Int32)))] [(.int j_4), (.ref t)])
      refine Go.st (fun _ => XS.iloadN X_3.here hx rfl (hb hby d2_18) rfl) ?_
      show Go p e below s _ _ _ T_3 (mkF m 19 #[.val (.ref t), .val (.int ps), .val (.int v), .val (.int x_5), .val (.int (j_4 + (1 : Int32)))] [(.int x_5), (.int j_4), (.ref t)])
      refine Go.st (fun _ => XS.bipush X_3.here hx rfl (hb hby d2_19)) ?_
      show Go p e below s _ _ _ T_3 (mkF m 21 #[.val (.ref t), .val (.int ps), .val (.int v), .val (.int x_5), .val (.int (j_4 + (1 : Int32)))] [(.int (127 : Int32)), (.int x_5), (.int j_4), (.ref t)])
      refine Go.st (fun _ => XS.iand X_3.here hx rfl (hb hby d2_21) rfl) ?_
      show Go p e below s _ _ _ T_3 (mkF m 22 #[.val (.ref t), .val (.int ps), .val (.int v), .val (.int x_5), .val (.int (j_4 + (1 : Int32)))] [(.int (x_5 &&& (127 : Int32))), (.int j_4), (.ref t)])
      refine Go.st (fun _ => XS.sipush X_3.here hx rfl (hb hby d2_22)) ?_
      show Go p e below s _ _ _ T_3 (mkF m 25 #[.val (.ref t), .val (.int ps), .val (.int v), .val (.int x_5), .val (.int (j_4 + (1 : Int32)))] [(.int (128 : Int32)), (.int (x_5 &&& (127 : Int32))), (.int j_4), (.ref t)])
      refine Go.st (fun _ => XS.ior X_3.here hx rfl (hb hby d2_25) rfl) ?_
      show Go p e below s _ _ _ T_3 (mkF m 26 #[.val (.ref t), .val (.int ps), .val (.int v), .val (.int x_5), .val (.int (j_4 + (1 : Int32)))] [(.int ((x_5 &&& (127 : Int32)) ||| (128 : Int32))), (.int j_4), (.ref t)])
      refine Go.st (fun _ => XS.i2b X_3.here hx rfl (hb hby d2_26) rfl) ?_
      show Go p e below s _ _ _ T_3 (mkF m 27 #[.val (.ref t), .val (.int ps), .val (.int v), .val (.int x_5), .val (.int (j_4 + (1 : Int32)))] [(.int (((x_5 &&& (127 : Int32)) ||| (128 : Int32)).toInt8.toInt32)), (.int j_4), (.ref t)])
      obtain ⟨cl_9, Ar_9, q_9, S_9, M_9, H_9, G_9⟩ := id V_3
      have hin_9 : ¬ (j_4 < 0 ∨ cl_9.slots.size ≤ (j_4).toNatClampNeg) := inb_of S_9 (own_rng hp_6 (by omega))
      obtain ⟨T_9, h_9, X_9, e_9, W_9, st_9⟩ := stB X_3 hx hZ e_3 Ar_9 (j := j_4) hin_9 (g := (mkF m 27 #[.val (.ref t), .val (.int ps), .val (.int v), .val (.int x_5), .val (.int (j_4 + (1 : Int32)))] [(.int (((x_5 &&& (127 : Int32)) ||| (128 : Int32)).toInt8.toInt32)), (.int j_4), (.ref t)])) rfl rfl (hb hby d2_27)
      refine Go.st st_9 ?_
      rw [own_nb] at W_9
      have V_9 : Arv Z h_9 t k .byte (10 : Int32) ((vs.set (ps).toNatClampNeg (.int (((v &&& (127 : Int32)) ||| (128 : Int32)).toInt8.toInt32))).set (j_4).toNatClampNeg (.int (((x_5 &&& (127 : Int32)) ||| (128 : Int32)).toInt8.toInt32))) dv := Arv.set Ar_9 q_9 S_9 M_9 H_9 G_9 (fits_nar_byte _) W_9 (j_4).toNatClampNeg rfl (by simp only [List.length_set, hlen]; exact own_nat hp_6 (by omega))
      have N_9 := Fr.snoc X_9 N_3 g_t
      have K_9 : Keep h0 h_9 [t] := K_3.wr W_9 (Or.inl (List.mem_of_getElem? (i := 0) rfl))
      have z_9 : n0 ≤ h_9.size := Nat.le_trans z_3 (Nat.le_of_eq W_9.size.symm)
      show Go p e below s _ _ _ T_9 (mkF m 28 #[.val (.ref t), .val (.int ps), .val (.int v), .val (.int x_5), .val (.int (j_4 + (1 : Int32)))] [])
      refine Go.st (fun _ => XS.iloadN X_9.here hx rfl (hb hby d2_28) rfl) ?_
      show Go p e below s _ _ _ T_9 (mkF m 29 #[.val (.ref t), .val (.int ps), .val (.int v), .val (.int x_5), .val (.int (j_4 + (1 : Int32)))] [(.int x_5)])
      refine Go.st (fun _ => XS.bipush X_9.here hx rfl (hb hby d2_29)) ?_
      show Go p e below s _ _ _ T_9 (mkF m 31 #[.val (.ref t), .val (.int ps), .val (.int v), .val (.int x_5), .val (.int (j_4 + (1 : Int32)))] [(.int (7 : Int32)), (.int x_5)])
      refine Go.st (fun _ => XS.iushr X_9.here hx rfl (hb hby d2_31) rfl) ?_
      show Go p e below s _ _ _ T_9 (mkF m 32 #[.val (.ref t), .val (.int ps), .val (.int v), .val (.int x_5), .val (.int (j_4 + (1 : Int32)))] [(.int ((x_5.toUInt32 >>> ((7 : Int32) &&& 31).toUInt32).toInt32))])
      refine Go.st (fun _ => XS.istoreN X_9.here hx rfl (hb hby d2_32) rfl (l' := #[.val (.ref t), .val (.int ps), .val (.int v), .val (.int ((x_5.toUInt32 >>> ((7 : Int32) &&& 31).toUInt32).toInt32)), .val (.int (j_4 + (1 : Int32)))]) rfl) ?_
      show Go p e below s _ _ _ T_9 (mkF m 33 #[.val (.ref t), .val (.int ps), .val (.int v), .val (.int ((x_5.toUInt32 >>> ((7 : Int32) &&& 31).toUInt32).toInt32)), .val (.int (j_4 + (1 : Int32)))] [])
      refine Go.st (fun _ => XS.goto X_9.here hx rfl (pc0 := 33) (pc' := 5) rfl (hb hby d2_33) (by decide) (by decide)) ?_
      show Go p e below s _ _ _ T_9 (mkF m 5 #[.val (.ref t), .val (.int ps), .val (.int v), .val (.int ((x_5.toUInt32 >>> ((7 : Int32) &&& 31).toUInt32).toInt32)), .val (.int (j_4 + (1 : Int32)))] [])
      obtain ⟨j_10, hj_10⟩ : ∃ z, z = (j_4 + (1 : Int32)) := ⟨_, rfl⟩
      rw [← hj_10]
      show Go p e below s _ _ _ T_9 (mkF m 5 #[.val (.ref t), .val (.int ps), .val (.int v), .val (.int ((x_5.toUInt32 >>> ((7 : Int32) &&& 31).toUInt32).toInt32)), .val (.int j_10)] [])
      obtain ⟨x_11, hx_11⟩ : ∃ z, z = ((x_5.toUInt32 >>> ((7 : Int32) &&& 31).toUInt32).toInt32) := ⟨_, rfl⟩
      rw [← hx_11]
      show Go p e below s _ _ _ T_9 (mkF m 5 #[.val (.ref t), .val (.int ps), .val (.int v), .val (.int x_11), .val (.int j_10)] [])
      have hp_12 : j_10.toInt = ps.toInt + 2 := by have q := own_inc hj_10 hp_6 (by omega); omega
      refine Go.st (fun _ => XS.iloadN X_9.here hx rfl (hb hby d2_5) rfl) ?_
      show Go p e below s _ _ _ T_9 (mkF m 6 #[.val (.ref t), .val (.int ps), .val (.int v), .val (.int x_11), .val (.int j_10)] [(.int x_11)])
      refine Go.st (fun _ => XS.bipush X_9.here hx rfl (hb hby d2_6)) ?_
      show Go p e below s _ _ _ T_9 (mkF m 8 #[.val (.ref t), .val (.int ps), .val (.int v), .val (.int x_11), .val (.int j_10)] [(.int (-128 : Int32)), (.int x_11)])
      refine Go.st (fun _ => XS.iand X_9.here hx rfl (hb hby d2_8) rfl) ?_
      show Go p e below s _ _ _ T_9 (mkF m 9 #[.val (.ref t), .val (.int ps), .val (.int v), .val (.int x_11), .val (.int j_10)] [(.int (x_11 &&& (-128 : Int32)))])
      by_cases hc_13 : (x_11 &&& (-128 : Int32)) = (0 : Int32)
      · refine Go.st (fun _ => XS.ifYes X_9.here hx rfl (pc0 := 9) (pc' := 36) rfl (hb hby d2_9) rfl ((if0 _ _).trans (teq hc_13).1) (by decide) (by decide)) ?_
        show Go p e below s _ _ _ T_9 (mkF m 36 #[.val (.ref t), .val (.int ps), .val (.int v), .val (.int x_11), .val (.int j_10)] [])
        refine Go.st (fun _ => XS.aloadN X_9.here hx rfl (hb hby d2_36) rfl rfl) ?_
        show Go p e below s _ _ _ T_9 (mkF m 37 #[.val (.ref t), .val (.int ps), .val (.int v), .val (.int x_11), .val (.int j_10)] [(.ref t)])
        refine Go.st (fun _ => XS.iload X_9.here hx rfl (hb hby d2_37) rfl) ?_
        show Go p e below s _ _ _ T_9 (mkF m 39 #[.val (.ref t), .val (.int ps), .val (.int v), .val (.int x_11), .val (.int j_10)] [(.int j_10), (.ref t)])
        refine Go.st (fun _ => XS.iinc X_9.here hx rfl (hb hby d2_39) rfl (l' := #[.val (.ref t), .val (.int ps), .val (.int v), .val (.int x_11), .val (.int (j_10 + (1 : Int32)))]) rfl) ?_
        show Go p e below s _ _ _ T_9 (mkF m 42 #[.val (.ref t), .val (.int ps), .val (.int v), .val (.int x_11), .val (.int (j_10 + (1 : Int32)))] [(.int j_10), (.ref t)])
        refine Go.st (fun _ => XS.iloadN X_9.here hx rfl (hb hby d2_42) rfl) ?_
        show Go p e below s _ _ _ T_9 (mkF m 43 #[.val (.ref t), .val (.int ps), .val (.int v), .val (.int x_11), .val (.int (j_10 + (1 : Int32)))] [(.int x_11), (.int j_10), (.ref t)])
        refine Go.st (fun _ => XS.i2b X_9.here hx rfl (hb hby d2_43) rfl) ?_
        show Go p e below s _ _ _ T_9 (mkF m 44 #[.val (.ref t), .val (.int ps), .val (.int v), .val (.int x_11), .val (.int (j_10 + (1 : Int32)))] [(.int (x_11.toInt8.toInt32)), (.int j_10), (.ref t)])
        obtain ⟨cl_14, Ar_14, q_14, S_14, M_14, H_14, G_14⟩ := id V_9
        have hin_14 : ¬ (j_10 < 0 ∨ cl_14.slots.size ≤ (j_10).toNatClampNeg) := inb_of S_14 (own_rng hp_12 (by omega))
        obtain ⟨T_14, h_14, X_14, e_14, W_14, st_14⟩ := stB X_9 hx hZ e_9 Ar_14 (j := j_10) hin_14 (g := (mkF m 44 #[.val (.ref t), .val (.int ps), .val (.int v), .val (.int x_11), .val (.int (j_10 + (1 : Int32)))] [(.int (x_11.toInt8.toInt32)), (.int j_10), (.ref t)])) rfl rfl (hb hby d2_44)
        refine Go.st st_14 ?_
        rw [own_nb] at W_14
        have V_14 : Arv Z h_14 t k .byte (10 : Int32) (((vs.set (ps).toNatClampNeg (.int (((v &&& (127 : Int32)) ||| (128 : Int32)).toInt8.toInt32))).set (j_4).toNatClampNeg (.int (((x_5 &&& (127 : Int32)) ||| (128 : Int32)).toInt8.toInt32))).set (j_10).toNatClampNeg (.int (x_11.toInt8.toInt32))) dv := Arv.set Ar_14 q_14 S_14 M_14 H_14 G_14 (fits_nar_byte _) W_14 (j_10).toNatClampNeg rfl (by simp only [List.length_set, hlen]; exact own_nat hp_12 (by omega))
        have N_14 := Fr.snoc X_14 N_9 g_t
        have K_14 : Keep h0 h_14 [t] := K_9.wr W_14 (Or.inl (List.mem_of_getElem? (i := 0) rfl))
        have z_14 : n0 ≤ h_14.size := Nat.le_trans z_9 (Nat.le_of_eq W_14.size.symm)
        show Go p e below s _ _ _ T_14 (mkF m 45 #[.val (.ref t), .val (.int ps), .val (.int v), .val (.int x_11), .val (.int (j_10 + (1 : Int32)))] [])
        refine Go.st (fun _ => XS.iload X_14.here hx rfl (hb hby d2_45) rfl) ?_
        show Go p e below s _ _ _ T_14 (mkF m 47 #[.val (.ref t), .val (.int ps), .val (.int v), .val (.int x_11), .val (.int (j_10 + (1 : Int32)))] [(.int (j_10 + (1 : Int32)))])
        exact Go.retI X_14 hx hlk Bd.returns (hb hby d2_47) (by rw [e_14]; exact ⟨(by rw [own_end_f hc_1, ← hx_5, ← hj_4, own_end_f hc_7, ← hx_11, ← hj_10, own_end_t hc_13]), N_14, K_14, (by rw [own_put_f hc_1, ← hx_5, ← hj_4, own_put_f hc_7, ← hx_11, ← hj_10, own_put_t hc_13]; exact V_14)⟩) (by decide) (by decide)
      · refine Go.st (fun _ => XS.ifNo X_9.here hx rfl (hb hby d2_9) rfl ((if0 _ _).trans (feq hc_13).1)) ?_
        show Go p e below s _ _ _ T_9 (mkF m 12 #[.val (.ref t), .val (.int ps), .val (.int v), .val (.int x_11), .val (.int j_10)] [])
        refine Go.st (fun _ => XS.aloadN X_9.here hx rfl (hb hby d2_12) rfl rfl) ?_
        show Go p e below s _ _ _ T_9 (mkF m 13 #[.val (.ref t), .val (.int ps), .val (.int v), .val (.int x_11), .val (.int j_10)] [(.ref t)])
        refine Go.st (fun _ => XS.iload X_9.here hx rfl (hb hby d2_13) rfl) ?_
        show Go p e below s _ _ _ T_9 (mkF m 15 #[.val (.ref t), .val (.int ps), .val (.int v), .val (.int x_11), .val (.int j_10)] [(.int j_10), (.ref t)])
        refine Go.st (fun _ => XS.iinc X_9.here hx rfl (hb hby d2_15) rfl (l' := #[.val (.ref t), .val (.int ps), .val (.int v), .val (.int x_11), .val (.int (j_10 + (1 : Int32)))]) rfl) ?_
        show Go p e below s _ _ _ T_9 (mkF m 18 #[.val (.ref t), .val (.int ps), .val (.int v), .val (.int x_11), .val (.int (j_10 + (1 : Int32)))] [(.int j_10), (.ref t)])
        refine Go.st (fun _ => XS.iloadN X_9.here hx rfl (hb hby d2_18) rfl) ?_
        show Go p e below s _ _ _ T_9 (mkF m 19 #[.val (.ref t), .val (.int ps), .val (.int v), .val (.int x_11), .val (.int (j_10 + (1 : Int32)))] [(.int x_11), (.int j_10), (.ref t)])
        refine Go.st (fun _ => XS.bipush X_9.here hx rfl (hb hby d2_19)) ?_
        show Go p e below s _ _ _ T_9 (mkF m 21 #[.val (.ref t), .val (.int ps), .val (.int v), .val (.int x_11), .val (.int (j_10 + (1 : Int32)))] [(.int (127 : Int32)), (.int x_11), (.int j_10), (.ref t)])
        refine Go.st (fun _ => XS.iand X_9.here hx rfl (hb hby d2_21) rfl) ?_
        show Go p e below s _ _ _ T_9 (mkF m 22 #[.val (.ref t), .val (.int ps), .val (.int v), .val (.int x_11), .val (.int (j_10 + (1 : Int32)))] [(.int (x_11 &&& (127 : Int32))), (.int j_10), (.ref t)])
        refine Go.st (fun _ => XS.sipush X_9.here hx rfl (hb hby d2_22)) ?_
        show Go p e below s _ _ _ T_9 (mkF m 25 #[.val (.ref t), .val (.int ps), .val (.int v), .val (.int x_11), .val (.int (j_10 + (1 : Int32)))] [(.int (128 : Int32)), (.int (x_11 &&& (127 : Int32))), (.int j_10), (.ref t)])
        refine Go.st (fun _ => XS.ior X_9.here hx rfl (hb hby d2_25) rfl) ?_
        show Go p e below s _ _ _ T_9 (mkF m 26 #[.val (.ref t), .val (.int ps), .val (.int v), .val (.int x_11), .val (.int (j_10 + (1 : Int32)))] [(.int ((x_11 &&& (127 : Int32)) ||| (128 : Int32))), (.int j_10), (.ref t)])
        refine Go.st (fun _ => XS.i2b X_9.here hx rfl (hb hby d2_26) rfl) ?_
        show Go p e below s _ _ _ T_9 (mkF m 27 #[.val (.ref t), .val (.int ps), .val (.int v), .val (.int x_11), .val (.int (j_10 + (1 : Int32)))] [(.int (((x_11 &&& (127 : Int32)) ||| (128 : Int32)).toInt8.toInt32)), (.int j_10), (.ref t)])
        obtain ⟨cl_15, Ar_15, q_15, S_15, M_15, H_15, G_15⟩ := id V_9
        have hin_15 : ¬ (j_10 < 0 ∨ cl_15.slots.size ≤ (j_10).toNatClampNeg) := inb_of S_15 (own_rng hp_12 (by omega))
        obtain ⟨T_15, h_15, X_15, e_15, W_15, st_15⟩ := stB X_9 hx hZ e_9 Ar_15 (j := j_10) hin_15 (g := (mkF m 27 #[.val (.ref t), .val (.int ps), .val (.int v), .val (.int x_11), .val (.int (j_10 + (1 : Int32)))] [(.int (((x_11 &&& (127 : Int32)) ||| (128 : Int32)).toInt8.toInt32)), (.int j_10), (.ref t)])) rfl rfl (hb hby d2_27)
        refine Go.st st_15 ?_
        rw [own_nb] at W_15
        have V_15 : Arv Z h_15 t k .byte (10 : Int32) (((vs.set (ps).toNatClampNeg (.int (((v &&& (127 : Int32)) ||| (128 : Int32)).toInt8.toInt32))).set (j_4).toNatClampNeg (.int (((x_5 &&& (127 : Int32)) ||| (128 : Int32)).toInt8.toInt32))).set (j_10).toNatClampNeg (.int (((x_11 &&& (127 : Int32)) ||| (128 : Int32)).toInt8.toInt32))) dv := Arv.set Ar_15 q_15 S_15 M_15 H_15 G_15 (fits_nar_byte _) W_15 (j_10).toNatClampNeg rfl (by simp only [List.length_set, hlen]; exact own_nat hp_12 (by omega))
        have N_15 := Fr.snoc X_15 N_9 g_t
        have K_15 : Keep h0 h_15 [t] := K_9.wr W_15 (Or.inl (List.mem_of_getElem? (i := 0) rfl))
        have z_15 : n0 ≤ h_15.size := Nat.le_trans z_9 (Nat.le_of_eq W_15.size.symm)
        show Go p e below s _ _ _ T_15 (mkF m 28 #[.val (.ref t), .val (.int ps), .val (.int v), .val (.int x_11), .val (.int (j_10 + (1 : Int32)))] [])
        refine Go.st (fun _ => XS.iloadN X_15.here hx rfl (hb hby d2_28) rfl) ?_
        show Go p e below s _ _ _ T_15 (mkF m 29 #[.val (.ref t), .val (.int ps), .val (.int v), .val (.int x_11), .val (.int (j_10 + (1 : Int32)))] [(.int x_11)])
        refine Go.st (fun _ => XS.bipush X_15.here hx rfl (hb hby d2_29)) ?_
        show Go p e below s _ _ _ T_15 (mkF m 31 #[.val (.ref t), .val (.int ps), .val (.int v), .val (.int x_11), .val (.int (j_10 + (1 : Int32)))] [(.int (7 : Int32)), (.int x_11)])
        refine Go.st (fun _ => XS.iushr X_15.here hx rfl (hb hby d2_31) rfl) ?_
        show Go p e below s _ _ _ T_15 (mkF m 32 #[.val (.ref t), .val (.int ps), .val (.int v), .val (.int x_11), .val (.int (j_10 + (1 : Int32)))] [(.int ((x_11.toUInt32 >>> ((7 : Int32) &&& 31).toUInt32).toInt32))])
        refine Go.st (fun _ => XS.istoreN X_15.here hx rfl (hb hby d2_32) rfl (l' := #[.val (.ref t), .val (.int ps), .val (.int v), .val (.int ((x_11.toUInt32 >>> ((7 : Int32) &&& 31).toUInt32).toInt32)), .val (.int (j_10 + (1 : Int32)))]) rfl) ?_
        show Go p e below s _ _ _ T_15 (mkF m 33 #[.val (.ref t), .val (.int ps), .val (.int v), .val (.int ((x_11.toUInt32 >>> ((7 : Int32) &&& 31).toUInt32).toInt32)), .val (.int (j_10 + (1 : Int32)))] [])
        refine Go.st (fun _ => XS.goto X_15.here hx rfl (pc0 := 33) (pc' := 5) rfl (hb hby d2_33) (by decide) (by decide)) ?_
        show Go p e below s _ _ _ T_15 (mkF m 5 #[.val (.ref t), .val (.int ps), .val (.int v), .val (.int ((x_11.toUInt32 >>> ((7 : Int32) &&& 31).toUInt32).toInt32)), .val (.int (j_10 + (1 : Int32)))] [])
        obtain ⟨j_16, hj_16⟩ : ∃ z, z = (j_10 + (1 : Int32)) := ⟨_, rfl⟩
        rw [← hj_16]
        show Go p e below s _ _ _ T_15 (mkF m 5 #[.val (.ref t), .val (.int ps), .val (.int v), .val (.int ((x_11.toUInt32 >>> ((7 : Int32) &&& 31).toUInt32).toInt32)), .val (.int j_16)] [])
        obtain ⟨x_17, hx_17⟩ : ∃ z, z = ((x_11.toUInt32 >>> ((7 : Int32) &&& 31).toUInt32).toInt32) := ⟨_, rfl⟩
        rw [← hx_17]
        show Go p e below s _ _ _ T_15 (mkF m 5 #[.val (.ref t), .val (.int ps), .val (.int v), .val (.int x_17), .val (.int j_16)] [])
        have hp_18 : j_16.toInt = ps.toInt + 3 := by have q := own_inc hj_16 hp_12 (by omega); omega
        refine Go.st (fun _ => XS.iloadN X_15.here hx rfl (hb hby d2_5) rfl) ?_
        show Go p e below s _ _ _ T_15 (mkF m 6 #[.val (.ref t), .val (.int ps), .val (.int v), .val (.int x_17), .val (.int j_16)] [(.int x_17)])
        refine Go.st (fun _ => XS.bipush X_15.here hx rfl (hb hby d2_6)) ?_
        show Go p e below s _ _ _ T_15 (mkF m 8 #[.val (.ref t), .val (.int ps), .val (.int v), .val (.int x_17), .val (.int j_16)] [(.int (-128 : Int32)), (.int x_17)])
        refine Go.st (fun _ => XS.iand X_15.here hx rfl (hb hby d2_8) rfl) ?_
        show Go p e below s _ _ _ T_15 (mkF m 9 #[.val (.ref t), .val (.int ps), .val (.int v), .val (.int x_17), .val (.int j_16)] [(.int (x_17 &&& (-128 : Int32)))])
        by_cases hc_19 : (x_17 &&& (-128 : Int32)) = (0 : Int32)
        · refine Go.st (fun _ => XS.ifYes X_15.here hx rfl (pc0 := 9) (pc' := 36) rfl (hb hby d2_9) rfl ((if0 _ _).trans (teq hc_19).1) (by decide) (by decide)) ?_
          show Go p e below s _ _ _ T_15 (mkF m 36 #[.val (.ref t), .val (.int ps), .val (.int v), .val (.int x_17), .val (.int j_16)] [])
          refine Go.st (fun _ => XS.aloadN X_15.here hx rfl (hb hby d2_36) rfl rfl) ?_
          show Go p e below s _ _ _ T_15 (mkF m 37 #[.val (.ref t), .val (.int ps), .val (.int v), .val (.int x_17), .val (.int j_16)] [(.ref t)])
          refine Go.st (fun _ => XS.iload X_15.here hx rfl (hb hby d2_37) rfl) ?_
          show Go p e below s _ _ _ T_15 (mkF m 39 #[.val (.ref t), .val (.int ps), .val (.int v), .val (.int x_17), .val (.int j_16)] [(.int j_16), (.ref t)])
          refine Go.st (fun _ => XS.iinc X_15.here hx rfl (hb hby d2_39) rfl (l' := #[.val (.ref t), .val (.int ps), .val (.int v), .val (.int x_17), .val (.int (j_16 + (1 : Int32)))]) rfl) ?_
          show Go p e below s _ _ _ T_15 (mkF m 42 #[.val (.ref t), .val (.int ps), .val (.int v), .val (.int x_17), .val (.int (j_16 + (1 : Int32)))] [(.int j_16), (.ref t)])
          refine Go.st (fun _ => XS.iloadN X_15.here hx rfl (hb hby d2_42) rfl) ?_
          show Go p e below s _ _ _ T_15 (mkF m 43 #[.val (.ref t), .val (.int ps), .val (.int v), .val (.int x_17), .val (.int (j_16 + (1 : Int32)))] [(.int x_17), (.int j_16), (.ref t)])
          refine Go.st (fun _ => XS.i2b X_15.here hx rfl (hb hby d2_43) rfl) ?_
          show Go p e below s _ _ _ T_15 (mkF m 44 #[.val (.ref t), .val (.int ps), .val (.int v), .val (.int x_17), .val (.int (j_16 + (1 : Int32)))] [(.int (x_17.toInt8.toInt32)), (.int j_16), (.ref t)])
          obtain ⟨cl_20, Ar_20, q_20, S_20, M_20, H_20, G_20⟩ := id V_15
          have hin_20 : ¬ (j_16 < 0 ∨ cl_20.slots.size ≤ (j_16).toNatClampNeg) := inb_of S_20 (own_rng hp_18 (by omega))
          obtain ⟨T_20, h_20, X_20, e_20, W_20, st_20⟩ := stB X_15 hx hZ e_15 Ar_20 (j := j_16) hin_20 (g := (mkF m 44 #[.val (.ref t), .val (.int ps), .val (.int v), .val (.int x_17), .val (.int (j_16 + (1 : Int32)))] [(.int (x_17.toInt8.toInt32)), (.int j_16), (.ref t)])) rfl rfl (hb hby d2_44)
          refine Go.st st_20 ?_
          rw [own_nb] at W_20
          have V_20 : Arv Z h_20 t k .byte (10 : Int32) ((((vs.set (ps).toNatClampNeg (.int (((v &&& (127 : Int32)) ||| (128 : Int32)).toInt8.toInt32))).set (j_4).toNatClampNeg (.int (((x_5 &&& (127 : Int32)) ||| (128 : Int32)).toInt8.toInt32))).set (j_10).toNatClampNeg (.int (((x_11 &&& (127 : Int32)) ||| (128 : Int32)).toInt8.toInt32))).set (j_16).toNatClampNeg (.int (x_17.toInt8.toInt32))) dv := Arv.set Ar_20 q_20 S_20 M_20 H_20 G_20 (fits_nar_byte _) W_20 (j_16).toNatClampNeg rfl (by simp only [List.length_set, hlen]; exact own_nat hp_18 (by omega))
          have N_20 := Fr.snoc X_20 N_15 g_t
          have K_20 : Keep h0 h_20 [t] := K_15.wr W_20 (Or.inl (List.mem_of_getElem? (i := 0) rfl))
          have z_20 : n0 ≤ h_20.size := Nat.le_trans z_15 (Nat.le_of_eq W_20.size.symm)
          show Go p e below s _ _ _ T_20 (mkF m 45 #[.val (.ref t), .val (.int ps), .val (.int v), .val (.int x_17), .val (.int (j_16 + (1 : Int32)))] [])
          refine Go.st (fun _ => XS.iload X_20.here hx rfl (hb hby d2_45) rfl) ?_
          show Go p e below s _ _ _ T_20 (mkF m 47 #[.val (.ref t), .val (.int ps), .val (.int v), .val (.int x_17), .val (.int (j_16 + (1 : Int32)))] [(.int (j_16 + (1 : Int32)))])
          exact Go.retI X_20 hx hlk Bd.returns (hb hby d2_47) (by rw [e_20]; exact ⟨(by rw [own_end_f hc_1, ← hx_5, ← hj_4, own_end_f hc_7, ← hx_11, ← hj_10, own_end_f hc_13, ← hx_17, ← hj_16, own_end_t hc_19]), N_20, K_20, (by rw [own_put_f hc_1, ← hx_5, ← hj_4, own_put_f hc_7, ← hx_11, ← hj_10, own_put_f hc_13, ← hx_17, ← hj_16, own_put_t hc_19]; exact V_20)⟩) (by decide) (by decide)
        · refine Go.st (fun _ => XS.ifNo X_15.here hx rfl (hb hby d2_9) rfl ((if0 _ _).trans (feq hc_19).1)) ?_
          show Go p e below s _ _ _ T_15 (mkF m 12 #[.val (.ref t), .val (.int ps), .val (.int v), .val (.int x_17), .val (.int j_16)] [])
          refine Go.st (fun _ => XS.aloadN X_15.here hx rfl (hb hby d2_12) rfl rfl) ?_
          show Go p e below s _ _ _ T_15 (mkF m 13 #[.val (.ref t), .val (.int ps), .val (.int v), .val (.int x_17), .val (.int j_16)] [(.ref t)])
          refine Go.st (fun _ => XS.iload X_15.here hx rfl (hb hby d2_13) rfl) ?_
          show Go p e below s _ _ _ T_15 (mkF m 15 #[.val (.ref t), .val (.int ps), .val (.int v), .val (.int x_17), .val (.int j_16)] [(.int j_16), (.ref t)])
          refine Go.st (fun _ => XS.iinc X_15.here hx rfl (hb hby d2_15) rfl (l' := #[.val (.ref t), .val (.int ps), .val (.int v), .val (.int x_17), .val (.int (j_16 + (1 : Int32)))]) rfl) ?_
          show Go p e below s _ _ _ T_15 (mkF m 18 #[.val (.ref t), .val (.int ps), .val (.int v), .val (.int x_17), .val (.int (j_16 + (1 : Int32)))] [(.int j_16), (.ref t)])
          refine Go.st (fun _ => XS.iloadN X_15.here hx rfl (hb hby d2_18) rfl) ?_
          show Go p e below s _ _ _ T_15 (mkF m 19 #[.val (.ref t), .val (.int ps), .val (.int v), .val (.int x_17), .val (.int (j_16 + (1 : Int32)))] [(.int x_17), (.int j_16), (.ref t)])
          refine Go.st (fun _ => XS.bipush X_15.here hx rfl (hb hby d2_19)) ?_
          show Go p e below s _ _ _ T_15 (mkF m 21 #[.val (.ref t), .val (.int ps), .val (.int v), .val (.int x_17), .val (.int (j_16 + (1 : Int32)))] [(.int (127 : Int32)), (.int x_17), (.int j_16), (.ref t)])
          refine Go.st (fun _ => XS.iand X_15.here hx rfl (hb hby d2_21) rfl) ?_
          show Go p e below s _ _ _ T_15 (mkF m 22 #[.val (.ref t), .val (.int ps), .val (.int v), .val (.int x_17), .val (.int (j_16 + (1 : Int32)))] [(.int (x_17 &&& (127 : Int32))), (.int j_16), (.ref t)])
          refine Go.st (fun _ => XS.sipush X_15.here hx rfl (hb hby d2_22)) ?_
          show Go p e below s _ _ _ T_15 (mkF m 25 #[.val (.ref t), .val (.int ps), .val (.int v), .val (.int x_17), .val (.int (j_16 + (1 : Int32)))] [(.int (128 : Int32)), (.int (x_17 &&& (127 : Int32))), (.int j_16), (.ref t)])
          refine Go.st (fun _ => XS.ior X_15.here hx rfl (hb hby d2_25) rfl) ?_
          show Go p e below s _ _ _ T_15 (mkF m 26 #[.val (.ref t), .val (.int ps), .val (.int v), .val (.int x_17), .val (.int (j_16 + (1 : Int32)))] [(.int ((x_17 &&& (127 : Int32)) ||| (128 : Int32))), (.int j_16), (.ref t)])
          refine Go.st (fun _ => XS.i2b X_15.here hx rfl (hb hby d2_26) rfl) ?_
          show Go p e below s _ _ _ T_15 (mkF m 27 #[.val (.ref t), .val (.int ps), .val (.int v), .val (.int x_17), .val (.int (j_16 + (1 : Int32)))] [(.int (((x_17 &&& (127 : Int32)) ||| (128 : Int32)).toInt8.toInt32)), (.int j_16), (.ref t)])
          obtain ⟨cl_21, Ar_21, q_21, S_21, M_21, H_21, G_21⟩ := id V_15
          have hin_21 : ¬ (j_16 < 0 ∨ cl_21.slots.size ≤ (j_16).toNatClampNeg) := inb_of S_21 (own_rng hp_18 (by omega))
          obtain ⟨T_21, h_21, X_21, e_21, W_21, st_21⟩ := stB X_15 hx hZ e_15 Ar_21 (j := j_16) hin_21 (g := (mkF m 27 #[.val (.ref t), .val (.int ps), .val (.int v), .val (.int x_17), .val (.int (j_16 + (1 : Int32)))] [(.int (((x_17 &&& (127 : Int32)) ||| (128 : Int32)).toInt8.toInt32)), (.int j_16), (.ref t)])) rfl rfl (hb hby d2_27)
          refine Go.st st_21 ?_
          rw [own_nb] at W_21
          have V_21 : Arv Z h_21 t k .byte (10 : Int32) ((((vs.set (ps).toNatClampNeg (.int (((v &&& (127 : Int32)) ||| (128 : Int32)).toInt8.toInt32))).set (j_4).toNatClampNeg (.int (((x_5 &&& (127 : Int32)) ||| (128 : Int32)).toInt8.toInt32))).set (j_10).toNatClampNeg (.int (((x_11 &&& (127 : Int32)) ||| (128 : Int32)).toInt8.toInt32))).set (j_16).toNatClampNeg (.int (((x_17 &&& (127 : Int32)) ||| (128 : Int32)).toInt8.toInt32))) dv := Arv.set Ar_21 q_21 S_21 M_21 H_21 G_21 (fits_nar_byte _) W_21 (j_16).toNatClampNeg rfl (by simp only [List.length_set, hlen]; exact own_nat hp_18 (by omega))
          have N_21 := Fr.snoc X_21 N_15 g_t
          have K_21 : Keep h0 h_21 [t] := K_15.wr W_21 (Or.inl (List.mem_of_getElem? (i := 0) rfl))
          have z_21 : n0 ≤ h_21.size := Nat.le_trans z_15 (Nat.le_of_eq W_21.size.symm)
          show Go p e below s _ _ _ T_21 (mkF m 28 #[.val (.ref t), .val (.int ps), .val (.int v), .val (.int x_17), .val (.int (j_16 + (1 : Int32)))] [])
          refine Go.st (fun _ => XS.iloadN X_21.here hx rfl (hb hby d2_28) rfl) ?_
          show Go p e below s _ _ _ T_21 (mkF m 29 #[.val (.ref t), .val (.int ps), .val (.int v), .val (.int x_17), .val (.int (j_16 + (1 : Int32)))] [(.int x_17)])
          refine Go.st (fun _ => XS.bipush X_21.here hx rfl (hb hby d2_29)) ?_
          show Go p e below s _ _ _ T_21 (mkF m 31 #[.val (.ref t), .val (.int ps), .val (.int v), .val (.int x_17), .val (.int (j_16 + (1 : Int32)))] [(.int (7 : Int32)), (.int x_17)])
          refine Go.st (fun _ => XS.iushr X_21.here hx rfl (hb hby d2_31) rfl) ?_
          show Go p e below s _ _ _ T_21 (mkF m 32 #[.val (.ref t), .val (.int ps), .val (.int v), .val (.int x_17), .val (.int (j_16 + (1 : Int32)))] [(.int ((x_17.toUInt32 >>> ((7 : Int32) &&& 31).toUInt32).toInt32))])
          refine Go.st (fun _ => XS.istoreN X_21.here hx rfl (hb hby d2_32) rfl (l' := #[.val (.ref t), .val (.int ps), .val (.int v), .val (.int ((x_17.toUInt32 >>> ((7 : Int32) &&& 31).toUInt32).toInt32)), .val (.int (j_16 + (1 : Int32)))]) rfl) ?_
          show Go p e below s _ _ _ T_21 (mkF m 33 #[.val (.ref t), .val (.int ps), .val (.int v), .val (.int ((x_17.toUInt32 >>> ((7 : Int32) &&& 31).toUInt32).toInt32)), .val (.int (j_16 + (1 : Int32)))] [])
          refine Go.st (fun _ => XS.goto X_21.here hx rfl (pc0 := 33) (pc' := 5) rfl (hb hby d2_33) (by decide) (by decide)) ?_
          show Go p e below s _ _ _ T_21 (mkF m 5 #[.val (.ref t), .val (.int ps), .val (.int v), .val (.int ((x_17.toUInt32 >>> ((7 : Int32) &&& 31).toUInt32).toInt32)), .val (.int (j_16 + (1 : Int32)))] [])
          obtain ⟨j_22, hj_22⟩ : ∃ z, z = (j_16 + (1 : Int32)) := ⟨_, rfl⟩
          rw [← hj_22]
          show Go p e below s _ _ _ T_21 (mkF m 5 #[.val (.ref t), .val (.int ps), .val (.int v), .val (.int ((x_17.toUInt32 >>> ((7 : Int32) &&& 31).toUInt32).toInt32)), .val (.int j_22)] [])
          obtain ⟨x_23, hx_23⟩ : ∃ z, z = ((x_17.toUInt32 >>> ((7 : Int32) &&& 31).toUInt32).toInt32) := ⟨_, rfl⟩
          rw [← hx_23]
          show Go p e below s _ _ _ T_21 (mkF m 5 #[.val (.ref t), .val (.int ps), .val (.int v), .val (.int x_23), .val (.int j_22)] [])
          have hp_24 : j_22.toInt = ps.toInt + 4 := by have q := own_inc hj_22 hp_18 (by omega); omega
          have hk_25 : (x_23 &&& (-128 : Int32)) = (0 : Int32) := by rw [hx_23, hx_17, hx_11, hx_5]; exact own_top v
          refine Go.st (fun _ => XS.iloadN X_21.here hx rfl (hb hby d2_5) rfl) ?_
          show Go p e below s _ _ _ T_21 (mkF m 6 #[.val (.ref t), .val (.int ps), .val (.int v), .val (.int x_23), .val (.int j_22)] [(.int x_23)])
          refine Go.st (fun _ => XS.bipush X_21.here hx rfl (hb hby d2_6)) ?_
          show Go p e below s _ _ _ T_21 (mkF m 8 #[.val (.ref t), .val (.int ps), .val (.int v), .val (.int x_23), .val (.int j_22)] [(.int (-128 : Int32)), (.int x_23)])
          refine Go.st (fun _ => XS.iand X_21.here hx rfl (hb hby d2_8) rfl) ?_
          show Go p e below s _ _ _ T_21 (mkF m 9 #[.val (.ref t), .val (.int ps), .val (.int v), .val (.int x_23), .val (.int j_22)] [(.int (x_23 &&& (-128 : Int32)))])
          refine Go.st (fun _ => XS.ifYes X_21.here hx rfl (pc0 := 9) (pc' := 36) rfl (hb hby d2_9) rfl ((if0 _ _).trans (teq hk_25).1) (by decide) (by decide)) ?_
          show Go p e below s _ _ _ T_21 (mkF m 36 #[.val (.ref t), .val (.int ps), .val (.int v), .val (.int x_23), .val (.int j_22)] [])
          refine Go.st (fun _ => XS.aloadN X_21.here hx rfl (hb hby d2_36) rfl rfl) ?_
          show Go p e below s _ _ _ T_21 (mkF m 37 #[.val (.ref t), .val (.int ps), .val (.int v), .val (.int x_23), .val (.int j_22)] [(.ref t)])
          refine Go.st (fun _ => XS.iload X_21.here hx rfl (hb hby d2_37) rfl) ?_
          show Go p e below s _ _ _ T_21 (mkF m 39 #[.val (.ref t), .val (.int ps), .val (.int v), .val (.int x_23), .val (.int j_22)] [(.int j_22), (.ref t)])
          refine Go.st (fun _ => XS.iinc X_21.here hx rfl (hb hby d2_39) rfl (l' := #[.val (.ref t), .val (.int ps), .val (.int v), .val (.int x_23), .val (.int (j_22 + (1 : Int32)))]) rfl) ?_
          show Go p e below s _ _ _ T_21 (mkF m 42 #[.val (.ref t), .val (.int ps), .val (.int v), .val (.int x_23), .val (.int (j_22 + (1 : Int32)))] [(.int j_22), (.ref t)])
          refine Go.st (fun _ => XS.iloadN X_21.here hx rfl (hb hby d2_42) rfl) ?_
          show Go p e below s _ _ _ T_21 (mkF m 43 #[.val (.ref t), .val (.int ps), .val (.int v), .val (.int x_23), .val (.int (j_22 + (1 : Int32)))] [(.int x_23), (.int j_22), (.ref t)])
          refine Go.st (fun _ => XS.i2b X_21.here hx rfl (hb hby d2_43) rfl) ?_
          show Go p e below s _ _ _ T_21 (mkF m 44 #[.val (.ref t), .val (.int ps), .val (.int v), .val (.int x_23), .val (.int (j_22 + (1 : Int32)))] [(.int (x_23.toInt8.toInt32)), (.int j_22), (.ref t)])
          obtain ⟨cl_26, Ar_26, q_26, S_26, M_26, H_26, G_26⟩ := id V_21
          have hin_26 : ¬ (j_22 < 0 ∨ cl_26.slots.size ≤ (j_22).toNatClampNeg) := inb_of S_26 (own_rng hp_24 (by omega))
          obtain ⟨T_26, h_26, X_26, e_26, W_26, st_26⟩ := stB X_21 hx hZ e_21 Ar_26 (j := j_22) hin_26 (g := (mkF m 44 #[.val (.ref t), .val (.int ps), .val (.int v), .val (.int x_23), .val (.int (j_22 + (1 : Int32)))] [(.int (x_23.toInt8.toInt32)), (.int j_22), (.ref t)])) rfl rfl (hb hby d2_44)
          refine Go.st st_26 ?_
          rw [own_nb] at W_26
          have V_26 : Arv Z h_26 t k .byte (10 : Int32) (((((vs.set (ps).toNatClampNeg (.int (((v &&& (127 : Int32)) ||| (128 : Int32)).toInt8.toInt32))).set (j_4).toNatClampNeg (.int (((x_5 &&& (127 : Int32)) ||| (128 : Int32)).toInt8.toInt32))).set (j_10).toNatClampNeg (.int (((x_11 &&& (127 : Int32)) ||| (128 : Int32)).toInt8.toInt32))).set (j_16).toNatClampNeg (.int (((x_17 &&& (127 : Int32)) ||| (128 : Int32)).toInt8.toInt32))).set (j_22).toNatClampNeg (.int (x_23.toInt8.toInt32))) dv := Arv.set Ar_26 q_26 S_26 M_26 H_26 G_26 (fits_nar_byte _) W_26 (j_22).toNatClampNeg rfl (by simp only [List.length_set, hlen]; exact own_nat hp_24 (by omega))
          have N_26 := Fr.snoc X_26 N_21 g_t
          have K_26 : Keep h0 h_26 [t] := K_21.wr W_26 (Or.inl (List.mem_of_getElem? (i := 0) rfl))
          have z_26 : n0 ≤ h_26.size := Nat.le_trans z_21 (Nat.le_of_eq W_26.size.symm)
          show Go p e below s _ _ _ T_26 (mkF m 45 #[.val (.ref t), .val (.int ps), .val (.int v), .val (.int x_23), .val (.int (j_22 + (1 : Int32)))] [])
          refine Go.st (fun _ => XS.iload X_26.here hx rfl (hb hby d2_45) rfl) ?_
          show Go p e below s _ _ _ T_26 (mkF m 47 #[.val (.ref t), .val (.int ps), .val (.int v), .val (.int x_23), .val (.int (j_22 + (1 : Int32)))] [(.int (j_22 + (1 : Int32)))])
          exact Go.retI X_26 hx hlk Bd.returns (hb hby d2_47) (by rw [e_26]; exact ⟨(by rw [own_end_f hc_1, ← hx_5, ← hj_4, own_end_f hc_7, ← hx_11, ← hj_10, own_end_f hc_13, ← hx_17, ← hj_16, own_end_f hc_19, ← hx_23, ← hj_22]; rfl), N_26, K_26, (by rw [own_put_f hc_1, ← hx_5, ← hj_4, own_put_f hc_7, ← hx_11, ← hj_10, own_put_f hc_13, ← hx_17, ← hj_16, own_put_f hc_19, ← hx_23, ← hj_22]; exact V_26)⟩) (by decide) (by decide)
theorem d4_0 : decode method_5_code 0 = .ok (.iload_n 0, 1) := by decide +kernel
theorem d4_1 : decode method_5_code 1 = .ok (.iload_n 1, 1) := by decide +kernel
theorem d4_2 : decode method_5_code 2 = .ok (.if_icmp .lt 10, 3) := by decide +kernel
theorem d4_12 : decode method_5_code 12 = .ok (.iload 4, 2) := by decide +kernel
theorem d4_14 : decode method_5_code 14 = .ok (.ireturn, 1) := by decide +kernel
theorem d4_5 : decode method_5_code 5 = .ok (.iload_n 0, 1) := by decide +kernel
theorem d4_6 : decode method_5_code 6 = .ok (.iload_n 1, 1) := by decide +kernel
theorem d4_7 : decode method_5_code 7 = .ok (.iload_n 3, 1) := by decide +kernel
theorem d4_8 : decode method_5_code 8 = .ok (.iadd, 1) := by decide +kernel
theorem d4_9 : decode method_5_code 9 = .ok (.if_icmp .lt 6, 3) := by decide +kernel
theorem d4_15 : decode method_5_code 15 = .ok (.iload_n 0, 1) := by decide +kernel
theorem d4_16 : decode method_5_code 16 = .ok (.iload_n 1, 1) := by decide +kernel
theorem d4_17 : decode method_5_code 17 = .ok (.isub, 1) := by decide +kernel
theorem d4_18 : decode method_5_code 18 = .ok (.istore 5, 2) := by decide +kernel
theorem d4_20 : decode method_5_code 20 = .ok (.iload_n 2, 1) := by decide +kernel
theorem d4_21 : decode method_5_code 21 = .ok (.bipush 7, 2) := by decide +kernel
theorem d4_23 : decode method_5_code 23 = .ok (.iload 5, 2) := by decide +kernel
theorem d4_25 : decode method_5_code 25 = .ok (.imul, 1) := by decide +kernel
theorem d4_26 : decode method_5_code 26 = .ok (.iushr, 1) := by decide +kernel
theorem d4_27 : decode method_5_code 27 = .ok (.bipush 127, 2) := by decide +kernel
theorem d4_29 : decode method_5_code 29 = .ok (.iand, 1) := by decide +kernel
theorem d4_30 : decode method_5_code 30 = .ok (.istore 6, 2) := by decide +kernel
theorem d4_32 : decode method_5_code 32 = .ok (.iload 5, 2) := by decide +kernel
theorem d4_34 : decode method_5_code 34 = .ok (.iload_n 3, 1) := by decide +kernel
theorem d4_35 : decode method_5_code 35 = .ok (.iconst 1, 1) := by decide +kernel
theorem d4_36 : decode method_5_code 36 = .ok (.isub, 1) := by decide +kernel
theorem d4_37 : decode method_5_code 37 = .ok (.if_icmp .ge 11, 3) := by decide +kernel
theorem d4_40 : decode method_5_code 40 = .ok (.iload 6, 2) := by decide +kernel
theorem d4_42 : decode method_5_code 42 = .ok (.sipush 128, 3) := by decide +kernel
theorem d4_45 : decode method_5_code 45 = .ok (.ior, 1) := by decide +kernel
theorem d4_46 : decode method_5_code 46 = .ok (.istore 6, 2) := by decide +kernel
theorem d4_48 : decode method_5_code 48 = .ok (.iload 6, 2) := by decide +kernel
theorem d4_50 : decode method_5_code 50 = .ok (.i2b, 1) := by decide +kernel
theorem d4_51 : decode method_5_code 51 = .ok (.ireturn, 1) := by decide +kernel
theorem ef_rm4 (m : MethodId) (i : Int32) (j : Int32) (v : Int32) (k : Int32) (f : Int32) : entryFrame m #[(.int i), (.int j), (.int v), (.int k), (.int f)] 7 = mkF m 0 #[.val (.int i), .val (.int j), .val (.int v), .val (.int k), .val (.int f), .unset, .unset] [] := by first | (simp [entryFrame, mkF, argsToLocals, Value.category]; done) | rfl
def Qrm4 (Z : State) (i : Int32) (j : Int32) (v : Int32) (k : Int32) (f : Int32) (h0 : Heap) (n0 : Nat) (rV : Option Value) (hE : Heap) (LE : List Loc) : Prop := rV = some (.int (own_exp i j v k f)) ∧ Fr n0 LE ∧ hE = h0
set_option maxRecDepth 65536 in
set_option maxHeartbeats 40000000 in
theorem rm4 (l : Launch) (Z : State) (a0 : Array Value) (hw : ∀ d ∈ tables_1, d.before a0 Z = true) (ws : List Jvm.Cond) (i : Int32) (j : Int32) (v : Int32) (k : Int32) (f : Int32) (h0 : Heap) (n0 : Nat) (Z0 : n0 ≤ h0.size) (hf : narrow .byte (.int f) = .int f) :
    MetFree l (⟨"com/example/sift_sentences/siftsentences/index/IndexFormatPutVarintPinLaw", "expected", "(IIIIB)B"⟩ : MethodName) (head1 (Jvm.Cond.code (⟨"com/example/sift_sentences/siftsentences/index/IndexFormatPutVarintPinLaw", "expected", "(IIIIB)B"⟩ : MethodName) method_5_code 7 (some .byte) :: ws) ({ frames := 0, cells := 0, slots := 0, locals := 0 } : Room)) (fun aA UA => aA = #[(.int i), (.int j), (.int v), (.int k), (.int f)] ∧ Z.Warmed39 UA.vm ∧ UA.heap = h0) (fun _ _ _ _ _ => True) (fun _ UA oA UB => ∃ rV LE, oA = .returned rV ∧ Qrm4 Z i j v k f h0 n0 rV UB.heap LE ∧ FrameEnd UA oA UB LE ({ frames := 0, cells := 0, slots := 0, locals := 0 } : Room).cells ({ frames := 0, cells := 0, slots := 0, locals := 0 } : Room).slots) := by
  refine MetFree.of_bodySF (plainFor_of_name pn_0) hisR ?_
  intro p e s m args below meth c s₁ Bd hml0 hP hK
  obtain ⟨rfl, hZ, hh⟩ := hP
  have hx := Bd.exec
  have hby := Bd.bytes
  have hml : c.maxLocals = 7 := hml0
  have hown : s.vm.findClass "com/example/sift_sentences/siftsentences/index/IndexFormatPutVarintPinLaw" = some m.cls := findClass_of_methodNamed Bd.named
  have hnm := (name_of_methodNamed Bd.named Bd.method).1
  have hlk := Bd.notSynchronized
  have X0 : Stand p l e ({ frames := 0, cells := 0, slots := 0, locals := 0 } : Room) s m #[(.int i), (.int j), (.int v), (.int k), (.int f)] below meth c s₁ [] 0 0 := Stand.of_body Bd
  have e0 : s₁.heap = h0 := by rw [← hh, Bd.state]; rfl
  have N0 := Fr.nil n0
  show Go p e below s (Qrm4 Z i j v k f h0 n0) ({ frames := 0, cells := 0, slots := 0, locals := 0 } : Room).cells ({ frames := 0, cells := 0, slots := 0, locals := 0 } : Room).slots s₁ (entryFrame m #[(.int i), (.int j), (.int v), (.int k), (.int f)] 7)
  refine Go.eq (ef_rm4 m i j v k f) ?_
  show Go p e below s _ _ _ s₁ (mkF m 0 #[.val (.int i), .val (.int j), .val (.int v), .val (.int k), .val (.int f), .unset, .unset] [])
  refine Go.st (fun _ => XS.iloadN X0.here hx rfl (hb hby d4_0) rfl) ?_
  show Go p e below s _ _ _ s₁ (mkF m 1 #[.val (.int i), .val (.int j), .val (.int v), .val (.int k), .val (.int f), .unset, .unset] [(.int i)])
  refine Go.st (fun _ => XS.iloadN X0.here hx rfl (hb hby d4_1) rfl) ?_
  show Go p e below s _ _ _ s₁ (mkF m 2 #[.val (.int i), .val (.int j), .val (.int v), .val (.int k), .val (.int f), .unset, .unset] [(.int j), (.int i)])
  by_cases hc_1 : i < j
  · refine Go.st (fun _ => XS.icmpYes X0.here hx rfl (pc0 := 2) (pc' := 12) rfl (hb hby d4_2) rfl (tlt hc_1).1 (by decide) (by decide)) ?_
    show Go p e below s _ _ _ s₁ (mkF m 12 #[.val (.int i), .val (.int j), .val (.int v), .val (.int k), .val (.int f), .unset, .unset] [])
    refine Go.st (fun _ => XS.iload X0.here hx rfl (hb hby d4_12) rfl) ?_
    show Go p e below s _ _ _ s₁ (mkF m 14 #[.val (.int i), .val (.int j), .val (.int v), .val (.int k), .val (.int f), .unset, .unset] [(.int f)])
    exact Go.retB X0 hx hlk Bd.returns (hb hby d4_14) hf (by rw [e0]; exact ⟨(by rw [own_exp_eq, if_pos hc_1]), N0, rfl⟩) (by decide) (by decide)
  · refine Go.st (fun _ => XS.icmpNo X0.here hx rfl (hb hby d4_2) rfl (flt hc_1).1) ?_
    show Go p e below s _ _ _ s₁ (mkF m 5 #[.val (.int i), .val (.int j), .val (.int v), .val (.int k), .val (.int f), .unset, .unset] [])
    refine Go.st (fun _ => XS.iloadN X0.here hx rfl (hb hby d4_5) rfl) ?_
    show Go p e below s _ _ _ s₁ (mkF m 6 #[.val (.int i), .val (.int j), .val (.int v), .val (.int k), .val (.int f), .unset, .unset] [(.int i)])
    refine Go.st (fun _ => XS.iloadN X0.here hx rfl (hb hby d4_6) rfl) ?_
    show Go p e below s _ _ _ s₁ (mkF m 7 #[.val (.int i), .val (.int j), .val (.int v), .val (.int k), .val (.int f), .unset, .unset] [(.int j), (.int i)])
    refine Go.st (fun _ => XS.iloadN X0.here hx rfl (hb hby d4_7) rfl) ?_
    show Go p e below s _ _ _ s₁ (mkF m 8 #[.val (.int i), .val (.int j), .val (.int v), .val (.int k), .val (.int f), .unset, .unset] [(.int k), (.int j), (.int i)])
    refine Go.st (fun _ => XS.iadd X0.here hx rfl (hb hby d4_8) rfl) ?_
    show Go p e below s _ _ _ s₁ (mkF m 9 #[.val (.int i), .val (.int j), .val (.int v), .val (.int k), .val (.int f), .unset, .unset] [(.int (j + k)), (.int i)])
    by_cases hc_2 : i < (j + k)
    · refine Go.st (fun _ => XS.icmpYes X0.here hx rfl (pc0 := 9) (pc' := 15) rfl (hb hby d4_9) rfl (tlt hc_2).1 (by decide) (by decide)) ?_
      show Go p e below s _ _ _ s₁ (mkF m 15 #[.val (.int i), .val (.int j), .val (.int v), .val (.int k), .val (.int f), .unset, .unset] [])
      refine Go.st (fun _ => XS.iloadN X0.here hx rfl (hb hby d4_15) rfl) ?_
      show Go p e below s _ _ _ s₁ (mkF m 16 #[.val (.int i), .val (.int j), .val (.int v), .val (.int k), .val (.int f), .unset, .unset] [(.int i)])
      refine Go.st (fun _ => XS.iloadN X0.here hx rfl (hb hby d4_16) rfl) ?_
      show Go p e below s _ _ _ s₁ (mkF m 17 #[.val (.int i), .val (.int j), .val (.int v), .val (.int k), .val (.int f), .unset, .unset] [(.int j), (.int i)])
      refine Go.st (fun _ => XS.isub X0.here hx rfl (hb hby d4_17) rfl) ?_
      show Go p e below s _ _ _ s₁ (mkF m 18 #[.val (.int i), .val (.int j), .val (.int v), .val (.int k), .val (.int f), .unset, .unset] [(.int (i - j))])
      refine Go.st (fun _ => XS.istore X0.here hx rfl (hb hby d4_18) rfl (l' := #[.val (.int i), .val (.int j), .val (.int v), .val (.int k), .val (.int f), .val (.int (i - j)), .unset]) rfl) ?_
      show Go p e below s _ _ _ s₁ (mkF m 20 #[.val (.int i), .val (.int j), .val (.int v), .val (.int k), .val (.int f), .val (.int (i - j)), .unset] [])
      refine Go.st (fun _ => XS.iloadN X0.here hx rfl (hb hby d4_20) rfl) ?_
      show Go p e below s _ _ _ s₁ (mkF m 21 #[.val (.int i), .val (.int j), .val (.int v), .val (.int k), .val (.int f), .val (.int (i - j)), .unset] [(.int v)])
      refine Go.st (fun _ => XS.bipush X0.here hx rfl (hb hby d4_21)) ?_
      show Go p e below s _ _ _ s₁ (mkF m 23 #[.val (.int i), .val (.int j), .val (.int v), .val (.int k), .val (.int f), .val (.int (i - j)), .unset] [(.int (7 : Int32)), (.int v)])
      refine Go.st (fun _ => XS.iload X0.here hx rfl (hb hby d4_23) rfl) ?_
      show Go p e below s _ _ _ s₁ (mkF m 25 #[.val (.int i), .val (.int j), .val (.int v), .val (.int k), .val (.int f), .val (.int (i - j)), .unset] [(.int (i - j)), (.int (7 : Int32)), (.int v)])
      refine Go.st (fun _ => XS.imul X0.here hx rfl (hb hby d4_25) rfl) ?_
      show Go p e below s _ _ _ s₁ (mkF m 26 #[.val (.int i), .val (.int j), .val (.int v), .val (.int k), .val (.int f), .val (.int (i - j)), .unset] [(.int ((7 : Int32) * (i - j))), (.int v)])
      refine Go.st (fun _ => XS.iushr X0.here hx rfl (hb hby d4_26) rfl) ?_
      show Go p e below s _ _ _ s₁ (mkF m 27 #[.val (.int i), .val (.int j), .val (.int v), .val (.int k), .val (.int f), .val (.int (i - j)), .unset] [(.int ((v.toUInt32 >>> (((7 : Int32) * (i - j)) &&& 31).toUInt32).toInt32))])
      refine Go.st (fun _ => XS.bipush X0.here hx rfl (hb hby d4_27)) ?_
      show Go p e below s _ _ _ s₁ (mkF m 29 #[.val (.int i), .val (.int j), .val (.int v), .val (.int k), .val (.int f), .val (.int (i - j)), .unset] [(.int (127 : Int32)), (.int ((v.toUInt32 >>> (((7 : Int32) * (i - j)) &&& 31).toUInt32).toInt32))])
      refine Go.st (fun _ => XS.iand X0.here hx rfl (hb hby d4_29) rfl) ?_
      show Go p e below s _ _ _ s₁ (mkF m 30 #[.val (.int i), .val (.int j), .val (.int v), .val (.int k), .val (.int f), .val (.int (i - j)), .unset] [(.int (((v.toUInt32 >>> (((7 : Int32) * (i - j)) &&& 31).toUInt32).toInt32) &&& (127 : Int32)))])
      refine Go.st (fun _ => XS.istore X0.here hx rfl (hb hby d4_30) rfl (l' := #[.val (.int i), .val (.int j), .val (.int v), .val (.int k), .val (.int f), .val (.int (i - j)), .val (.int (((v.toUInt32 >>> (((7 : Int32) * (i - j)) &&& 31).toUInt32).toInt32) &&& (127 : Int32)))]) rfl) ?_
      show Go p e below s _ _ _ s₁ (mkF m 32 #[.val (.int i), .val (.int j), .val (.int v), .val (.int k), .val (.int f), .val (.int (i - j)), .val (.int (((v.toUInt32 >>> (((7 : Int32) * (i - j)) &&& 31).toUInt32).toInt32) &&& (127 : Int32)))] [])
      refine Go.st (fun _ => XS.iload X0.here hx rfl (hb hby d4_32) rfl) ?_
      show Go p e below s _ _ _ s₁ (mkF m 34 #[.val (.int i), .val (.int j), .val (.int v), .val (.int k), .val (.int f), .val (.int (i - j)), .val (.int (((v.toUInt32 >>> (((7 : Int32) * (i - j)) &&& 31).toUInt32).toInt32) &&& (127 : Int32)))] [(.int (i - j))])
      refine Go.st (fun _ => XS.iloadN X0.here hx rfl (hb hby d4_34) rfl) ?_
      show Go p e below s _ _ _ s₁ (mkF m 35 #[.val (.int i), .val (.int j), .val (.int v), .val (.int k), .val (.int f), .val (.int (i - j)), .val (.int (((v.toUInt32 >>> (((7 : Int32) * (i - j)) &&& 31).toUInt32).toInt32) &&& (127 : Int32)))] [(.int k), (.int (i - j))])
      refine Go.st (fun _ => XS.iconst X0.here hx rfl (hb hby d4_35)) ?_
      show Go p e below s _ _ _ s₁ (mkF m 36 #[.val (.int i), .val (.int j), .val (.int v), .val (.int k), .val (.int f), .val (.int (i - j)), .val (.int (((v.toUInt32 >>> (((7 : Int32) * (i - j)) &&& 31).toUInt32).toInt32) &&& (127 : Int32)))] [(.int (1 : Int32)), (.int k), (.int (i - j))])
      refine Go.st (fun _ => XS.isub X0.here hx rfl (hb hby d4_36) rfl) ?_
      show Go p e below s _ _ _ s₁ (mkF m 37 #[.val (.int i), .val (.int j), .val (.int v), .val (.int k), .val (.int f), .val (.int (i - j)), .val (.int (((v.toUInt32 >>> (((7 : Int32) * (i - j)) &&& 31).toUInt32).toInt32) &&& (127 : Int32)))] [(.int (k - (1 : Int32))), (.int (i - j))])
      by_cases hc_3 : (i - j) < (k - (1 : Int32))
      · refine Go.st (fun _ => XS.icmpNo X0.here hx rfl (hb hby d4_37) rfl (tlt hc_3).2.1) ?_
        show Go p e below s _ _ _ s₁ (mkF m 40 #[.val (.int i), .val (.int j), .val (.int v), .val (.int k), .val (.int f), .val (.int (i - j)), .val (.int (((v.toUInt32 >>> (((7 : Int32) * (i - j)) &&& 31).toUInt32).toInt32) &&& (127 : Int32)))] [])
        refine Go.st (fun _ => XS.iload X0.here hx rfl (hb hby d4_40) rfl) ?_
        show Go p e below s _ _ _ s₁ (mkF m 42 #[.val (.int i), .val (.int j), .val (.int v), .val (.int k), .val (.int f), .val (.int (i - j)), .val (.int (((v.toUInt32 >>> (((7 : Int32) * (i - j)) &&& 31).toUInt32).toInt32) &&& (127 : Int32)))] [(.int (((v.toUInt32 >>> (((7 : Int32) * (i - j)) &&& 31).toUInt32).toInt32) &&& (127 : Int32)))])
        refine Go.st (fun _ => XS.sipush X0.here hx rfl (hb hby d4_42)) ?_
        show Go p e below s _ _ _ s₁ (mkF m 45 #[.val (.int i), .val (.int j), .val (.int v), .val (.int k), .val (.int f), .val (.int (i - j)), .val (.int (((v.toUInt32 >>> (((7 : Int32) * (i - j)) &&& 31).toUInt32).toInt32) &&& (127 : Int32)))] [(.int (128 : Int32)), (.int (((v.toUInt32 >>> (((7 : Int32) * (i - j)) &&& 31).toUInt32).toInt32) &&& (127 : Int32)))])
        refine Go.st (fun _ => XS.ior X0.here hx rfl (hb hby d4_45) rfl) ?_
        show Go p e below s _ _ _ s₁ (mkF m 46 #[.val (.int i), .val (.int j), .val (.int v), .val (.int k), .val (.int f), .val (.int (i - j)), .val (.int (((v.toUInt32 >>> (((7 : Int32) * (i - j)) &&& 31).toUInt32).toInt32) &&& (127 : Int32)))] [(.int ((((v.toUInt32 >>> (((7 : Int32) * (i - j)) &&& 31).toUInt32).toInt32) &&& (127 : Int32)) ||| (128 : Int32)))])
        refine Go.st (fun _ => XS.istore X0.here hx rfl (hb hby d4_46) rfl (l' := #[.val (.int i), .val (.int j), .val (.int v), .val (.int k), .val (.int f), .val (.int (i - j)), .val (.int ((((v.toUInt32 >>> (((7 : Int32) * (i - j)) &&& 31).toUInt32).toInt32) &&& (127 : Int32)) ||| (128 : Int32)))]) rfl) ?_
        show Go p e below s _ _ _ s₁ (mkF m 48 #[.val (.int i), .val (.int j), .val (.int v), .val (.int k), .val (.int f), .val (.int (i - j)), .val (.int ((((v.toUInt32 >>> (((7 : Int32) * (i - j)) &&& 31).toUInt32).toInt32) &&& (127 : Int32)) ||| (128 : Int32)))] [])
        refine Go.st (fun _ => XS.iload X0.here hx rfl (hb hby d4_48) rfl) ?_
        show Go p e below s _ _ _ s₁ (mkF m 50 #[.val (.int i), .val (.int j), .val (.int v), .val (.int k), .val (.int f), .val (.int (i - j)), .val (.int ((((v.toUInt32 >>> (((7 : Int32) * (i - j)) &&& 31).toUInt32).toInt32) &&& (127 : Int32)) ||| (128 : Int32)))] [(.int ((((v.toUInt32 >>> (((7 : Int32) * (i - j)) &&& 31).toUInt32).toInt32) &&& (127 : Int32)) ||| (128 : Int32)))])
        refine Go.st (fun _ => XS.i2b X0.here hx rfl (hb hby d4_50) rfl) ?_
        show Go p e below s _ _ _ s₁ (mkF m 51 #[.val (.int i), .val (.int j), .val (.int v), .val (.int k), .val (.int f), .val (.int (i - j)), .val (.int ((((v.toUInt32 >>> (((7 : Int32) * (i - j)) &&& 31).toUInt32).toInt32) &&& (127 : Int32)) ||| (128 : Int32)))] [(.int (((((v.toUInt32 >>> (((7 : Int32) * (i - j)) &&& 31).toUInt32).toInt32) &&& (127 : Int32)) ||| (128 : Int32)).toInt8.toInt32))])
        exact Go.retB X0 hx hlk Bd.returns (hb hby d4_51) (own_nbv _) (by rw [e0]; exact ⟨(by rw [own_exp_eq, if_neg hc_1, if_pos hc_2, if_pos hc_3]), N0, rfl⟩) (by decide) (by decide)
      · refine Go.st (fun _ => XS.icmpYes X0.here hx rfl (pc0 := 37) (pc' := 48) rfl (hb hby d4_37) rfl (flt hc_3).2.1 (by decide) (by decide)) ?_
        show Go p e below s _ _ _ s₁ (mkF m 48 #[.val (.int i), .val (.int j), .val (.int v), .val (.int k), .val (.int f), .val (.int (i - j)), .val (.int (((v.toUInt32 >>> (((7 : Int32) * (i - j)) &&& 31).toUInt32).toInt32) &&& (127 : Int32)))] [])
        refine Go.st (fun _ => XS.iload X0.here hx rfl (hb hby d4_48) rfl) ?_
        show Go p e below s _ _ _ s₁ (mkF m 50 #[.val (.int i), .val (.int j), .val (.int v), .val (.int k), .val (.int f), .val (.int (i - j)), .val (.int (((v.toUInt32 >>> (((7 : Int32) * (i - j)) &&& 31).toUInt32).toInt32) &&& (127 : Int32)))] [(.int (((v.toUInt32 >>> (((7 : Int32) * (i - j)) &&& 31).toUInt32).toInt32) &&& (127 : Int32)))])
        refine Go.st (fun _ => XS.i2b X0.here hx rfl (hb hby d4_50) rfl) ?_
        show Go p e below s _ _ _ s₁ (mkF m 51 #[.val (.int i), .val (.int j), .val (.int v), .val (.int k), .val (.int f), .val (.int (i - j)), .val (.int (((v.toUInt32 >>> (((7 : Int32) * (i - j)) &&& 31).toUInt32).toInt32) &&& (127 : Int32)))] [(.int ((((v.toUInt32 >>> (((7 : Int32) * (i - j)) &&& 31).toUInt32).toInt32) &&& (127 : Int32)).toInt8.toInt32))])
        exact Go.retB X0 hx hlk Bd.returns (hb hby d4_51) (own_nbv _) (by rw [e0]; exact ⟨(by rw [own_exp_eq, if_neg hc_1, if_pos hc_2, if_neg hc_3]), N0, rfl⟩) (by decide) (by decide)
    · refine Go.st (fun _ => XS.icmpNo X0.here hx rfl (hb hby d4_9) rfl (flt hc_2).1) ?_
      show Go p e below s _ _ _ s₁ (mkF m 12 #[.val (.int i), .val (.int j), .val (.int v), .val (.int k), .val (.int f), .unset, .unset] [])
      refine Go.st (fun _ => XS.iload X0.here hx rfl (hb hby d4_12) rfl) ?_
      show Go p e below s _ _ _ s₁ (mkF m 14 #[.val (.int i), .val (.int j), .val (.int v), .val (.int k), .val (.int f), .unset, .unset] [(.int f)])
      exact Go.retB X0 hx hlk Bd.returns (hb hby d4_14) hf (by rw [e0]; exact ⟨(by rw [own_exp_eq, if_neg hc_1, if_neg hc_2]), N0, rfl⟩) (by decide) (by decide)
theorem d3_0 : decode method_4_code 0 = .ok (.aload_n 0, 1) := by decide +kernel
theorem d3_1 : decode method_4_code 1 = .ok (.iload_n 1, 1) := by decide +kernel
theorem d3_2 : decode method_4_code 2 = .ok (.baload, 1) := by decide +kernel
theorem d3_3 : decode method_4_code 3 = .ok (.iload_n 1, 1) := by decide +kernel
theorem d3_4 : decode method_4_code 4 = .ok (.iload_n 2, 1) := by decide +kernel
theorem d3_5 : decode method_4_code 5 = .ok (.iload_n 3, 1) := by decide +kernel
theorem d3_6 : decode method_4_code 6 = .ok (.iload 4, 2) := by decide +kernel
theorem d3_8 : decode method_4_code 8 = .ok (.iload 5, 2) := by decide +kernel
theorem d3_10 : decode method_4_code 10 = .ok (.invokestatic 23, 3) := by decide +kernel
theorem pd_0 : parseMethodDescriptor "(IIIIB)B" = some ⟨[.int, .int, .int, .int, .byte], some .byte⟩ := by decide +kernel
theorem d3_13 : decode method_4_code 13 = .ok (.if_icmp .ne 7, 3) := by decide +kernel
theorem d3_16 : decode method_4_code 16 = .ok (.iconst 1, 1) := by decide +kernel
theorem d3_17 : decode method_4_code 17 = .ok (.goto 4, 3) := by decide +kernel
theorem d3_21 : decode method_4_code 21 = .ok (.ireturn, 1) := by decide +kernel
theorem d3_20 : decode method_4_code 20 = .ok (.iconst 0, 1) := by decide +kernel
theorem ef_rm3 (m : MethodId) (t : Addr) (i : Int32) (j : Int32) (v : Int32) (k : Int32) (f : Int32) : entryFrame m #[(.ref t), (.int i), (.int j), (.int v), (.int k), (.int f)] 6 = mkF m 0 #[.val (.ref t), .val (.int i), .val (.int j), .val (.int v), .val (.int k), .val (.int f)] [] := by first | (simp [entryFrame, mkF, argsToLocals, Value.category]; done) | rfl
def Qrm3 (Z : State) (t : Addr) (i : Int32) (j : Int32) (v : Int32) (k : Int32) (f : Int32) (kk : ClassId) (vs : List Value) (dv : Value) (w : Int32) (h0 : Heap) (n0 : Nat) (rV : Option Value) (hE : Heap) (LE : List Loc) : Prop := rV = some (.int (b2i (w = (own_exp i j v k f)))) ∧ Fr n0 LE ∧ hE = h0
set_option maxRecDepth 65536 in
set_option maxHeartbeats 40000000 in
theorem rm3 (l : Launch) (Z : State) (a0 : Array Value) (hw : ∀ d ∈ tables_1, d.before a0 Z = true) (ws : List Jvm.Cond) (t : Addr) (i : Int32) (j : Int32) (v : Int32) (k : Int32) (f : Int32) (kk : ClassId) (vs : List Value) (dv : Value) (w : Int32) (h0 : Heap) (n0 : Nat) (Z0 : n0 ≤ h0.size) (V_t : Arv Z h0 t kk .byte (10 : Int32) vs dv) (hf : narrow .byte (.int f) = .int f) (hi : ¬ i < 0 ∧ i < (10 : Int32)) (hget : vs.getD i.toNatClampNeg dv = .int w) :
    MetFree l (⟨"com/example/sift_sentences/siftsentences/index/IndexFormatPutVarintPinLaw", "at", "([BIIIIB)Z"⟩ : MethodName) (head1 (Jvm.Cond.code (⟨"com/example/sift_sentences/siftsentences/index/IndexFormatPutVarintPinLaw", "at", "([BIIIIB)Z"⟩ : MethodName) method_4_code 6 (some .boolean) :: ws) ({ frames := 1, cells := 0, slots := 0, locals := 19 } : Room)) (fun aA UA => aA = #[(.ref t), (.int i), (.int j), (.int v), (.int k), (.int f)] ∧ Z.Warmed39 UA.vm ∧ UA.heap = h0) (fun _ _ _ _ _ => True) (fun _ UA oA UB => ∃ rV LE, oA = .returned rV ∧ Qrm3 Z t i j v k f kk vs dv w h0 n0 rV UB.heap LE ∧ FrameEnd UA oA UB LE ({ frames := 1, cells := 0, slots := 0, locals := 19 } : Room).cells ({ frames := 1, cells := 0, slots := 0, locals := 19 } : Room).slots) := by
  refine MetFree.of_bodySF (plainFor_of_name pn_0) hisR ?_
  intro p e s m args below meth c s₁ Bd hml0 hP hK
  obtain ⟨rfl, hZ, hh⟩ := hP
  have hx := Bd.exec
  have hby := Bd.bytes
  have hml : c.maxLocals = 6 := hml0
  have hown : s.vm.findClass "com/example/sift_sentences/siftsentences/index/IndexFormatPutVarintPinLaw" = some m.cls := findClass_of_methodNamed Bd.named
  have hnm := (name_of_methodNamed Bd.named Bd.method).1
  have hlk := Bd.notSynchronized
  have X0 : Stand p l e ({ frames := 1, cells := 0, slots := 0, locals := 19 } : Room) s m #[(.ref t), (.int i), (.int j), (.int v), (.int k), (.int f)] below meth c s₁ [] 0 0 := Stand.of_body Bd
  have e0 : s₁.heap = h0 := by rw [← hh, Bd.state]; rfl
  have N0 := Fr.nil n0
  show Go p e below s (Qrm3 Z t i j v k f kk vs dv w h0 n0) ({ frames := 1, cells := 0, slots := 0, locals := 19 } : Room).cells ({ frames := 1, cells := 0, slots := 0, locals := 19 } : Room).slots s₁ (entryFrame m #[(.ref t), (.int i), (.int j), (.int v), (.int k), (.int f)] 6)
  refine Go.eq (ef_rm3 m t i j v k f) ?_
  show Go p e below s _ _ _ s₁ (mkF m 0 #[.val (.ref t), .val (.int i), .val (.int j), .val (.int v), .val (.int k), .val (.int f)] [])
  refine Go.st (fun _ => XS.aloadN X0.here hx rfl (hb hby d3_0) rfl rfl) ?_
  show Go p e below s _ _ _ s₁ (mkF m 1 #[.val (.ref t), .val (.int i), .val (.int j), .val (.int v), .val (.int k), .val (.int f)] [(.ref t)])
  refine Go.st (fun _ => XS.iloadN X0.here hx rfl (hb hby d3_1) rfl) ?_
  show Go p e below s _ _ _ s₁ (mkF m 2 #[.val (.ref t), .val (.int i), .val (.int j), .val (.int v), .val (.int k), .val (.int f)] [(.int i), (.ref t)])
  obtain ⟨cl_1, Ar_1, q_1, S_1, M_1, H_1, G_1⟩ := id V_t
  have hin_1 : ¬ (i < 0 ∨ cl_1.slots.size ≤ (i).toNatClampNeg) := inb_of S_1 hi
  have hat_1 : cl_1.slots[(i).toNatClampNeg]? = some (.int w) := H_1.at hin_1 hget
  refine Go.st (fun tG => X0.baloadBytes hx (j := i) (v := (.int w)) (by rw [e0]; exact Ar_1.1) (State.isArrayOf_alike hZ.alike Ar_1.2.1) Ar_1.2.2 hin_1 hat_1 (g := (mkF m 2 #[.val (.ref t), .val (.int i), .val (.int j), .val (.int v), .val (.int k), .val (.int f)] [(.int i), (.ref t)])) rfl rfl (hb hby d3_2) tG) ?_
  show Go p e below s _ _ _ s₁ (mkF m 3 #[.val (.ref t), .val (.int i), .val (.int j), .val (.int v), .val (.int k), .val (.int f)] [(.int w)])
  refine Go.st (fun _ => XS.iloadN X0.here hx rfl (hb hby d3_3) rfl) ?_
  show Go p e below s _ _ _ s₁ (mkF m 4 #[.val (.ref t), .val (.int i), .val (.int j), .val (.int v), .val (.int k), .val (.int f)] [(.int i), (.int w)])
  refine Go.st (fun _ => XS.iloadN X0.here hx rfl (hb hby d3_4) rfl) ?_
  show Go p e below s _ _ _ s₁ (mkF m 5 #[.val (.ref t), .val (.int i), .val (.int j), .val (.int v), .val (.int k), .val (.int f)] [(.int j), (.int i), (.int w)])
  refine Go.st (fun _ => XS.iloadN X0.here hx rfl (hb hby d3_5) rfl) ?_
  show Go p e below s _ _ _ s₁ (mkF m 6 #[.val (.ref t), .val (.int i), .val (.int j), .val (.int v), .val (.int k), .val (.int f)] [(.int v), (.int j), (.int i), (.int w)])
  refine Go.st (fun _ => XS.iload X0.here hx rfl (hb hby d3_6) rfl) ?_
  show Go p e below s _ _ _ s₁ (mkF m 8 #[.val (.ref t), .val (.int i), .val (.int j), .val (.int v), .val (.int k), .val (.int f)] [(.int k), (.int v), (.int j), (.int i), (.int w)])
  refine Go.st (fun _ => XS.iload X0.here hx rfl (hb hby d3_8) rfl) ?_
  show Go p e below s _ _ _ s₁ (mkF m 10 #[.val (.ref t), .val (.int i), .val (.int j), .val (.int v), .val (.int k), .val (.int f)] [(.int f), (.int k), (.int v), (.int j), (.int i), (.int w)])
  obtain ⟨_, _, ⟨T_2, L_2, kc_2, nc_2⟩, -, X_2, ⟨Lc_2, hQ_2, l_2, y_2, z_2⟩, st_2⟩ := Jvm.LawKit.callS X0 hx (y := (⟨"com/example/sift_sentences/siftsentences/index/IndexFormatPutVarintPinLaw", "expected", "(IIIIB)B"⟩ : MethodName)) hown (mvT hZ (hw _ (List.mem_of_getElem? (i := 12) rfl))) (mvT hZ (hw _ (List.mem_of_getElem? (i := 13) rfl))) (mvT hZ (hw _ (List.mem_of_getElem? (i := 3) rfl))) (mvT hZ (hw _ (List.mem_of_getElem? (i := 14) rfl))) (by decide) (backOf (W := 1) (rm4 l Z a0 hw [] i j v k f h0 n0 Z0 hf) hZ (hw _ (List.mem_of_getElem? (i := 14) rfl)) (hw _ (List.mem_of_getElem? (i := 3) rfl)) (by decide) (by decide)) (g := (mkF m 10 #[.val (.ref t), .val (.int i), .val (.int j), .val (.int v), .val (.int k), .val (.int f)] [(.int f), (.int k), (.int v), (.int j), (.int i), (.int w)])) rfl (by rw [hml]; rfl) (argsL := [(.int i), (.int j), (.int v), (.int k), (.int f)]) (rest := [(.int w)]) (lenOf pd_0 rfl) rfl (by show 2 * 0 + _ ≤ _; exact Nat.le_of_eq rfl) (hb hby d3_10) (fun _ _ => ⟨rfl, e0, (by decide : 0 + 0 ≤ _), (by decide : 0 + 0 ≤ _)⟩)
  dsimp only [Pt.U, Pt.locs, Pt.cells, Pt.slots] at X_2 l_2 y_2 z_2 st_2 hQ_2
  obtain rfl : kc_2 = 0 := y_2
  obtain rfl : nc_2 = 0 := z_2
  obtain ⟨h_2, e_2⟩ : ∃ hh, T_2.heap = hh := ⟨_, rfl⟩
  rw [e_2] at hQ_2
  obtain ⟨rfl, N_2q, sm_2⟩ := hQ_2
  have N_2 : Fr n0 L_2 := by rw [l_2]; exact Fr.app N0 N_2q
  refine Go.st st_2 ?_
  rw [sm_2] at e_2
  show Go p e below s _ _ _ T_2 (mkF m 13 #[.val (.ref t), .val (.int i), .val (.int j), .val (.int v), .val (.int k), .val (.int f)] [(.int (own_exp i j v k f)), (.int w)])
  by_cases hc_3 : w = (own_exp i j v k f)
  · refine Go.st (fun _ => XS.icmpNo X_2.here hx rfl (hb hby d3_13) rfl (teq hc_3).2) ?_
    show Go p e below s _ _ _ T_2 (mkF m 16 #[.val (.ref t), .val (.int i), .val (.int j), .val (.int v), .val (.int k), .val (.int f)] [])
    refine Go.st (fun _ => XS.iconst X_2.here hx rfl (hb hby d3_16)) ?_
    show Go p e below s _ _ _ T_2 (mkF m 17 #[.val (.ref t), .val (.int i), .val (.int j), .val (.int v), .val (.int k), .val (.int f)] [(.int (1 : Int32))])
    refine Go.st (fun _ => XS.goto X_2.here hx rfl (pc0 := 17) (pc' := 21) rfl (hb hby d3_17) (by decide) (by decide)) ?_
    show Go p e below s _ _ _ T_2 (mkF m 21 #[.val (.ref t), .val (.int i), .val (.int j), .val (.int v), .val (.int k), .val (.int f)] [(.int (1 : Int32))])
    exact Go.retZ X_2 hx hlk Bd.returns (hb hby d3_21) rfl (by rw [e_2]; exact ⟨(own_b2i_t hc_3), N_2, rfl⟩) (by decide) (by decide)
  · refine Go.st (fun _ => XS.icmpYes X_2.here hx rfl (pc0 := 13) (pc' := 20) rfl (hb hby d3_13) rfl (feq hc_3).2 (by decide) (by decide)) ?_
    show Go p e below s _ _ _ T_2 (mkF m 20 #[.val (.ref t), .val (.int i), .val (.int j), .val (.int v), .val (.int k), .val (.int f)] [])
    refine Go.st (fun _ => XS.iconst X_2.here hx rfl (hb hby d3_20)) ?_
    show Go p e below s _ _ _ T_2 (mkF m 21 #[.val (.ref t), .val (.int i), .val (.int j), .val (.int v), .val (.int k), .val (.int f)] [(.int (0 : Int32))])
    exact Go.retZ X_2 hx hlk Bd.returns (hb hby d3_21) rfl (by rw [e_2]; exact ⟨(own_b2i_f hc_3), N_2, rfl⟩) (by decide) (by decide)
theorem pd_1 : parseMethodDescriptor "(I)I" = some ⟨[.int], some .int⟩ := by decide +kernel
theorem pd_2 : parseMethodDescriptor "([BII)I" = some ⟨[(.array .byte), .int, .int], some .int⟩ := by decide +kernel
theorem pd_3 : parseMethodDescriptor "([BIIIIB)Z" = some ⟨[(.array .byte), .int, .int, .int, .int, .byte], some .boolean⟩ := by decide +kernel
theorem ef_rm0 (m : MethodId) (v : Int32) (px : Int32) (fx : Int32) : entryFrame m #[(.int v), (.int px), (.int fx)] maxLocals = mkF m 0 #[.val (.int v), .val (.int px), .val (.int fx), .unset, .unset, .unset, .unset, .unset] [] := by first | (simp [entryFrame, mkF, argsToLocals, Value.category, maxLocals]; done) | rfl
def Qrm0 (Z : State) (v : Int32) (px : Int32) (fx : Int32) (h0 : Heap) (n0 : Nat) (rV : Option Value) (hE : Heap) (LE : List Loc) : Prop := rV = some (.int (1 : Int32)) ∧ Fr n0 LE
set_option maxRecDepth 65536 in
set_option maxHeartbeats 40000000 in
theorem rm0 (l : Launch) (Z : State) (a0 : Array Value) (hw : ∀ d ∈ tables_1, d.before a0 Z = true) (ws : List Jvm.Cond) (v : Int32) (px : Int32) (fx : Int32) (h0 : Heap) (n0 : Nat) (Z0 : n0 ≤ h0.size) :
    MetFree l x (head1 (Jvm.Cond.code x code maxLocals ret :: ws) room_1) (fun aA UA => aA = #[(.int v), (.int px), (.int fx)] ∧ Z.Warmed39 UA.vm ∧ UA.heap = h0) (fun _ _ _ _ _ => True) (fun _ UA oA UB => ∃ rV LE, oA = .returned rV ∧ Qrm0 Z v px fx h0 n0 rV UB.heap LE ∧ FrameEnd UA oA UB LE room_1.cells room_1.slots) := by
  refine MetFree.of_bodySF (plainFor_of_name pn_0) hisR ?_
  intro p e s m args below meth c s₁ Bd hml0 hP hK
  obtain ⟨rfl, hZ, hh⟩ := hP
  have hx := Bd.exec
  have hby := Bd.bytes
  have hml : c.maxLocals = 8 := hml0
  have hown : s.vm.findClass "com/example/sift_sentences/siftsentences/index/IndexFormatPutVarintPinLaw" = some m.cls := findClass_of_methodNamed Bd.named
  have hnm := (name_of_methodNamed Bd.named Bd.method).1
  have hlk := Bd.notSynchronized
  have X0 : Stand p l e room_1 s m #[(.int v), (.int px), (.int fx)] below meth c s₁ [] 0 0 := Stand.of_body Bd
  have e0 : s₁.heap = h0 := by rw [← hh, Bd.state]; rfl
  have N0 := Fr.nil n0
  show Go p e below s (Qrm0 Z v px fx h0 n0) room_1.cells room_1.slots s₁ (entryFrame m #[(.int v), (.int px), (.int fx)] maxLocals)
  refine Go.eq (ef_rm0 m v px fx) ?_
  show Go p e below s _ _ _ s₁ (mkF m 0 #[.val (.int v), .val (.int px), .val (.int fx), .unset, .unset, .unset, .unset, .unset] [])
  refine Go.st (fun _ => XS.iloadN X0.here hx rfl (hb hby at_0) rfl) ?_
  show Go p e below s _ _ _ s₁ (mkF m 1 #[.val (.int v), .val (.int px), .val (.int fx), .unset, .unset, .unset, .unset, .unset] [(.int px)])
  refine Go.st (fun _ => XS.iconst X0.here hx rfl (hb hby at_1)) ?_
  show Go p e below s _ _ _ s₁ (mkF m 2 #[.val (.int v), .val (.int px), .val (.int fx), .unset, .unset, .unset, .unset, .unset] [(.int (3 : Int32)), (.int px)])
  refine Go.st (fun _ => XS.iand X0.here hx rfl (hb hby at_2) rfl) ?_
  show Go p e below s _ _ _ s₁ (mkF m 3 #[.val (.int v), .val (.int px), .val (.int fx), .unset, .unset, .unset, .unset, .unset] [(.int (px &&& (3 : Int32)))])
  refine Go.st (fun _ => XS.istoreN X0.here hx rfl (hb hby at_3) rfl (l' := #[.val (.int v), .val (.int px), .val (.int fx), .val (.int (px &&& (3 : Int32))), .unset, .unset, .unset, .unset]) rfl) ?_
  show Go p e below s _ _ _ s₁ (mkF m 4 #[.val (.int v), .val (.int px), .val (.int fx), .val (.int (px &&& (3 : Int32))), .unset, .unset, .unset, .unset] [])
  obtain ⟨ps_1, hps_1⟩ : ∃ z, z = (px &&& (3 : Int32)) := ⟨_, rfl⟩
  rw [← hps_1]
  show Go p e below s _ _ _ s₁ (mkF m 4 #[.val (.int v), .val (.int px), .val (.int fx), .val (.int ps_1), .unset, .unset, .unset, .unset] [])
  have hps : 0 ≤ ps_1.toInt ∧ ps_1.toInt < 4 := by rw [hps_1]; exact own_and3r px
  refine Go.st (fun _ => XS.iloadN X0.here hx rfl (hb hby at_4) rfl) ?_
  show Go p e below s _ _ _ s₁ (mkF m 5 #[.val (.int v), .val (.int px), .val (.int fx), .val (.int ps_1), .unset, .unset, .unset, .unset] [(.int fx)])
  refine Go.st (fun _ => XS.i2b X0.here hx rfl (hb hby at_5) rfl) ?_
  show Go p e below s _ _ _ s₁ (mkF m 6 #[.val (.int v), .val (.int px), .val (.int fx), .val (.int ps_1), .unset, .unset, .unset, .unset] [(.int (fx.toInt8.toInt32))])
  refine Go.st (fun _ => XS.istore X0.here hx rfl (hb hby at_6) rfl (l' := #[.val (.int v), .val (.int px), .val (.int fx), .val (.int ps_1), .val (.int (fx.toInt8.toInt32)), .unset, .unset, .unset]) rfl) ?_
  show Go p e below s _ _ _ s₁ (mkF m 8 #[.val (.int v), .val (.int px), .val (.int fx), .val (.int ps_1), .val (.int (fx.toInt8.toInt32)), .unset, .unset, .unset] [])
  obtain ⟨f_2, hf_2⟩ : ∃ z, z = (fx.toInt8.toInt32) := ⟨_, rfl⟩
  rw [← hf_2]
  show Go p e below s _ _ _ s₁ (mkF m 8 #[.val (.int v), .val (.int px), .val (.int fx), .val (.int ps_1), .val (.int f_2), .unset, .unset, .unset] [])
  have hf : narrow .byte (.int f_2) = .int f_2 := by rw [hf_2]; exact own_nbv fx
  have hfn : nar .byte f_2 = f_2 := by rw [hf_2]; exact own_nb fx
  refine Go.st (fun _ => XS.bipush X0.here hx rfl (hb hby at_8)) ?_
  show Go p e below s _ _ _ s₁ (mkF m 10 #[.val (.int v), .val (.int px), .val (.int fx), .val (.int ps_1), .val (.int f_2), .unset, .unset, .unset] [(.int (10 : Int32))])
  obtain ⟨T_3, h_3, kA_3, X_3, e_3, E_3, A_3, st_3⟩ := newP X0 hx hZ (hw _ (List.mem_of_getElem? (i := 0) rfl)) e0 (g := (mkF m 10 #[.val (.int v), .val (.int px), .val (.int fx), .val (.int ps_1), .val (.int f_2), .unset, .unset, .unset] [(.int (10 : Int32))])) rfl (hb hby at_10) rfl (by decide) (cap := 10) (by decide) (by decide) (by decide) (by decide)
  obtain ⟨b_3, g_3⟩ : ∃ z, z = h0.size := ⟨_, rfl⟩
  rw [← g_3] at A_3 st_3
  refine Go.st st_3 ?_
  have gg_3 : n0 ≤ b_3 := Nat.le_trans Z0 (Nat.le_of_eq g_3.symm)
  have z_3 : n0 ≤ h_3.size := Nat.le_trans Z0 E_3.1
  have V_b_3 : Arv Z h_3 b_3 kA_3 .byte (10 : Int32) [(.int (0 : Int32)), (.int (0 : Int32)), (.int (0 : Int32)), (.int (0 : Int32)), (.int (0 : Int32)), (.int (0 : Int32)), (.int (0 : Int32)), (.int (0 : Int32)), (.int (0 : Int32)), (.int (0 : Int32))] (.int (0 : Int32)) := (Arv.new A_3 (by decide)).pad (pad_rep [] (.int (0 : Int32)) 10)
  show Go p e below s _ _ _ T_3 (mkF m 12 #[.val (.int v), .val (.int px), .val (.int fx), .val (.int ps_1), .val (.int f_2), .unset, .unset, .unset] [(.ref b_3)])
  refine Go.st (fun _ => XS.dup X_3.here hx rfl (hb hby at_12) rfl rfl) ?_
  show Go p e below s _ _ _ T_3 (mkF m 13 #[.val (.int v), .val (.int px), .val (.int fx), .val (.int ps_1), .val (.int f_2), .unset, .unset, .unset] [(.ref b_3), (.ref b_3)])
  refine Go.st (fun _ => XS.iconst X_3.here hx rfl (hb hby at_13)) ?_
  show Go p e below s _ _ _ T_3 (mkF m 14 #[.val (.int v), .val (.int px), .val (.int fx), .val (.int ps_1), .val (.int f_2), .unset, .unset, .unset] [(.int (0 : Int32)), (.ref b_3), (.ref b_3)])
  refine Go.st (fun _ => XS.iload X_3.here hx rfl (hb hby at_14) rfl) ?_
  show Go p e below s _ _ _ T_3 (mkF m 16 #[.val (.int v), .val (.int px), .val (.int fx), .val (.int ps_1), .val (.int f_2), .unset, .unset, .unset] [(.int f_2), (.int (0 : Int32)), (.ref b_3), (.ref b_3)])
  obtain ⟨cl_4, Ar_4, q_4, S_4, M_4, H_4, G_4⟩ := id V_b_3
  have hin_4 : ¬ ((0 : Int32) < 0 ∨ cl_4.slots.size ≤ ((0 : Int32)).toNatClampNeg) := inb_of S_4 ⟨by decide, by decide⟩
  obtain ⟨T_4, h_4, X_4, e_4, W_4, st_4⟩ := stB X_3 hx hZ e_3 Ar_4 (j := (0 : Int32)) hin_4 (g := (mkF m 16 #[.val (.int v), .val (.int px), .val (.int fx), .val (.int ps_1), .val (.int f_2), .unset, .unset, .unset] [(.int f_2), (.int (0 : Int32)), (.ref b_3), (.ref b_3)])) rfl rfl (hb hby at_16)
  refine Go.st st_4 ?_
  rw [hfn] at W_4
  have V_4 : Arv Z h_4 b_3 kA_3 .byte (10 : Int32) [(.int f_2), (.int (0 : Int32)), (.int (0 : Int32)), (.int (0 : Int32)), (.int (0 : Int32)), (.int (0 : Int32)), (.int (0 : Int32)), (.int (0 : Int32)), (.int (0 : Int32)), (.int (0 : Int32))] (.int (0 : Int32)) := Arv.set Ar_4 q_4 S_4 M_4 H_4 G_4 (by rw [← hfn]; exact fits_nar_byte _) W_4 0 rfl (Nat.le_of_ble_eq_true rfl)
  have N_4 := Fr.snoc X_4 N0 gg_3
  have z_4 : n0 ≤ h_4.size := Nat.le_trans z_3 (Nat.le_of_eq W_4.size.symm)
  show Go p e below s _ _ _ T_4 (mkF m 17 #[.val (.int v), .val (.int px), .val (.int fx), .val (.int ps_1), .val (.int f_2), .unset, .unset, .unset] [(.ref b_3)])
  refine Go.st (fun _ => XS.dup X_4.here hx rfl (hb hby at_17) rfl rfl) ?_
  show Go p e below s _ _ _ T_4 (mkF m 18 #[.val (.int v), .val (.int px), .val (.int fx), .val (.int ps_1), .val (.int f_2), .unset, .unset, .unset] [(.ref b_3), (.ref b_3)])
  refine Go.st (fun _ => XS.iconst X_4.here hx rfl (hb hby at_18)) ?_
  show Go p e below s _ _ _ T_4 (mkF m 19 #[.val (.int v), .val (.int px), .val (.int fx), .val (.int ps_1), .val (.int f_2), .unset, .unset, .unset] [(.int (1 : Int32)), (.ref b_3), (.ref b_3)])
  refine Go.st (fun _ => XS.iload X_4.here hx rfl (hb hby at_19) rfl) ?_
  show Go p e below s _ _ _ T_4 (mkF m 21 #[.val (.int v), .val (.int px), .val (.int fx), .val (.int ps_1), .val (.int f_2), .unset, .unset, .unset] [(.int f_2), (.int (1 : Int32)), (.ref b_3), (.ref b_3)])
  obtain ⟨cl_5, Ar_5, q_5, S_5, M_5, H_5, G_5⟩ := id V_4
  have hin_5 : ¬ ((1 : Int32) < 0 ∨ cl_5.slots.size ≤ ((1 : Int32)).toNatClampNeg) := inb_of S_5 ⟨by decide, by decide⟩
  obtain ⟨T_5, h_5, X_5, e_5, W_5, st_5⟩ := stB X_4 hx hZ e_4 Ar_5 (j := (1 : Int32)) hin_5 (g := (mkF m 21 #[.val (.int v), .val (.int px), .val (.int fx), .val (.int ps_1), .val (.int f_2), .unset, .unset, .unset] [(.int f_2), (.int (1 : Int32)), (.ref b_3), (.ref b_3)])) rfl rfl (hb hby at_21)
  refine Go.st st_5 ?_
  rw [hfn] at W_5
  have V_5 : Arv Z h_5 b_3 kA_3 .byte (10 : Int32) [(.int f_2), (.int f_2), (.int (0 : Int32)), (.int (0 : Int32)), (.int (0 : Int32)), (.int (0 : Int32)), (.int (0 : Int32)), (.int (0 : Int32)), (.int (0 : Int32)), (.int (0 : Int32))] (.int (0 : Int32)) := Arv.set Ar_5 q_5 S_5 M_5 H_5 G_5 (by rw [← hfn]; exact fits_nar_byte _) W_5 1 rfl (Nat.le_of_ble_eq_true rfl)
  have N_5 := Fr.snoc X_5 N_4 gg_3
  have z_5 : n0 ≤ h_5.size := Nat.le_trans z_4 (Nat.le_of_eq W_5.size.symm)
  show Go p e below s _ _ _ T_5 (mkF m 22 #[.val (.int v), .val (.int px), .val (.int fx), .val (.int ps_1), .val (.int f_2), .unset, .unset, .unset] [(.ref b_3)])
  refine Go.st (fun _ => XS.dup X_5.here hx rfl (hb hby at_22) rfl rfl) ?_
  show Go p e below s _ _ _ T_5 (mkF m 23 #[.val (.int v), .val (.int px), .val (.int fx), .val (.int ps_1), .val (.int f_2), .unset, .unset, .unset] [(.ref b_3), (.ref b_3)])
  refine Go.st (fun _ => XS.iconst X_5.here hx rfl (hb hby at_23)) ?_
  show Go p e below s _ _ _ T_5 (mkF m 24 #[.val (.int v), .val (.int px), .val (.int fx), .val (.int ps_1), .val (.int f_2), .unset, .unset, .unset] [(.int (2 : Int32)), (.ref b_3), (.ref b_3)])
  refine Go.st (fun _ => XS.iload X_5.here hx rfl (hb hby at_24) rfl) ?_
  show Go p e below s _ _ _ T_5 (mkF m 26 #[.val (.int v), .val (.int px), .val (.int fx), .val (.int ps_1), .val (.int f_2), .unset, .unset, .unset] [(.int f_2), (.int (2 : Int32)), (.ref b_3), (.ref b_3)])
  obtain ⟨cl_6, Ar_6, q_6, S_6, M_6, H_6, G_6⟩ := id V_5
  have hin_6 : ¬ ((2 : Int32) < 0 ∨ cl_6.slots.size ≤ ((2 : Int32)).toNatClampNeg) := inb_of S_6 ⟨by decide, by decide⟩
  obtain ⟨T_6, h_6, X_6, e_6, W_6, st_6⟩ := stB X_5 hx hZ e_5 Ar_6 (j := (2 : Int32)) hin_6 (g := (mkF m 26 #[.val (.int v), .val (.int px), .val (.int fx), .val (.int ps_1), .val (.int f_2), .unset, .unset, .unset] [(.int f_2), (.int (2 : Int32)), (.ref b_3), (.ref b_3)])) rfl rfl (hb hby at_26)
  refine Go.st st_6 ?_
  rw [hfn] at W_6
  have V_6 : Arv Z h_6 b_3 kA_3 .byte (10 : Int32) [(.int f_2), (.int f_2), (.int f_2), (.int (0 : Int32)), (.int (0 : Int32)), (.int (0 : Int32)), (.int (0 : Int32)), (.int (0 : Int32)), (.int (0 : Int32)), (.int (0 : Int32))] (.int (0 : Int32)) := Arv.set Ar_6 q_6 S_6 M_6 H_6 G_6 (by rw [← hfn]; exact fits_nar_byte _) W_6 2 rfl (Nat.le_of_ble_eq_true rfl)
  have N_6 := Fr.snoc X_6 N_5 gg_3
  have z_6 : n0 ≤ h_6.size := Nat.le_trans z_5 (Nat.le_of_eq W_6.size.symm)
  show Go p e below s _ _ _ T_6 (mkF m 27 #[.val (.int v), .val (.int px), .val (.int fx), .val (.int ps_1), .val (.int f_2), .unset, .unset, .unset] [(.ref b_3)])
  refine Go.st (fun _ => XS.dup X_6.here hx rfl (hb hby at_27) rfl rfl) ?_
  show Go p e below s _ _ _ T_6 (mkF m 28 #[.val (.int v), .val (.int px), .val (.int fx), .val (.int ps_1), .val (.int f_2), .unset, .unset, .unset] [(.ref b_3), (.ref b_3)])
  refine Go.st (fun _ => XS.iconst X_6.here hx rfl (hb hby at_28)) ?_
  show Go p e below s _ _ _ T_6 (mkF m 29 #[.val (.int v), .val (.int px), .val (.int fx), .val (.int ps_1), .val (.int f_2), .unset, .unset, .unset] [(.int (3 : Int32)), (.ref b_3), (.ref b_3)])
  refine Go.st (fun _ => XS.iload X_6.here hx rfl (hb hby at_29) rfl) ?_
  show Go p e below s _ _ _ T_6 (mkF m 31 #[.val (.int v), .val (.int px), .val (.int fx), .val (.int ps_1), .val (.int f_2), .unset, .unset, .unset] [(.int f_2), (.int (3 : Int32)), (.ref b_3), (.ref b_3)])
  obtain ⟨cl_7, Ar_7, q_7, S_7, M_7, H_7, G_7⟩ := id V_6
  have hin_7 : ¬ ((3 : Int32) < 0 ∨ cl_7.slots.size ≤ ((3 : Int32)).toNatClampNeg) := inb_of S_7 ⟨by decide, by decide⟩
  obtain ⟨T_7, h_7, X_7, e_7, W_7, st_7⟩ := stB X_6 hx hZ e_6 Ar_7 (j := (3 : Int32)) hin_7 (g := (mkF m 31 #[.val (.int v), .val (.int px), .val (.int fx), .val (.int ps_1), .val (.int f_2), .unset, .unset, .unset] [(.int f_2), (.int (3 : Int32)), (.ref b_3), (.ref b_3)])) rfl rfl (hb hby at_31)
  refine Go.st st_7 ?_
  rw [hfn] at W_7
  have V_7 : Arv Z h_7 b_3 kA_3 .byte (10 : Int32) [(.int f_2), (.int f_2), (.int f_2), (.int f_2), (.int (0 : Int32)), (.int (0 : Int32)), (.int (0 : Int32)), (.int (0 : Int32)), (.int (0 : Int32)), (.int (0 : Int32))] (.int (0 : Int32)) := Arv.set Ar_7 q_7 S_7 M_7 H_7 G_7 (by rw [← hfn]; exact fits_nar_byte _) W_7 3 rfl (Nat.le_of_ble_eq_true rfl)
  have N_7 := Fr.snoc X_7 N_6 gg_3
  have z_7 : n0 ≤ h_7.size := Nat.le_trans z_6 (Nat.le_of_eq W_7.size.symm)
  show Go p e below s _ _ _ T_7 (mkF m 32 #[.val (.int v), .val (.int px), .val (.int fx), .val (.int ps_1), .val (.int f_2), .unset, .unset, .unset] [(.ref b_3)])
  refine Go.st (fun _ => XS.dup X_7.here hx rfl (hb hby at_32) rfl rfl) ?_
  show Go p e below s _ _ _ T_7 (mkF m 33 #[.val (.int v), .val (.int px), .val (.int fx), .val (.int ps_1), .val (.int f_2), .unset, .unset, .unset] [(.ref b_3), (.ref b_3)])
  refine Go.st (fun _ => XS.iconst X_7.here hx rfl (hb hby at_33)) ?_
  show Go p e below s _ _ _ T_7 (mkF m 34 #[.val (.int v), .val (.int px), .val (.int fx), .val (.int ps_1), .val (.int f_2), .unset, .unset, .unset] [(.int (4 : Int32)), (.ref b_3), (.ref b_3)])
  refine Go.st (fun _ => XS.iload X_7.here hx rfl (hb hby at_34) rfl) ?_
  show Go p e below s _ _ _ T_7 (mkF m 36 #[.val (.int v), .val (.int px), .val (.int fx), .val (.int ps_1), .val (.int f_2), .unset, .unset, .unset] [(.int f_2), (.int (4 : Int32)), (.ref b_3), (.ref b_3)])
  obtain ⟨cl_8, Ar_8, q_8, S_8, M_8, H_8, G_8⟩ := id V_7
  have hin_8 : ¬ ((4 : Int32) < 0 ∨ cl_8.slots.size ≤ ((4 : Int32)).toNatClampNeg) := inb_of S_8 ⟨by decide, by decide⟩
  obtain ⟨T_8, h_8, X_8, e_8, W_8, st_8⟩ := stB X_7 hx hZ e_7 Ar_8 (j := (4 : Int32)) hin_8 (g := (mkF m 36 #[.val (.int v), .val (.int px), .val (.int fx), .val (.int ps_1), .val (.int f_2), .unset, .unset, .unset] [(.int f_2), (.int (4 : Int32)), (.ref b_3), (.ref b_3)])) rfl rfl (hb hby at_36)
  refine Go.st st_8 ?_
  rw [hfn] at W_8
  have V_8 : Arv Z h_8 b_3 kA_3 .byte (10 : Int32) [(.int f_2), (.int f_2), (.int f_2), (.int f_2), (.int f_2), (.int (0 : Int32)), (.int (0 : Int32)), (.int (0 : Int32)), (.int (0 : Int32)), (.int (0 : Int32))] (.int (0 : Int32)) := Arv.set Ar_8 q_8 S_8 M_8 H_8 G_8 (by rw [← hfn]; exact fits_nar_byte _) W_8 4 rfl (Nat.le_of_ble_eq_true rfl)
  have N_8 := Fr.snoc X_8 N_7 gg_3
  have z_8 : n0 ≤ h_8.size := Nat.le_trans z_7 (Nat.le_of_eq W_8.size.symm)
  show Go p e below s _ _ _ T_8 (mkF m 37 #[.val (.int v), .val (.int px), .val (.int fx), .val (.int ps_1), .val (.int f_2), .unset, .unset, .unset] [(.ref b_3)])
  refine Go.st (fun _ => XS.dup X_8.here hx rfl (hb hby at_37) rfl rfl) ?_
  show Go p e below s _ _ _ T_8 (mkF m 38 #[.val (.int v), .val (.int px), .val (.int fx), .val (.int ps_1), .val (.int f_2), .unset, .unset, .unset] [(.ref b_3), (.ref b_3)])
  refine Go.st (fun _ => XS.iconst X_8.here hx rfl (hb hby at_38)) ?_
  show Go p e below s _ _ _ T_8 (mkF m 39 #[.val (.int v), .val (.int px), .val (.int fx), .val (.int ps_1), .val (.int f_2), .unset, .unset, .unset] [(.int (5 : Int32)), (.ref b_3), (.ref b_3)])
  refine Go.st (fun _ => XS.iload X_8.here hx rfl (hb hby at_39) rfl) ?_
  show Go p e below s _ _ _ T_8 (mkF m 41 #[.val (.int v), .val (.int px), .val (.int fx), .val (.int ps_1), .val (.int f_2), .unset, .unset, .unset] [(.int f_2), (.int (5 : Int32)), (.ref b_3), (.ref b_3)])
  obtain ⟨cl_9, Ar_9, q_9, S_9, M_9, H_9, G_9⟩ := id V_8
  have hin_9 : ¬ ((5 : Int32) < 0 ∨ cl_9.slots.size ≤ ((5 : Int32)).toNatClampNeg) := inb_of S_9 ⟨by decide, by decide⟩
  obtain ⟨T_9, h_9, X_9, e_9, W_9, st_9⟩ := stB X_8 hx hZ e_8 Ar_9 (j := (5 : Int32)) hin_9 (g := (mkF m 41 #[.val (.int v), .val (.int px), .val (.int fx), .val (.int ps_1), .val (.int f_2), .unset, .unset, .unset] [(.int f_2), (.int (5 : Int32)), (.ref b_3), (.ref b_3)])) rfl rfl (hb hby at_41)
  refine Go.st st_9 ?_
  rw [hfn] at W_9
  have V_9 : Arv Z h_9 b_3 kA_3 .byte (10 : Int32) [(.int f_2), (.int f_2), (.int f_2), (.int f_2), (.int f_2), (.int f_2), (.int (0 : Int32)), (.int (0 : Int32)), (.int (0 : Int32)), (.int (0 : Int32))] (.int (0 : Int32)) := Arv.set Ar_9 q_9 S_9 M_9 H_9 G_9 (by rw [← hfn]; exact fits_nar_byte _) W_9 5 rfl (Nat.le_of_ble_eq_true rfl)
  have N_9 := Fr.snoc X_9 N_8 gg_3
  have z_9 : n0 ≤ h_9.size := Nat.le_trans z_8 (Nat.le_of_eq W_9.size.symm)
  show Go p e below s _ _ _ T_9 (mkF m 42 #[.val (.int v), .val (.int px), .val (.int fx), .val (.int ps_1), .val (.int f_2), .unset, .unset, .unset] [(.ref b_3)])
  refine Go.st (fun _ => XS.dup X_9.here hx rfl (hb hby at_42) rfl rfl) ?_
  show Go p e below s _ _ _ T_9 (mkF m 43 #[.val (.int v), .val (.int px), .val (.int fx), .val (.int ps_1), .val (.int f_2), .unset, .unset, .unset] [(.ref b_3), (.ref b_3)])
  refine Go.st (fun _ => XS.bipush X_9.here hx rfl (hb hby at_43)) ?_
  show Go p e below s _ _ _ T_9 (mkF m 45 #[.val (.int v), .val (.int px), .val (.int fx), .val (.int ps_1), .val (.int f_2), .unset, .unset, .unset] [(.int (6 : Int32)), (.ref b_3), (.ref b_3)])
  refine Go.st (fun _ => XS.iload X_9.here hx rfl (hb hby at_45) rfl) ?_
  show Go p e below s _ _ _ T_9 (mkF m 47 #[.val (.int v), .val (.int px), .val (.int fx), .val (.int ps_1), .val (.int f_2), .unset, .unset, .unset] [(.int f_2), (.int (6 : Int32)), (.ref b_3), (.ref b_3)])
  obtain ⟨cl_10, Ar_10, q_10, S_10, M_10, H_10, G_10⟩ := id V_9
  have hin_10 : ¬ ((6 : Int32) < 0 ∨ cl_10.slots.size ≤ ((6 : Int32)).toNatClampNeg) := inb_of S_10 ⟨by decide, by decide⟩
  obtain ⟨T_10, h_10, X_10, e_10, W_10, st_10⟩ := stB X_9 hx hZ e_9 Ar_10 (j := (6 : Int32)) hin_10 (g := (mkF m 47 #[.val (.int v), .val (.int px), .val (.int fx), .val (.int ps_1), .val (.int f_2), .unset, .unset, .unset] [(.int f_2), (.int (6 : Int32)), (.ref b_3), (.ref b_3)])) rfl rfl (hb hby at_47)
  refine Go.st st_10 ?_
  rw [hfn] at W_10
  have V_10 : Arv Z h_10 b_3 kA_3 .byte (10 : Int32) [(.int f_2), (.int f_2), (.int f_2), (.int f_2), (.int f_2), (.int f_2), (.int f_2), (.int (0 : Int32)), (.int (0 : Int32)), (.int (0 : Int32))] (.int (0 : Int32)) := Arv.set Ar_10 q_10 S_10 M_10 H_10 G_10 (by rw [← hfn]; exact fits_nar_byte _) W_10 6 rfl (Nat.le_of_ble_eq_true rfl)
  have N_10 := Fr.snoc X_10 N_9 gg_3
  have z_10 : n0 ≤ h_10.size := Nat.le_trans z_9 (Nat.le_of_eq W_10.size.symm)
  show Go p e below s _ _ _ T_10 (mkF m 48 #[.val (.int v), .val (.int px), .val (.int fx), .val (.int ps_1), .val (.int f_2), .unset, .unset, .unset] [(.ref b_3)])
  refine Go.st (fun _ => XS.dup X_10.here hx rfl (hb hby at_48) rfl rfl) ?_
  show Go p e below s _ _ _ T_10 (mkF m 49 #[.val (.int v), .val (.int px), .val (.int fx), .val (.int ps_1), .val (.int f_2), .unset, .unset, .unset] [(.ref b_3), (.ref b_3)])
  refine Go.st (fun _ => XS.bipush X_10.here hx rfl (hb hby at_49)) ?_
  show Go p e below s _ _ _ T_10 (mkF m 51 #[.val (.int v), .val (.int px), .val (.int fx), .val (.int ps_1), .val (.int f_2), .unset, .unset, .unset] [(.int (7 : Int32)), (.ref b_3), (.ref b_3)])
  refine Go.st (fun _ => XS.iload X_10.here hx rfl (hb hby at_51) rfl) ?_
  show Go p e below s _ _ _ T_10 (mkF m 53 #[.val (.int v), .val (.int px), .val (.int fx), .val (.int ps_1), .val (.int f_2), .unset, .unset, .unset] [(.int f_2), (.int (7 : Int32)), (.ref b_3), (.ref b_3)])
  obtain ⟨cl_11, Ar_11, q_11, S_11, M_11, H_11, G_11⟩ := id V_10
  have hin_11 : ¬ ((7 : Int32) < 0 ∨ cl_11.slots.size ≤ ((7 : Int32)).toNatClampNeg) := inb_of S_11 ⟨by decide, by decide⟩
  obtain ⟨T_11, h_11, X_11, e_11, W_11, st_11⟩ := stB X_10 hx hZ e_10 Ar_11 (j := (7 : Int32)) hin_11 (g := (mkF m 53 #[.val (.int v), .val (.int px), .val (.int fx), .val (.int ps_1), .val (.int f_2), .unset, .unset, .unset] [(.int f_2), (.int (7 : Int32)), (.ref b_3), (.ref b_3)])) rfl rfl (hb hby at_53)
  refine Go.st st_11 ?_
  rw [hfn] at W_11
  have V_11 : Arv Z h_11 b_3 kA_3 .byte (10 : Int32) [(.int f_2), (.int f_2), (.int f_2), (.int f_2), (.int f_2), (.int f_2), (.int f_2), (.int f_2), (.int (0 : Int32)), (.int (0 : Int32))] (.int (0 : Int32)) := Arv.set Ar_11 q_11 S_11 M_11 H_11 G_11 (by rw [← hfn]; exact fits_nar_byte _) W_11 7 rfl (Nat.le_of_ble_eq_true rfl)
  have N_11 := Fr.snoc X_11 N_10 gg_3
  have z_11 : n0 ≤ h_11.size := Nat.le_trans z_10 (Nat.le_of_eq W_11.size.symm)
  show Go p e below s _ _ _ T_11 (mkF m 54 #[.val (.int v), .val (.int px), .val (.int fx), .val (.int ps_1), .val (.int f_2), .unset, .unset, .unset] [(.ref b_3)])
  refine Go.st (fun _ => XS.dup X_11.here hx rfl (hb hby at_54) rfl rfl) ?_
  show Go p e below s _ _ _ T_11 (mkF m 55 #[.val (.int v), .val (.int px), .val (.int fx), .val (.int ps_1), .val (.int f_2), .unset, .unset, .unset] [(.ref b_3), (.ref b_3)])
  refine Go.st (fun _ => XS.bipush X_11.here hx rfl (hb hby at_55)) ?_
  show Go p e below s _ _ _ T_11 (mkF m 57 #[.val (.int v), .val (.int px), .val (.int fx), .val (.int ps_1), .val (.int f_2), .unset, .unset, .unset] [(.int (8 : Int32)), (.ref b_3), (.ref b_3)])
  refine Go.st (fun _ => XS.iload X_11.here hx rfl (hb hby at_57) rfl) ?_
  show Go p e below s _ _ _ T_11 (mkF m 59 #[.val (.int v), .val (.int px), .val (.int fx), .val (.int ps_1), .val (.int f_2), .unset, .unset, .unset] [(.int f_2), (.int (8 : Int32)), (.ref b_3), (.ref b_3)])
  obtain ⟨cl_12, Ar_12, q_12, S_12, M_12, H_12, G_12⟩ := id V_11
  have hin_12 : ¬ ((8 : Int32) < 0 ∨ cl_12.slots.size ≤ ((8 : Int32)).toNatClampNeg) := inb_of S_12 ⟨by decide, by decide⟩
  obtain ⟨T_12, h_12, X_12, e_12, W_12, st_12⟩ := stB X_11 hx hZ e_11 Ar_12 (j := (8 : Int32)) hin_12 (g := (mkF m 59 #[.val (.int v), .val (.int px), .val (.int fx), .val (.int ps_1), .val (.int f_2), .unset, .unset, .unset] [(.int f_2), (.int (8 : Int32)), (.ref b_3), (.ref b_3)])) rfl rfl (hb hby at_59)
  refine Go.st st_12 ?_
  rw [hfn] at W_12
  have V_12 : Arv Z h_12 b_3 kA_3 .byte (10 : Int32) [(.int f_2), (.int f_2), (.int f_2), (.int f_2), (.int f_2), (.int f_2), (.int f_2), (.int f_2), (.int f_2), (.int (0 : Int32))] (.int (0 : Int32)) := Arv.set Ar_12 q_12 S_12 M_12 H_12 G_12 (by rw [← hfn]; exact fits_nar_byte _) W_12 8 rfl (Nat.le_of_ble_eq_true rfl)
  have N_12 := Fr.snoc X_12 N_11 gg_3
  have z_12 : n0 ≤ h_12.size := Nat.le_trans z_11 (Nat.le_of_eq W_12.size.symm)
  show Go p e below s _ _ _ T_12 (mkF m 60 #[.val (.int v), .val (.int px), .val (.int fx), .val (.int ps_1), .val (.int f_2), .unset, .unset, .unset] [(.ref b_3)])
  refine Go.st (fun _ => XS.dup X_12.here hx rfl (hb hby at_60) rfl rfl) ?_
  show Go p e below s _ _ _ T_12 (mkF m 61 #[.val (.int v), .val (.int px), .val (.int fx), .val (.int ps_1), .val (.int f_2), .unset, .unset, .unset] [(.ref b_3), (.ref b_3)])
  refine Go.st (fun _ => XS.bipush X_12.here hx rfl (hb hby at_61)) ?_
  show Go p e below s _ _ _ T_12 (mkF m 63 #[.val (.int v), .val (.int px), .val (.int fx), .val (.int ps_1), .val (.int f_2), .unset, .unset, .unset] [(.int (9 : Int32)), (.ref b_3), (.ref b_3)])
  refine Go.st (fun _ => XS.iload X_12.here hx rfl (hb hby at_63) rfl) ?_
  show Go p e below s _ _ _ T_12 (mkF m 65 #[.val (.int v), .val (.int px), .val (.int fx), .val (.int ps_1), .val (.int f_2), .unset, .unset, .unset] [(.int f_2), (.int (9 : Int32)), (.ref b_3), (.ref b_3)])
  obtain ⟨cl_13, Ar_13, q_13, S_13, M_13, H_13, G_13⟩ := id V_12
  have hin_13 : ¬ ((9 : Int32) < 0 ∨ cl_13.slots.size ≤ ((9 : Int32)).toNatClampNeg) := inb_of S_13 ⟨by decide, by decide⟩
  obtain ⟨T_13, h_13, X_13, e_13, W_13, st_13⟩ := stB X_12 hx hZ e_12 Ar_13 (j := (9 : Int32)) hin_13 (g := (mkF m 65 #[.val (.int v), .val (.int px), .val (.int fx), .val (.int ps_1), .val (.int f_2), .unset, .unset, .unset] [(.int f_2), (.int (9 : Int32)), (.ref b_3), (.ref b_3)])) rfl rfl (hb hby at_65)
  refine Go.st st_13 ?_
  rw [hfn] at W_13
  have V_13 : Arv Z h_13 b_3 kA_3 .byte (10 : Int32) [(.int f_2), (.int f_2), (.int f_2), (.int f_2), (.int f_2), (.int f_2), (.int f_2), (.int f_2), (.int f_2), (.int f_2)] (.int (0 : Int32)) := Arv.set Ar_13 q_13 S_13 M_13 H_13 G_13 (by rw [← hfn]; exact fits_nar_byte _) W_13 9 rfl (Nat.le_of_ble_eq_true rfl)
  have N_13 := Fr.snoc X_13 N_12 gg_3
  have z_13 : n0 ≤ h_13.size := Nat.le_trans z_12 (Nat.le_of_eq W_13.size.symm)
  show Go p e below s _ _ _ T_13 (mkF m 66 #[.val (.int v), .val (.int px), .val (.int fx), .val (.int ps_1), .val (.int f_2), .unset, .unset, .unset] [(.ref b_3)])
  refine Go.st (fun _ => XS.astore X_13.here hx rfl (hb hby at_66) rfl rfl (l' := #[.val (.int v), .val (.int px), .val (.int fx), .val (.int ps_1), .val (.int f_2), .val (.ref b_3), .unset, .unset]) rfl) ?_
  show Go p e below s _ _ _ T_13 (mkF m 68 #[.val (.int v), .val (.int px), .val (.int fx), .val (.int ps_1), .val (.int f_2), .val (.ref b_3), .unset, .unset] [])
  refine Go.st (fun _ => XS.iloadN X_13.here hx rfl (hb hby at_68) rfl) ?_
  show Go p e below s _ _ _ T_13 (mkF m 69 #[.val (.int v), .val (.int px), .val (.int fx), .val (.int ps_1), .val (.int f_2), .val (.ref b_3), .unset, .unset] [(.int v)])
  obtain ⟨_, _, ⟨T_14, L_14, kc_14, nc_14⟩, -, X_14, ⟨Lc_14, hQ_14, l_14, y_14, z_14⟩, st_14⟩ := Jvm.LawKit.callS X_13 hx (y := (⟨"com/example/sift_sentences/siftsentences/index/IndexFormatPutVarintPinLaw", "length", "(I)I"⟩ : MethodName)) hown (mvT hZ (hw _ (List.mem_of_getElem? (i := 1) rfl))) (mvT hZ (hw _ (List.mem_of_getElem? (i := 2) rfl))) (mvT hZ (hw _ (List.mem_of_getElem? (i := 3) rfl))) (mvT hZ (hw _ (List.mem_of_getElem? (i := 4) rfl))) (by decide) (backOf (W := 0) (rm1 l Z a0 hw [] v h_13 n0 z_13 ) hZ (hw _ (List.mem_of_getElem? (i := 4) rfl)) (hw _ (List.mem_of_getElem? (i := 3) rfl)) (by decide) (by decide)) (g := (mkF m 69 #[.val (.int v), .val (.int px), .val (.int fx), .val (.int ps_1), .val (.int f_2), .val (.ref b_3), .unset, .unset] [(.int v)])) rfl (by rw [hml]; rfl) (argsL := [(.int v)]) (rest := []) (lenOf pd_1 rfl) rfl (by show 2 * 0 + _ ≤ _; exact Nat.le_of_eq rfl) (hb hby at_69) (fun _ _ => ⟨rfl, e_13, (by decide : 1 + 0 ≤ _), (by decide : 10 + 0 ≤ _)⟩)
  dsimp only [Pt.U, Pt.locs, Pt.cells, Pt.slots] at X_14 l_14 y_14 z_14 st_14 hQ_14
  obtain rfl : kc_14 = 1 := y_14
  obtain rfl : nc_14 = 10 := z_14
  obtain ⟨h_14, e_14⟩ : ∃ hh, T_14.heap = hh := ⟨_, rfl⟩
  rw [e_14] at hQ_14
  obtain ⟨rfl, N_14q, sm_14⟩ := hQ_14
  have N_14 : Fr n0 L_14 := by rw [l_14]; exact Fr.app N_13 N_14q
  refine Go.st st_14 ?_
  rw [sm_14] at e_14
  show Go p e below s _ _ _ T_14 (mkF m 72 #[.val (.int v), .val (.int px), .val (.int fx), .val (.int ps_1), .val (.int f_2), .val (.ref b_3), .unset, .unset] [(.int (own_ln v))])
  refine Go.st (fun _ => XS.istore X_14.here hx rfl (hb hby at_72) rfl (l' := #[.val (.int v), .val (.int px), .val (.int fx), .val (.int ps_1), .val (.int f_2), .val (.ref b_3), .val (.int (own_ln v)), .unset]) rfl) ?_
  show Go p e below s _ _ _ T_14 (mkF m 74 #[.val (.int v), .val (.int px), .val (.int fx), .val (.int ps_1), .val (.int f_2), .val (.ref b_3), .val (.int (own_ln v)), .unset] [])
  refine Go.st (fun _ => XS.aload X_14.here hx rfl (hb hby at_74) rfl rfl) ?_
  show Go p e below s _ _ _ T_14 (mkF m 76 #[.val (.int v), .val (.int px), .val (.int fx), .val (.int ps_1), .val (.int f_2), .val (.ref b_3), .val (.int (own_ln v)), .unset] [(.ref b_3)])
  refine Go.st (fun _ => XS.iloadN X_14.here hx rfl (hb hby at_76) rfl) ?_
  show Go p e below s _ _ _ T_14 (mkF m 77 #[.val (.int v), .val (.int px), .val (.int fx), .val (.int ps_1), .val (.int f_2), .val (.ref b_3), .val (.int (own_ln v)), .unset] [(.int ps_1), (.ref b_3)])
  refine Go.st (fun _ => XS.iloadN X_14.here hx rfl (hb hby at_77) rfl) ?_
  show Go p e below s _ _ _ T_14 (mkF m 78 #[.val (.int v), .val (.int px), .val (.int fx), .val (.int ps_1), .val (.int f_2), .val (.ref b_3), .val (.int (own_ln v)), .unset] [(.int v), (.int ps_1), (.ref b_3)])
  obtain ⟨_, _, ⟨T_15, L_15, kc_15, nc_15⟩, -, X_15, ⟨Lc_15, hQ_15, l_15, y_15, z_15⟩, st_15⟩ := Jvm.LawKit.callS X_14 hx (y := (⟨"com/example/sift_sentences/siftsentences/index/IndexFormat", "putVarint", "([BII)I"⟩ : MethodName)) hown (mvT hZ (hw _ (List.mem_of_getElem? (i := 5) rfl))) (mvT hZ (hw _ (List.mem_of_getElem? (i := 6) rfl))) (mvT hZ (hw _ (List.mem_of_getElem? (i := 7) rfl))) (mvT hZ (hw _ (List.mem_of_getElem? (i := 8) rfl))) (by decide) (backOf (W := 0) (rm2 l Z a0 hw [] b_3 ps_1 v kA_3 [(.int f_2), (.int f_2), (.int f_2), (.int f_2), (.int f_2), (.int f_2), (.int f_2), (.int f_2), (.int f_2), (.int f_2)] (.int (0 : Int32)) h_13 n0 z_13 V_13 gg_3 hps rfl) hZ (hw _ (List.mem_of_getElem? (i := 8) rfl)) (hw _ (List.mem_of_getElem? (i := 7) rfl)) (by decide) (by decide)) (g := (mkF m 78 #[.val (.int v), .val (.int px), .val (.int fx), .val (.int ps_1), .val (.int f_2), .val (.ref b_3), .val (.int (own_ln v)), .unset] [(.int v), (.int ps_1), (.ref b_3)])) rfl (by rw [hml]; rfl) (argsL := [(.ref b_3), (.int ps_1), (.int v)]) (rest := []) (lenOf pd_2 rfl) rfl (by show 2 * 0 + _ ≤ _; exact Nat.le_of_eq rfl) (hb hby at_78) (fun _ _ => ⟨rfl, e_14, (by decide : 1 + 0 ≤ _), (by decide : 10 + 0 ≤ _)⟩)
  dsimp only [Pt.U, Pt.locs, Pt.cells, Pt.slots] at X_15 l_15 y_15 z_15 st_15 hQ_15
  obtain rfl : kc_15 = 1 := y_15
  obtain rfl : nc_15 = 10 := z_15
  obtain ⟨h_15, e_15⟩ : ∃ hh, T_15.heap = hh := ⟨_, rfl⟩
  rw [e_15] at hQ_15
  obtain ⟨rfl, N_15q, K_15, p_15_0⟩ := hQ_15
  have N_15 : Fr n0 L_15 := by rw [l_15]; exact Fr.app N_14 N_15q
  refine Go.st st_15 ?_
  have z_15q : n0 ≤ h_15.size := Nat.le_trans z_13 K_15.1
  show Go p e below s _ _ _ T_15 (mkF m 81 #[.val (.int v), .val (.int px), .val (.int fx), .val (.int ps_1), .val (.int f_2), .val (.ref b_3), .val (.int (own_ln v)), .unset] [(.int (own_end 4 v ps_1))])
  refine Go.st (fun _ => XS.istore X_15.here hx rfl (hb hby at_81) rfl (l' := #[.val (.int v), .val (.int px), .val (.int fx), .val (.int ps_1), .val (.int f_2), .val (.ref b_3), .val (.int (own_ln v)), .val (.int (own_end 4 v ps_1))]) rfl) ?_
  show Go p e below s _ _ _ T_15 (mkF m 83 #[.val (.int v), .val (.int px), .val (.int fx), .val (.int ps_1), .val (.int f_2), .val (.ref b_3), .val (.int (own_ln v)), .val (.int (own_end 4 v ps_1))] [])
  have hk_16 : (own_end 4 v ps_1) = (ps_1 + (own_ln v)) := own_endln v ps_1
  refine Go.st (fun _ => XS.iload X_15.here hx rfl (hb hby at_83) rfl) ?_
  show Go p e below s _ _ _ T_15 (mkF m 85 #[.val (.int v), .val (.int px), .val (.int fx), .val (.int ps_1), .val (.int f_2), .val (.ref b_3), .val (.int (own_ln v)), .val (.int (own_end 4 v ps_1))] [(.int (own_end 4 v ps_1))])
  refine Go.st (fun _ => XS.iloadN X_15.here hx rfl (hb hby at_85) rfl) ?_
  show Go p e below s _ _ _ T_15 (mkF m 86 #[.val (.int v), .val (.int px), .val (.int fx), .val (.int ps_1), .val (.int f_2), .val (.ref b_3), .val (.int (own_ln v)), .val (.int (own_end 4 v ps_1))] [(.int ps_1), (.int (own_end 4 v ps_1))])
  refine Go.st (fun _ => XS.iload X_15.here hx rfl (hb hby at_86) rfl) ?_
  show Go p e below s _ _ _ T_15 (mkF m 88 #[.val (.int v), .val (.int px), .val (.int fx), .val (.int ps_1), .val (.int f_2), .val (.ref b_3), .val (.int (own_ln v)), .val (.int (own_end 4 v ps_1))] [(.int (own_ln v)), (.int ps_1), (.int (own_end 4 v ps_1))])
  refine Go.st (fun _ => XS.iadd X_15.here hx rfl (hb hby at_88) rfl) ?_
  show Go p e below s _ _ _ T_15 (mkF m 89 #[.val (.int v), .val (.int px), .val (.int fx), .val (.int ps_1), .val (.int f_2), .val (.ref b_3), .val (.int (own_ln v)), .val (.int (own_end 4 v ps_1))] [(.int (ps_1 + (own_ln v))), (.int (own_end 4 v ps_1))])
  refine Go.st (fun _ => XS.icmpNo X_15.here hx rfl (hb hby at_89) rfl (teq hk_16).2) ?_
  show Go p e below s _ _ _ T_15 (mkF m 92 #[.val (.int v), .val (.int px), .val (.int fx), .val (.int ps_1), .val (.int f_2), .val (.ref b_3), .val (.int (own_ln v)), .val (.int (own_end 4 v ps_1))] [])
  refine Go.st (fun _ => XS.aload X_15.here hx rfl (hb hby at_92) rfl rfl) ?_
  show Go p e below s _ _ _ T_15 (mkF m 94 #[.val (.int v), .val (.int px), .val (.int fx), .val (.int ps_1), .val (.int f_2), .val (.ref b_3), .val (.int (own_ln v)), .val (.int (own_end 4 v ps_1))] [(.ref b_3)])
  refine Go.st (fun _ => XS.iconst X_15.here hx rfl (hb hby at_94)) ?_
  show Go p e below s _ _ _ T_15 (mkF m 95 #[.val (.int v), .val (.int px), .val (.int fx), .val (.int ps_1), .val (.int f_2), .val (.ref b_3), .val (.int (own_ln v)), .val (.int (own_end 4 v ps_1))] [(.int (0 : Int32)), (.ref b_3)])
  refine Go.st (fun _ => XS.iloadN X_15.here hx rfl (hb hby at_95) rfl) ?_
  show Go p e below s _ _ _ T_15 (mkF m 96 #[.val (.int v), .val (.int px), .val (.int fx), .val (.int ps_1), .val (.int f_2), .val (.ref b_3), .val (.int (own_ln v)), .val (.int (own_end 4 v ps_1))] [(.int ps_1), (.int (0 : Int32)), (.ref b_3)])
  refine Go.st (fun _ => XS.iloadN X_15.here hx rfl (hb hby at_96) rfl) ?_
  show Go p e below s _ _ _ T_15 (mkF m 97 #[.val (.int v), .val (.int px), .val (.int fx), .val (.int ps_1), .val (.int f_2), .val (.ref b_3), .val (.int (own_ln v)), .val (.int (own_end 4 v ps_1))] [(.int v), (.int ps_1), (.int (0 : Int32)), (.ref b_3)])
  refine Go.st (fun _ => XS.iload X_15.here hx rfl (hb hby at_97) rfl) ?_
  show Go p e below s _ _ _ T_15 (mkF m 99 #[.val (.int v), .val (.int px), .val (.int fx), .val (.int ps_1), .val (.int f_2), .val (.ref b_3), .val (.int (own_ln v)), .val (.int (own_end 4 v ps_1))] [(.int (own_ln v)), (.int v), (.int ps_1), (.int (0 : Int32)), (.ref b_3)])
  refine Go.st (fun _ => XS.iload X_15.here hx rfl (hb hby at_99) rfl) ?_
  show Go p e below s _ _ _ T_15 (mkF m 101 #[.val (.int v), .val (.int px), .val (.int fx), .val (.int ps_1), .val (.int f_2), .val (.ref b_3), .val (.int (own_ln v)), .val (.int (own_end 4 v ps_1))] [(.int f_2), (.int (own_ln v)), (.int v), (.int ps_1), (.int (0 : Int32)), (.ref b_3)])
  obtain ⟨_, _, ⟨T_17, L_17, kc_17, nc_17⟩, -, X_17, ⟨Lc_17, hQ_17, l_17, y_17, z_17⟩, st_17⟩ := Jvm.LawKit.callS X_15 hx (y := (⟨"com/example/sift_sentences/siftsentences/index/IndexFormatPutVarintPinLaw", "at", "([BIIIIB)Z"⟩ : MethodName)) hown (mvT hZ (hw _ (List.mem_of_getElem? (i := 9) rfl))) (mvT hZ (hw _ (List.mem_of_getElem? (i := 10) rfl))) (mvT hZ (hw _ (List.mem_of_getElem? (i := 3) rfl))) (mvT hZ (hw _ (List.mem_of_getElem? (i := 11) rfl))) (by decide) (backOf (W := 0) (rm3 l Z a0 hw [] b_3 (0 : Int32) ps_1 v (own_ln v) f_2 kA_3 (own_put 4 v ps_1 [(.int f_2), (.int f_2), (.int f_2), (.int f_2), (.int f_2), (.int f_2), (.int f_2), (.int f_2), (.int f_2), (.int f_2)]) (.int (0 : Int32)) (own_exp (0 : Int32) ps_1 v (own_ln v) f_2) h_15 n0 z_15q p_15_0 hf (by decide) (own_all v hps (0 : Int32) (by decide))) hZ (hw _ (List.mem_of_getElem? (i := 11) rfl)) (hw _ (List.mem_of_getElem? (i := 3) rfl)) (by decide) (by decide)) (g := (mkF m 101 #[.val (.int v), .val (.int px), .val (.int fx), .val (.int ps_1), .val (.int f_2), .val (.ref b_3), .val (.int (own_ln v)), .val (.int (own_end 4 v ps_1))] [(.int f_2), (.int (own_ln v)), (.int v), (.int ps_1), (.int (0 : Int32)), (.ref b_3)])) rfl (by rw [hml]; rfl) (argsL := [(.ref b_3), (.int (0 : Int32)), (.int ps_1), (.int v), (.int (own_ln v)), (.int f_2)]) (rest := []) (lenOf pd_3 rfl) rfl (by show 2 * 0 + _ ≤ _; exact Nat.le_of_eq rfl) (hb hby at_101) (fun _ _ => ⟨rfl, e_15, (by decide : 1 + 0 ≤ _), (by decide : 10 + 0 ≤ _)⟩)
  dsimp only [Pt.U, Pt.locs, Pt.cells, Pt.slots] at X_17 l_17 y_17 z_17 st_17 hQ_17
  obtain rfl : kc_17 = 1 := y_17
  obtain rfl : nc_17 = 10 := z_17
  obtain ⟨h_17, e_17⟩ : ∃ hh, T_17.heap = hh := ⟨_, rfl⟩
  rw [e_17] at hQ_17
  obtain ⟨rfl, N_17q, sm_17⟩ := hQ_17
  have N_17 : Fr n0 L_17 := by rw [l_17]; exact Fr.app N_15 N_17q
  refine Go.st st_17 ?_
  rw [sm_17] at e_17
  show Go p e below s _ _ _ T_17 (mkF m 104 #[.val (.int v), .val (.int px), .val (.int fx), .val (.int ps_1), .val (.int f_2), .val (.ref b_3), .val (.int (own_ln v)), .val (.int (own_end 4 v ps_1))] [(.int (b2i ((own_exp (0 : Int32) ps_1 v (own_ln v) f_2) = (own_exp (0 : Int32) ps_1 v (own_ln v) f_2))))])
  rw [show (b2i ((own_exp (0 : Int32) ps_1 v (own_ln v) f_2) = (own_exp (0 : Int32) ps_1 v (own_ln v) f_2))) = (1 : Int32) from b2i_pos (rfl : (own_exp (0 : Int32) ps_1 v (own_ln v) f_2) = (own_exp (0 : Int32) ps_1 v (own_ln v) f_2))]
  show Go p e below s _ _ _ T_17 (mkF m 104 #[.val (.int v), .val (.int px), .val (.int fx), .val (.int ps_1), .val (.int f_2), .val (.ref b_3), .val (.int (own_ln v)), .val (.int (own_end 4 v ps_1))] [(.int (1 : Int32))])
  refine Go.st (fun _ => XS.ifNo X_17.here hx rfl (hb hby at_104) rfl ((if0 _ _).trans (feq (by decide : ¬ ((1 : Int32) = (0 : Int32)))).1)) ?_
  show Go p e below s _ _ _ T_17 (mkF m 107 #[.val (.int v), .val (.int px), .val (.int fx), .val (.int ps_1), .val (.int f_2), .val (.ref b_3), .val (.int (own_ln v)), .val (.int (own_end 4 v ps_1))] [])
  refine Go.st (fun _ => XS.aload X_17.here hx rfl (hb hby at_107) rfl rfl) ?_
  show Go p e below s _ _ _ T_17 (mkF m 109 #[.val (.int v), .val (.int px), .val (.int fx), .val (.int ps_1), .val (.int f_2), .val (.ref b_3), .val (.int (own_ln v)), .val (.int (own_end 4 v ps_1))] [(.ref b_3)])
  refine Go.st (fun _ => XS.iconst X_17.here hx rfl (hb hby at_109)) ?_
  show Go p e below s _ _ _ T_17 (mkF m 110 #[.val (.int v), .val (.int px), .val (.int fx), .val (.int ps_1), .val (.int f_2), .val (.ref b_3), .val (.int (own_ln v)), .val (.int (own_end 4 v ps_1))] [(.int (1 : Int32)), (.ref b_3)])
  refine Go.st (fun _ => XS.iloadN X_17.here hx rfl (hb hby at_110) rfl) ?_
  show Go p e below s _ _ _ T_17 (mkF m 111 #[.val (.int v), .val (.int px), .val (.int fx), .val (.int ps_1), .val (.int f_2), .val (.ref b_3), .val (.int (own_ln v)), .val (.int (own_end 4 v ps_1))] [(.int ps_1), (.int (1 : Int32)), (.ref b_3)])
  refine Go.st (fun _ => XS.iloadN X_17.here hx rfl (hb hby at_111) rfl) ?_
  show Go p e below s _ _ _ T_17 (mkF m 112 #[.val (.int v), .val (.int px), .val (.int fx), .val (.int ps_1), .val (.int f_2), .val (.ref b_3), .val (.int (own_ln v)), .val (.int (own_end 4 v ps_1))] [(.int v), (.int ps_1), (.int (1 : Int32)), (.ref b_3)])
  refine Go.st (fun _ => XS.iload X_17.here hx rfl (hb hby at_112) rfl) ?_
  show Go p e below s _ _ _ T_17 (mkF m 114 #[.val (.int v), .val (.int px), .val (.int fx), .val (.int ps_1), .val (.int f_2), .val (.ref b_3), .val (.int (own_ln v)), .val (.int (own_end 4 v ps_1))] [(.int (own_ln v)), (.int v), (.int ps_1), (.int (1 : Int32)), (.ref b_3)])
  refine Go.st (fun _ => XS.iload X_17.here hx rfl (hb hby at_114) rfl) ?_
  show Go p e below s _ _ _ T_17 (mkF m 116 #[.val (.int v), .val (.int px), .val (.int fx), .val (.int ps_1), .val (.int f_2), .val (.ref b_3), .val (.int (own_ln v)), .val (.int (own_end 4 v ps_1))] [(.int f_2), (.int (own_ln v)), (.int v), (.int ps_1), (.int (1 : Int32)), (.ref b_3)])
  obtain ⟨_, _, ⟨T_18, L_18, kc_18, nc_18⟩, -, X_18, ⟨Lc_18, hQ_18, l_18, y_18, z_18⟩, st_18⟩ := Jvm.LawKit.callS X_17 hx (y := (⟨"com/example/sift_sentences/siftsentences/index/IndexFormatPutVarintPinLaw", "at", "([BIIIIB)Z"⟩ : MethodName)) hown (mvT hZ (hw _ (List.mem_of_getElem? (i := 9) rfl))) (mvT hZ (hw _ (List.mem_of_getElem? (i := 10) rfl))) (mvT hZ (hw _ (List.mem_of_getElem? (i := 3) rfl))) (mvT hZ (hw _ (List.mem_of_getElem? (i := 11) rfl))) (by decide) (backOf (W := 0) (rm3 l Z a0 hw [] b_3 (1 : Int32) ps_1 v (own_ln v) f_2 kA_3 (own_put 4 v ps_1 [(.int f_2), (.int f_2), (.int f_2), (.int f_2), (.int f_2), (.int f_2), (.int f_2), (.int f_2), (.int f_2), (.int f_2)]) (.int (0 : Int32)) (own_exp (1 : Int32) ps_1 v (own_ln v) f_2) h_15 n0 z_15q p_15_0 hf (by decide) (own_all v hps (1 : Int32) (by decide))) hZ (hw _ (List.mem_of_getElem? (i := 11) rfl)) (hw _ (List.mem_of_getElem? (i := 3) rfl)) (by decide) (by decide)) (g := (mkF m 116 #[.val (.int v), .val (.int px), .val (.int fx), .val (.int ps_1), .val (.int f_2), .val (.ref b_3), .val (.int (own_ln v)), .val (.int (own_end 4 v ps_1))] [(.int f_2), (.int (own_ln v)), (.int v), (.int ps_1), (.int (1 : Int32)), (.ref b_3)])) rfl (by rw [hml]; rfl) (argsL := [(.ref b_3), (.int (1 : Int32)), (.int ps_1), (.int v), (.int (own_ln v)), (.int f_2)]) (rest := []) (lenOf pd_3 rfl) rfl (by show 2 * 0 + _ ≤ _; exact Nat.le_of_eq rfl) (hb hby at_116) (fun _ _ => ⟨rfl, e_17, (by decide : 1 + 0 ≤ _), (by decide : 10 + 0 ≤ _)⟩)
  dsimp only [Pt.U, Pt.locs, Pt.cells, Pt.slots] at X_18 l_18 y_18 z_18 st_18 hQ_18
  obtain rfl : kc_18 = 1 := y_18
  obtain rfl : nc_18 = 10 := z_18
  obtain ⟨h_18, e_18⟩ : ∃ hh, T_18.heap = hh := ⟨_, rfl⟩
  rw [e_18] at hQ_18
  obtain ⟨rfl, N_18q, sm_18⟩ := hQ_18
  have N_18 : Fr n0 L_18 := by rw [l_18]; exact Fr.app N_17 N_18q
  refine Go.st st_18 ?_
  rw [sm_18] at e_18
  show Go p e below s _ _ _ T_18 (mkF m 119 #[.val (.int v), .val (.int px), .val (.int fx), .val (.int ps_1), .val (.int f_2), .val (.ref b_3), .val (.int (own_ln v)), .val (.int (own_end 4 v ps_1))] [(.int (b2i ((own_exp (1 : Int32) ps_1 v (own_ln v) f_2) = (own_exp (1 : Int32) ps_1 v (own_ln v) f_2))))])
  rw [show (b2i ((own_exp (1 : Int32) ps_1 v (own_ln v) f_2) = (own_exp (1 : Int32) ps_1 v (own_ln v) f_2))) = (1 : Int32) from b2i_pos (rfl : (own_exp (1 : Int32) ps_1 v (own_ln v) f_2) = (own_exp (1 : Int32) ps_1 v (own_ln v) f_2))]
  show Go p e below s _ _ _ T_18 (mkF m 119 #[.val (.int v), .val (.int px), .val (.int fx), .val (.int ps_1), .val (.int f_2), .val (.ref b_3), .val (.int (own_ln v)), .val (.int (own_end 4 v ps_1))] [(.int (1 : Int32))])
  refine Go.st (fun _ => XS.ifNo X_18.here hx rfl (hb hby at_119) rfl ((if0 _ _).trans (feq (by decide : ¬ ((1 : Int32) = (0 : Int32)))).1)) ?_
  show Go p e below s _ _ _ T_18 (mkF m 122 #[.val (.int v), .val (.int px), .val (.int fx), .val (.int ps_1), .val (.int f_2), .val (.ref b_3), .val (.int (own_ln v)), .val (.int (own_end 4 v ps_1))] [])
  refine Go.st (fun _ => XS.aload X_18.here hx rfl (hb hby at_122) rfl rfl) ?_
  show Go p e below s _ _ _ T_18 (mkF m 124 #[.val (.int v), .val (.int px), .val (.int fx), .val (.int ps_1), .val (.int f_2), .val (.ref b_3), .val (.int (own_ln v)), .val (.int (own_end 4 v ps_1))] [(.ref b_3)])
  refine Go.st (fun _ => XS.iconst X_18.here hx rfl (hb hby at_124)) ?_
  show Go p e below s _ _ _ T_18 (mkF m 125 #[.val (.int v), .val (.int px), .val (.int fx), .val (.int ps_1), .val (.int f_2), .val (.ref b_3), .val (.int (own_ln v)), .val (.int (own_end 4 v ps_1))] [(.int (2 : Int32)), (.ref b_3)])
  refine Go.st (fun _ => XS.iloadN X_18.here hx rfl (hb hby at_125) rfl) ?_
  show Go p e below s _ _ _ T_18 (mkF m 126 #[.val (.int v), .val (.int px), .val (.int fx), .val (.int ps_1), .val (.int f_2), .val (.ref b_3), .val (.int (own_ln v)), .val (.int (own_end 4 v ps_1))] [(.int ps_1), (.int (2 : Int32)), (.ref b_3)])
  refine Go.st (fun _ => XS.iloadN X_18.here hx rfl (hb hby at_126) rfl) ?_
  show Go p e below s _ _ _ T_18 (mkF m 127 #[.val (.int v), .val (.int px), .val (.int fx), .val (.int ps_1), .val (.int f_2), .val (.ref b_3), .val (.int (own_ln v)), .val (.int (own_end 4 v ps_1))] [(.int v), (.int ps_1), (.int (2 : Int32)), (.ref b_3)])
  refine Go.st (fun _ => XS.iload X_18.here hx rfl (hb hby at_127) rfl) ?_
  show Go p e below s _ _ _ T_18 (mkF m 129 #[.val (.int v), .val (.int px), .val (.int fx), .val (.int ps_1), .val (.int f_2), .val (.ref b_3), .val (.int (own_ln v)), .val (.int (own_end 4 v ps_1))] [(.int (own_ln v)), (.int v), (.int ps_1), (.int (2 : Int32)), (.ref b_3)])
  refine Go.st (fun _ => XS.iload X_18.here hx rfl (hb hby at_129) rfl) ?_
  show Go p e below s _ _ _ T_18 (mkF m 131 #[.val (.int v), .val (.int px), .val (.int fx), .val (.int ps_1), .val (.int f_2), .val (.ref b_3), .val (.int (own_ln v)), .val (.int (own_end 4 v ps_1))] [(.int f_2), (.int (own_ln v)), (.int v), (.int ps_1), (.int (2 : Int32)), (.ref b_3)])
  obtain ⟨_, _, ⟨T_19, L_19, kc_19, nc_19⟩, -, X_19, ⟨Lc_19, hQ_19, l_19, y_19, z_19⟩, st_19⟩ := Jvm.LawKit.callS X_18 hx (y := (⟨"com/example/sift_sentences/siftsentences/index/IndexFormatPutVarintPinLaw", "at", "([BIIIIB)Z"⟩ : MethodName)) hown (mvT hZ (hw _ (List.mem_of_getElem? (i := 9) rfl))) (mvT hZ (hw _ (List.mem_of_getElem? (i := 10) rfl))) (mvT hZ (hw _ (List.mem_of_getElem? (i := 3) rfl))) (mvT hZ (hw _ (List.mem_of_getElem? (i := 11) rfl))) (by decide) (backOf (W := 0) (rm3 l Z a0 hw [] b_3 (2 : Int32) ps_1 v (own_ln v) f_2 kA_3 (own_put 4 v ps_1 [(.int f_2), (.int f_2), (.int f_2), (.int f_2), (.int f_2), (.int f_2), (.int f_2), (.int f_2), (.int f_2), (.int f_2)]) (.int (0 : Int32)) (own_exp (2 : Int32) ps_1 v (own_ln v) f_2) h_15 n0 z_15q p_15_0 hf (by decide) (own_all v hps (2 : Int32) (by decide))) hZ (hw _ (List.mem_of_getElem? (i := 11) rfl)) (hw _ (List.mem_of_getElem? (i := 3) rfl)) (by decide) (by decide)) (g := (mkF m 131 #[.val (.int v), .val (.int px), .val (.int fx), .val (.int ps_1), .val (.int f_2), .val (.ref b_3), .val (.int (own_ln v)), .val (.int (own_end 4 v ps_1))] [(.int f_2), (.int (own_ln v)), (.int v), (.int ps_1), (.int (2 : Int32)), (.ref b_3)])) rfl (by rw [hml]; rfl) (argsL := [(.ref b_3), (.int (2 : Int32)), (.int ps_1), (.int v), (.int (own_ln v)), (.int f_2)]) (rest := []) (lenOf pd_3 rfl) rfl (by show 2 * 0 + _ ≤ _; exact Nat.le_of_eq rfl) (hb hby at_131) (fun _ _ => ⟨rfl, e_18, (by decide : 1 + 0 ≤ _), (by decide : 10 + 0 ≤ _)⟩)
  dsimp only [Pt.U, Pt.locs, Pt.cells, Pt.slots] at X_19 l_19 y_19 z_19 st_19 hQ_19
  obtain rfl : kc_19 = 1 := y_19
  obtain rfl : nc_19 = 10 := z_19
  obtain ⟨h_19, e_19⟩ : ∃ hh, T_19.heap = hh := ⟨_, rfl⟩
  rw [e_19] at hQ_19
  obtain ⟨rfl, N_19q, sm_19⟩ := hQ_19
  have N_19 : Fr n0 L_19 := by rw [l_19]; exact Fr.app N_18 N_19q
  refine Go.st st_19 ?_
  rw [sm_19] at e_19
  show Go p e below s _ _ _ T_19 (mkF m 134 #[.val (.int v), .val (.int px), .val (.int fx), .val (.int ps_1), .val (.int f_2), .val (.ref b_3), .val (.int (own_ln v)), .val (.int (own_end 4 v ps_1))] [(.int (b2i ((own_exp (2 : Int32) ps_1 v (own_ln v) f_2) = (own_exp (2 : Int32) ps_1 v (own_ln v) f_2))))])
  rw [show (b2i ((own_exp (2 : Int32) ps_1 v (own_ln v) f_2) = (own_exp (2 : Int32) ps_1 v (own_ln v) f_2))) = (1 : Int32) from b2i_pos (rfl : (own_exp (2 : Int32) ps_1 v (own_ln v) f_2) = (own_exp (2 : Int32) ps_1 v (own_ln v) f_2))]
  show Go p e below s _ _ _ T_19 (mkF m 134 #[.val (.int v), .val (.int px), .val (.int fx), .val (.int ps_1), .val (.int f_2), .val (.ref b_3), .val (.int (own_ln v)), .val (.int (own_end 4 v ps_1))] [(.int (1 : Int32))])
  refine Go.st (fun _ => XS.ifNo X_19.here hx rfl (hb hby at_134) rfl ((if0 _ _).trans (feq (by decide : ¬ ((1 : Int32) = (0 : Int32)))).1)) ?_
  show Go p e below s _ _ _ T_19 (mkF m 137 #[.val (.int v), .val (.int px), .val (.int fx), .val (.int ps_1), .val (.int f_2), .val (.ref b_3), .val (.int (own_ln v)), .val (.int (own_end 4 v ps_1))] [])
  refine Go.st (fun _ => XS.aload X_19.here hx rfl (hb hby at_137) rfl rfl) ?_
  show Go p e below s _ _ _ T_19 (mkF m 139 #[.val (.int v), .val (.int px), .val (.int fx), .val (.int ps_1), .val (.int f_2), .val (.ref b_3), .val (.int (own_ln v)), .val (.int (own_end 4 v ps_1))] [(.ref b_3)])
  refine Go.st (fun _ => XS.iconst X_19.here hx rfl (hb hby at_139)) ?_
  show Go p e below s _ _ _ T_19 (mkF m 140 #[.val (.int v), .val (.int px), .val (.int fx), .val (.int ps_1), .val (.int f_2), .val (.ref b_3), .val (.int (own_ln v)), .val (.int (own_end 4 v ps_1))] [(.int (3 : Int32)), (.ref b_3)])
  refine Go.st (fun _ => XS.iloadN X_19.here hx rfl (hb hby at_140) rfl) ?_
  show Go p e below s _ _ _ T_19 (mkF m 141 #[.val (.int v), .val (.int px), .val (.int fx), .val (.int ps_1), .val (.int f_2), .val (.ref b_3), .val (.int (own_ln v)), .val (.int (own_end 4 v ps_1))] [(.int ps_1), (.int (3 : Int32)), (.ref b_3)])
  refine Go.st (fun _ => XS.iloadN X_19.here hx rfl (hb hby at_141) rfl) ?_
  show Go p e below s _ _ _ T_19 (mkF m 142 #[.val (.int v), .val (.int px), .val (.int fx), .val (.int ps_1), .val (.int f_2), .val (.ref b_3), .val (.int (own_ln v)), .val (.int (own_end 4 v ps_1))] [(.int v), (.int ps_1), (.int (3 : Int32)), (.ref b_3)])
  refine Go.st (fun _ => XS.iload X_19.here hx rfl (hb hby at_142) rfl) ?_
  show Go p e below s _ _ _ T_19 (mkF m 144 #[.val (.int v), .val (.int px), .val (.int fx), .val (.int ps_1), .val (.int f_2), .val (.ref b_3), .val (.int (own_ln v)), .val (.int (own_end 4 v ps_1))] [(.int (own_ln v)), (.int v), (.int ps_1), (.int (3 : Int32)), (.ref b_3)])
  refine Go.st (fun _ => XS.iload X_19.here hx rfl (hb hby at_144) rfl) ?_
  show Go p e below s _ _ _ T_19 (mkF m 146 #[.val (.int v), .val (.int px), .val (.int fx), .val (.int ps_1), .val (.int f_2), .val (.ref b_3), .val (.int (own_ln v)), .val (.int (own_end 4 v ps_1))] [(.int f_2), (.int (own_ln v)), (.int v), (.int ps_1), (.int (3 : Int32)), (.ref b_3)])
  obtain ⟨_, _, ⟨T_20, L_20, kc_20, nc_20⟩, -, X_20, ⟨Lc_20, hQ_20, l_20, y_20, z_20⟩, st_20⟩ := Jvm.LawKit.callS X_19 hx (y := (⟨"com/example/sift_sentences/siftsentences/index/IndexFormatPutVarintPinLaw", "at", "([BIIIIB)Z"⟩ : MethodName)) hown (mvT hZ (hw _ (List.mem_of_getElem? (i := 9) rfl))) (mvT hZ (hw _ (List.mem_of_getElem? (i := 10) rfl))) (mvT hZ (hw _ (List.mem_of_getElem? (i := 3) rfl))) (mvT hZ (hw _ (List.mem_of_getElem? (i := 11) rfl))) (by decide) (backOf (W := 0) (rm3 l Z a0 hw [] b_3 (3 : Int32) ps_1 v (own_ln v) f_2 kA_3 (own_put 4 v ps_1 [(.int f_2), (.int f_2), (.int f_2), (.int f_2), (.int f_2), (.int f_2), (.int f_2), (.int f_2), (.int f_2), (.int f_2)]) (.int (0 : Int32)) (own_exp (3 : Int32) ps_1 v (own_ln v) f_2) h_15 n0 z_15q p_15_0 hf (by decide) (own_all v hps (3 : Int32) (by decide))) hZ (hw _ (List.mem_of_getElem? (i := 11) rfl)) (hw _ (List.mem_of_getElem? (i := 3) rfl)) (by decide) (by decide)) (g := (mkF m 146 #[.val (.int v), .val (.int px), .val (.int fx), .val (.int ps_1), .val (.int f_2), .val (.ref b_3), .val (.int (own_ln v)), .val (.int (own_end 4 v ps_1))] [(.int f_2), (.int (own_ln v)), (.int v), (.int ps_1), (.int (3 : Int32)), (.ref b_3)])) rfl (by rw [hml]; rfl) (argsL := [(.ref b_3), (.int (3 : Int32)), (.int ps_1), (.int v), (.int (own_ln v)), (.int f_2)]) (rest := []) (lenOf pd_3 rfl) rfl (by show 2 * 0 + _ ≤ _; exact Nat.le_of_eq rfl) (hb hby at_146) (fun _ _ => ⟨rfl, e_19, (by decide : 1 + 0 ≤ _), (by decide : 10 + 0 ≤ _)⟩)
  dsimp only [Pt.U, Pt.locs, Pt.cells, Pt.slots] at X_20 l_20 y_20 z_20 st_20 hQ_20
  obtain rfl : kc_20 = 1 := y_20
  obtain rfl : nc_20 = 10 := z_20
  obtain ⟨h_20, e_20⟩ : ∃ hh, T_20.heap = hh := ⟨_, rfl⟩
  rw [e_20] at hQ_20
  obtain ⟨rfl, N_20q, sm_20⟩ := hQ_20
  have N_20 : Fr n0 L_20 := by rw [l_20]; exact Fr.app N_19 N_20q
  refine Go.st st_20 ?_
  rw [sm_20] at e_20
  show Go p e below s _ _ _ T_20 (mkF m 149 #[.val (.int v), .val (.int px), .val (.int fx), .val (.int ps_1), .val (.int f_2), .val (.ref b_3), .val (.int (own_ln v)), .val (.int (own_end 4 v ps_1))] [(.int (b2i ((own_exp (3 : Int32) ps_1 v (own_ln v) f_2) = (own_exp (3 : Int32) ps_1 v (own_ln v) f_2))))])
  rw [show (b2i ((own_exp (3 : Int32) ps_1 v (own_ln v) f_2) = (own_exp (3 : Int32) ps_1 v (own_ln v) f_2))) = (1 : Int32) from b2i_pos (rfl : (own_exp (3 : Int32) ps_1 v (own_ln v) f_2) = (own_exp (3 : Int32) ps_1 v (own_ln v) f_2))]
  show Go p e below s _ _ _ T_20 (mkF m 149 #[.val (.int v), .val (.int px), .val (.int fx), .val (.int ps_1), .val (.int f_2), .val (.ref b_3), .val (.int (own_ln v)), .val (.int (own_end 4 v ps_1))] [(.int (1 : Int32))])
  refine Go.st (fun _ => XS.ifNo X_20.here hx rfl (hb hby at_149) rfl ((if0 _ _).trans (feq (by decide : ¬ ((1 : Int32) = (0 : Int32)))).1)) ?_
  show Go p e below s _ _ _ T_20 (mkF m 152 #[.val (.int v), .val (.int px), .val (.int fx), .val (.int ps_1), .val (.int f_2), .val (.ref b_3), .val (.int (own_ln v)), .val (.int (own_end 4 v ps_1))] [])
  refine Go.st (fun _ => XS.aload X_20.here hx rfl (hb hby at_152) rfl rfl) ?_
  show Go p e below s _ _ _ T_20 (mkF m 154 #[.val (.int v), .val (.int px), .val (.int fx), .val (.int ps_1), .val (.int f_2), .val (.ref b_3), .val (.int (own_ln v)), .val (.int (own_end 4 v ps_1))] [(.ref b_3)])
  refine Go.st (fun _ => XS.iconst X_20.here hx rfl (hb hby at_154)) ?_
  show Go p e below s _ _ _ T_20 (mkF m 155 #[.val (.int v), .val (.int px), .val (.int fx), .val (.int ps_1), .val (.int f_2), .val (.ref b_3), .val (.int (own_ln v)), .val (.int (own_end 4 v ps_1))] [(.int (4 : Int32)), (.ref b_3)])
  refine Go.st (fun _ => XS.iloadN X_20.here hx rfl (hb hby at_155) rfl) ?_
  show Go p e below s _ _ _ T_20 (mkF m 156 #[.val (.int v), .val (.int px), .val (.int fx), .val (.int ps_1), .val (.int f_2), .val (.ref b_3), .val (.int (own_ln v)), .val (.int (own_end 4 v ps_1))] [(.int ps_1), (.int (4 : Int32)), (.ref b_3)])
  refine Go.st (fun _ => XS.iloadN X_20.here hx rfl (hb hby at_156) rfl) ?_
  show Go p e below s _ _ _ T_20 (mkF m 157 #[.val (.int v), .val (.int px), .val (.int fx), .val (.int ps_1), .val (.int f_2), .val (.ref b_3), .val (.int (own_ln v)), .val (.int (own_end 4 v ps_1))] [(.int v), (.int ps_1), (.int (4 : Int32)), (.ref b_3)])
  refine Go.st (fun _ => XS.iload X_20.here hx rfl (hb hby at_157) rfl) ?_
  show Go p e below s _ _ _ T_20 (mkF m 159 #[.val (.int v), .val (.int px), .val (.int fx), .val (.int ps_1), .val (.int f_2), .val (.ref b_3), .val (.int (own_ln v)), .val (.int (own_end 4 v ps_1))] [(.int (own_ln v)), (.int v), (.int ps_1), (.int (4 : Int32)), (.ref b_3)])
  refine Go.st (fun _ => XS.iload X_20.here hx rfl (hb hby at_159) rfl) ?_
  show Go p e below s _ _ _ T_20 (mkF m 161 #[.val (.int v), .val (.int px), .val (.int fx), .val (.int ps_1), .val (.int f_2), .val (.ref b_3), .val (.int (own_ln v)), .val (.int (own_end 4 v ps_1))] [(.int f_2), (.int (own_ln v)), (.int v), (.int ps_1), (.int (4 : Int32)), (.ref b_3)])
  obtain ⟨_, _, ⟨T_21, L_21, kc_21, nc_21⟩, -, X_21, ⟨Lc_21, hQ_21, l_21, y_21, z_21⟩, st_21⟩ := Jvm.LawKit.callS X_20 hx (y := (⟨"com/example/sift_sentences/siftsentences/index/IndexFormatPutVarintPinLaw", "at", "([BIIIIB)Z"⟩ : MethodName)) hown (mvT hZ (hw _ (List.mem_of_getElem? (i := 9) rfl))) (mvT hZ (hw _ (List.mem_of_getElem? (i := 10) rfl))) (mvT hZ (hw _ (List.mem_of_getElem? (i := 3) rfl))) (mvT hZ (hw _ (List.mem_of_getElem? (i := 11) rfl))) (by decide) (backOf (W := 0) (rm3 l Z a0 hw [] b_3 (4 : Int32) ps_1 v (own_ln v) f_2 kA_3 (own_put 4 v ps_1 [(.int f_2), (.int f_2), (.int f_2), (.int f_2), (.int f_2), (.int f_2), (.int f_2), (.int f_2), (.int f_2), (.int f_2)]) (.int (0 : Int32)) (own_exp (4 : Int32) ps_1 v (own_ln v) f_2) h_15 n0 z_15q p_15_0 hf (by decide) (own_all v hps (4 : Int32) (by decide))) hZ (hw _ (List.mem_of_getElem? (i := 11) rfl)) (hw _ (List.mem_of_getElem? (i := 3) rfl)) (by decide) (by decide)) (g := (mkF m 161 #[.val (.int v), .val (.int px), .val (.int fx), .val (.int ps_1), .val (.int f_2), .val (.ref b_3), .val (.int (own_ln v)), .val (.int (own_end 4 v ps_1))] [(.int f_2), (.int (own_ln v)), (.int v), (.int ps_1), (.int (4 : Int32)), (.ref b_3)])) rfl (by rw [hml]; rfl) (argsL := [(.ref b_3), (.int (4 : Int32)), (.int ps_1), (.int v), (.int (own_ln v)), (.int f_2)]) (rest := []) (lenOf pd_3 rfl) rfl (by show 2 * 0 + _ ≤ _; exact Nat.le_of_eq rfl) (hb hby at_161) (fun _ _ => ⟨rfl, e_20, (by decide : 1 + 0 ≤ _), (by decide : 10 + 0 ≤ _)⟩)
  dsimp only [Pt.U, Pt.locs, Pt.cells, Pt.slots] at X_21 l_21 y_21 z_21 st_21 hQ_21
  obtain rfl : kc_21 = 1 := y_21
  obtain rfl : nc_21 = 10 := z_21
  obtain ⟨h_21, e_21⟩ : ∃ hh, T_21.heap = hh := ⟨_, rfl⟩
  rw [e_21] at hQ_21
  obtain ⟨rfl, N_21q, sm_21⟩ := hQ_21
  have N_21 : Fr n0 L_21 := by rw [l_21]; exact Fr.app N_20 N_21q
  refine Go.st st_21 ?_
  rw [sm_21] at e_21
  show Go p e below s _ _ _ T_21 (mkF m 164 #[.val (.int v), .val (.int px), .val (.int fx), .val (.int ps_1), .val (.int f_2), .val (.ref b_3), .val (.int (own_ln v)), .val (.int (own_end 4 v ps_1))] [(.int (b2i ((own_exp (4 : Int32) ps_1 v (own_ln v) f_2) = (own_exp (4 : Int32) ps_1 v (own_ln v) f_2))))])
  rw [show (b2i ((own_exp (4 : Int32) ps_1 v (own_ln v) f_2) = (own_exp (4 : Int32) ps_1 v (own_ln v) f_2))) = (1 : Int32) from b2i_pos (rfl : (own_exp (4 : Int32) ps_1 v (own_ln v) f_2) = (own_exp (4 : Int32) ps_1 v (own_ln v) f_2))]
  show Go p e below s _ _ _ T_21 (mkF m 164 #[.val (.int v), .val (.int px), .val (.int fx), .val (.int ps_1), .val (.int f_2), .val (.ref b_3), .val (.int (own_ln v)), .val (.int (own_end 4 v ps_1))] [(.int (1 : Int32))])
  refine Go.st (fun _ => XS.ifNo X_21.here hx rfl (hb hby at_164) rfl ((if0 _ _).trans (feq (by decide : ¬ ((1 : Int32) = (0 : Int32)))).1)) ?_
  show Go p e below s _ _ _ T_21 (mkF m 167 #[.val (.int v), .val (.int px), .val (.int fx), .val (.int ps_1), .val (.int f_2), .val (.ref b_3), .val (.int (own_ln v)), .val (.int (own_end 4 v ps_1))] [])
  refine Go.st (fun _ => XS.aload X_21.here hx rfl (hb hby at_167) rfl rfl) ?_
  show Go p e below s _ _ _ T_21 (mkF m 169 #[.val (.int v), .val (.int px), .val (.int fx), .val (.int ps_1), .val (.int f_2), .val (.ref b_3), .val (.int (own_ln v)), .val (.int (own_end 4 v ps_1))] [(.ref b_3)])
  refine Go.st (fun _ => XS.iconst X_21.here hx rfl (hb hby at_169)) ?_
  show Go p e below s _ _ _ T_21 (mkF m 170 #[.val (.int v), .val (.int px), .val (.int fx), .val (.int ps_1), .val (.int f_2), .val (.ref b_3), .val (.int (own_ln v)), .val (.int (own_end 4 v ps_1))] [(.int (5 : Int32)), (.ref b_3)])
  refine Go.st (fun _ => XS.iloadN X_21.here hx rfl (hb hby at_170) rfl) ?_
  show Go p e below s _ _ _ T_21 (mkF m 171 #[.val (.int v), .val (.int px), .val (.int fx), .val (.int ps_1), .val (.int f_2), .val (.ref b_3), .val (.int (own_ln v)), .val (.int (own_end 4 v ps_1))] [(.int ps_1), (.int (5 : Int32)), (.ref b_3)])
  refine Go.st (fun _ => XS.iloadN X_21.here hx rfl (hb hby at_171) rfl) ?_
  show Go p e below s _ _ _ T_21 (mkF m 172 #[.val (.int v), .val (.int px), .val (.int fx), .val (.int ps_1), .val (.int f_2), .val (.ref b_3), .val (.int (own_ln v)), .val (.int (own_end 4 v ps_1))] [(.int v), (.int ps_1), (.int (5 : Int32)), (.ref b_3)])
  refine Go.st (fun _ => XS.iload X_21.here hx rfl (hb hby at_172) rfl) ?_
  show Go p e below s _ _ _ T_21 (mkF m 174 #[.val (.int v), .val (.int px), .val (.int fx), .val (.int ps_1), .val (.int f_2), .val (.ref b_3), .val (.int (own_ln v)), .val (.int (own_end 4 v ps_1))] [(.int (own_ln v)), (.int v), (.int ps_1), (.int (5 : Int32)), (.ref b_3)])
  refine Go.st (fun _ => XS.iload X_21.here hx rfl (hb hby at_174) rfl) ?_
  show Go p e below s _ _ _ T_21 (mkF m 176 #[.val (.int v), .val (.int px), .val (.int fx), .val (.int ps_1), .val (.int f_2), .val (.ref b_3), .val (.int (own_ln v)), .val (.int (own_end 4 v ps_1))] [(.int f_2), (.int (own_ln v)), (.int v), (.int ps_1), (.int (5 : Int32)), (.ref b_3)])
  obtain ⟨_, _, ⟨T_22, L_22, kc_22, nc_22⟩, -, X_22, ⟨Lc_22, hQ_22, l_22, y_22, z_22⟩, st_22⟩ := Jvm.LawKit.callS X_21 hx (y := (⟨"com/example/sift_sentences/siftsentences/index/IndexFormatPutVarintPinLaw", "at", "([BIIIIB)Z"⟩ : MethodName)) hown (mvT hZ (hw _ (List.mem_of_getElem? (i := 9) rfl))) (mvT hZ (hw _ (List.mem_of_getElem? (i := 10) rfl))) (mvT hZ (hw _ (List.mem_of_getElem? (i := 3) rfl))) (mvT hZ (hw _ (List.mem_of_getElem? (i := 11) rfl))) (by decide) (backOf (W := 0) (rm3 l Z a0 hw [] b_3 (5 : Int32) ps_1 v (own_ln v) f_2 kA_3 (own_put 4 v ps_1 [(.int f_2), (.int f_2), (.int f_2), (.int f_2), (.int f_2), (.int f_2), (.int f_2), (.int f_2), (.int f_2), (.int f_2)]) (.int (0 : Int32)) (own_exp (5 : Int32) ps_1 v (own_ln v) f_2) h_15 n0 z_15q p_15_0 hf (by decide) (own_all v hps (5 : Int32) (by decide))) hZ (hw _ (List.mem_of_getElem? (i := 11) rfl)) (hw _ (List.mem_of_getElem? (i := 3) rfl)) (by decide) (by decide)) (g := (mkF m 176 #[.val (.int v), .val (.int px), .val (.int fx), .val (.int ps_1), .val (.int f_2), .val (.ref b_3), .val (.int (own_ln v)), .val (.int (own_end 4 v ps_1))] [(.int f_2), (.int (own_ln v)), (.int v), (.int ps_1), (.int (5 : Int32)), (.ref b_3)])) rfl (by rw [hml]; rfl) (argsL := [(.ref b_3), (.int (5 : Int32)), (.int ps_1), (.int v), (.int (own_ln v)), (.int f_2)]) (rest := []) (lenOf pd_3 rfl) rfl (by show 2 * 0 + _ ≤ _; exact Nat.le_of_eq rfl) (hb hby at_176) (fun _ _ => ⟨rfl, e_21, (by decide : 1 + 0 ≤ _), (by decide : 10 + 0 ≤ _)⟩)
  dsimp only [Pt.U, Pt.locs, Pt.cells, Pt.slots] at X_22 l_22 y_22 z_22 st_22 hQ_22
  obtain rfl : kc_22 = 1 := y_22
  obtain rfl : nc_22 = 10 := z_22
  obtain ⟨h_22, e_22⟩ : ∃ hh, T_22.heap = hh := ⟨_, rfl⟩
  rw [e_22] at hQ_22
  obtain ⟨rfl, N_22q, sm_22⟩ := hQ_22
  have N_22 : Fr n0 L_22 := by rw [l_22]; exact Fr.app N_21 N_22q
  refine Go.st st_22 ?_
  rw [sm_22] at e_22
  show Go p e below s _ _ _ T_22 (mkF m 179 #[.val (.int v), .val (.int px), .val (.int fx), .val (.int ps_1), .val (.int f_2), .val (.ref b_3), .val (.int (own_ln v)), .val (.int (own_end 4 v ps_1))] [(.int (b2i ((own_exp (5 : Int32) ps_1 v (own_ln v) f_2) = (own_exp (5 : Int32) ps_1 v (own_ln v) f_2))))])
  rw [show (b2i ((own_exp (5 : Int32) ps_1 v (own_ln v) f_2) = (own_exp (5 : Int32) ps_1 v (own_ln v) f_2))) = (1 : Int32) from b2i_pos (rfl : (own_exp (5 : Int32) ps_1 v (own_ln v) f_2) = (own_exp (5 : Int32) ps_1 v (own_ln v) f_2))]
  show Go p e below s _ _ _ T_22 (mkF m 179 #[.val (.int v), .val (.int px), .val (.int fx), .val (.int ps_1), .val (.int f_2), .val (.ref b_3), .val (.int (own_ln v)), .val (.int (own_end 4 v ps_1))] [(.int (1 : Int32))])
  refine Go.st (fun _ => XS.ifNo X_22.here hx rfl (hb hby at_179) rfl ((if0 _ _).trans (feq (by decide : ¬ ((1 : Int32) = (0 : Int32)))).1)) ?_
  show Go p e below s _ _ _ T_22 (mkF m 182 #[.val (.int v), .val (.int px), .val (.int fx), .val (.int ps_1), .val (.int f_2), .val (.ref b_3), .val (.int (own_ln v)), .val (.int (own_end 4 v ps_1))] [])
  refine Go.st (fun _ => XS.aload X_22.here hx rfl (hb hby at_182) rfl rfl) ?_
  show Go p e below s _ _ _ T_22 (mkF m 184 #[.val (.int v), .val (.int px), .val (.int fx), .val (.int ps_1), .val (.int f_2), .val (.ref b_3), .val (.int (own_ln v)), .val (.int (own_end 4 v ps_1))] [(.ref b_3)])
  refine Go.st (fun _ => XS.bipush X_22.here hx rfl (hb hby at_184)) ?_
  show Go p e below s _ _ _ T_22 (mkF m 186 #[.val (.int v), .val (.int px), .val (.int fx), .val (.int ps_1), .val (.int f_2), .val (.ref b_3), .val (.int (own_ln v)), .val (.int (own_end 4 v ps_1))] [(.int (6 : Int32)), (.ref b_3)])
  refine Go.st (fun _ => XS.iloadN X_22.here hx rfl (hb hby at_186) rfl) ?_
  show Go p e below s _ _ _ T_22 (mkF m 187 #[.val (.int v), .val (.int px), .val (.int fx), .val (.int ps_1), .val (.int f_2), .val (.ref b_3), .val (.int (own_ln v)), .val (.int (own_end 4 v ps_1))] [(.int ps_1), (.int (6 : Int32)), (.ref b_3)])
  refine Go.st (fun _ => XS.iloadN X_22.here hx rfl (hb hby at_187) rfl) ?_
  show Go p e below s _ _ _ T_22 (mkF m 188 #[.val (.int v), .val (.int px), .val (.int fx), .val (.int ps_1), .val (.int f_2), .val (.ref b_3), .val (.int (own_ln v)), .val (.int (own_end 4 v ps_1))] [(.int v), (.int ps_1), (.int (6 : Int32)), (.ref b_3)])
  refine Go.st (fun _ => XS.iload X_22.here hx rfl (hb hby at_188) rfl) ?_
  show Go p e below s _ _ _ T_22 (mkF m 190 #[.val (.int v), .val (.int px), .val (.int fx), .val (.int ps_1), .val (.int f_2), .val (.ref b_3), .val (.int (own_ln v)), .val (.int (own_end 4 v ps_1))] [(.int (own_ln v)), (.int v), (.int ps_1), (.int (6 : Int32)), (.ref b_3)])
  refine Go.st (fun _ => XS.iload X_22.here hx rfl (hb hby at_190) rfl) ?_
  show Go p e below s _ _ _ T_22 (mkF m 192 #[.val (.int v), .val (.int px), .val (.int fx), .val (.int ps_1), .val (.int f_2), .val (.ref b_3), .val (.int (own_ln v)), .val (.int (own_end 4 v ps_1))] [(.int f_2), (.int (own_ln v)), (.int v), (.int ps_1), (.int (6 : Int32)), (.ref b_3)])
  obtain ⟨_, _, ⟨T_23, L_23, kc_23, nc_23⟩, -, X_23, ⟨Lc_23, hQ_23, l_23, y_23, z_23⟩, st_23⟩ := Jvm.LawKit.callS X_22 hx (y := (⟨"com/example/sift_sentences/siftsentences/index/IndexFormatPutVarintPinLaw", "at", "([BIIIIB)Z"⟩ : MethodName)) hown (mvT hZ (hw _ (List.mem_of_getElem? (i := 9) rfl))) (mvT hZ (hw _ (List.mem_of_getElem? (i := 10) rfl))) (mvT hZ (hw _ (List.mem_of_getElem? (i := 3) rfl))) (mvT hZ (hw _ (List.mem_of_getElem? (i := 11) rfl))) (by decide) (backOf (W := 0) (rm3 l Z a0 hw [] b_3 (6 : Int32) ps_1 v (own_ln v) f_2 kA_3 (own_put 4 v ps_1 [(.int f_2), (.int f_2), (.int f_2), (.int f_2), (.int f_2), (.int f_2), (.int f_2), (.int f_2), (.int f_2), (.int f_2)]) (.int (0 : Int32)) (own_exp (6 : Int32) ps_1 v (own_ln v) f_2) h_15 n0 z_15q p_15_0 hf (by decide) (own_all v hps (6 : Int32) (by decide))) hZ (hw _ (List.mem_of_getElem? (i := 11) rfl)) (hw _ (List.mem_of_getElem? (i := 3) rfl)) (by decide) (by decide)) (g := (mkF m 192 #[.val (.int v), .val (.int px), .val (.int fx), .val (.int ps_1), .val (.int f_2), .val (.ref b_3), .val (.int (own_ln v)), .val (.int (own_end 4 v ps_1))] [(.int f_2), (.int (own_ln v)), (.int v), (.int ps_1), (.int (6 : Int32)), (.ref b_3)])) rfl (by rw [hml]; rfl) (argsL := [(.ref b_3), (.int (6 : Int32)), (.int ps_1), (.int v), (.int (own_ln v)), (.int f_2)]) (rest := []) (lenOf pd_3 rfl) rfl (by show 2 * 0 + _ ≤ _; exact Nat.le_of_eq rfl) (hb hby at_192) (fun _ _ => ⟨rfl, e_22, (by decide : 1 + 0 ≤ _), (by decide : 10 + 0 ≤ _)⟩)
  dsimp only [Pt.U, Pt.locs, Pt.cells, Pt.slots] at X_23 l_23 y_23 z_23 st_23 hQ_23
  obtain rfl : kc_23 = 1 := y_23
  obtain rfl : nc_23 = 10 := z_23
  obtain ⟨h_23, e_23⟩ : ∃ hh, T_23.heap = hh := ⟨_, rfl⟩
  rw [e_23] at hQ_23
  obtain ⟨rfl, N_23q, sm_23⟩ := hQ_23
  have N_23 : Fr n0 L_23 := by rw [l_23]; exact Fr.app N_22 N_23q
  refine Go.st st_23 ?_
  rw [sm_23] at e_23
  show Go p e below s _ _ _ T_23 (mkF m 195 #[.val (.int v), .val (.int px), .val (.int fx), .val (.int ps_1), .val (.int f_2), .val (.ref b_3), .val (.int (own_ln v)), .val (.int (own_end 4 v ps_1))] [(.int (b2i ((own_exp (6 : Int32) ps_1 v (own_ln v) f_2) = (own_exp (6 : Int32) ps_1 v (own_ln v) f_2))))])
  rw [show (b2i ((own_exp (6 : Int32) ps_1 v (own_ln v) f_2) = (own_exp (6 : Int32) ps_1 v (own_ln v) f_2))) = (1 : Int32) from b2i_pos (rfl : (own_exp (6 : Int32) ps_1 v (own_ln v) f_2) = (own_exp (6 : Int32) ps_1 v (own_ln v) f_2))]
  show Go p e below s _ _ _ T_23 (mkF m 195 #[.val (.int v), .val (.int px), .val (.int fx), .val (.int ps_1), .val (.int f_2), .val (.ref b_3), .val (.int (own_ln v)), .val (.int (own_end 4 v ps_1))] [(.int (1 : Int32))])
  refine Go.st (fun _ => XS.ifNo X_23.here hx rfl (hb hby at_195) rfl ((if0 _ _).trans (feq (by decide : ¬ ((1 : Int32) = (0 : Int32)))).1)) ?_
  show Go p e below s _ _ _ T_23 (mkF m 198 #[.val (.int v), .val (.int px), .val (.int fx), .val (.int ps_1), .val (.int f_2), .val (.ref b_3), .val (.int (own_ln v)), .val (.int (own_end 4 v ps_1))] [])
  refine Go.st (fun _ => XS.aload X_23.here hx rfl (hb hby at_198) rfl rfl) ?_
  show Go p e below s _ _ _ T_23 (mkF m 200 #[.val (.int v), .val (.int px), .val (.int fx), .val (.int ps_1), .val (.int f_2), .val (.ref b_3), .val (.int (own_ln v)), .val (.int (own_end 4 v ps_1))] [(.ref b_3)])
  refine Go.st (fun _ => XS.bipush X_23.here hx rfl (hb hby at_200)) ?_
  show Go p e below s _ _ _ T_23 (mkF m 202 #[.val (.int v), .val (.int px), .val (.int fx), .val (.int ps_1), .val (.int f_2), .val (.ref b_3), .val (.int (own_ln v)), .val (.int (own_end 4 v ps_1))] [(.int (7 : Int32)), (.ref b_3)])
  refine Go.st (fun _ => XS.iloadN X_23.here hx rfl (hb hby at_202) rfl) ?_
  show Go p e below s _ _ _ T_23 (mkF m 203 #[.val (.int v), .val (.int px), .val (.int fx), .val (.int ps_1), .val (.int f_2), .val (.ref b_3), .val (.int (own_ln v)), .val (.int (own_end 4 v ps_1))] [(.int ps_1), (.int (7 : Int32)), (.ref b_3)])
  refine Go.st (fun _ => XS.iloadN X_23.here hx rfl (hb hby at_203) rfl) ?_
  show Go p e below s _ _ _ T_23 (mkF m 204 #[.val (.int v), .val (.int px), .val (.int fx), .val (.int ps_1), .val (.int f_2), .val (.ref b_3), .val (.int (own_ln v)), .val (.int (own_end 4 v ps_1))] [(.int v), (.int ps_1), (.int (7 : Int32)), (.ref b_3)])
  refine Go.st (fun _ => XS.iload X_23.here hx rfl (hb hby at_204) rfl) ?_
  show Go p e below s _ _ _ T_23 (mkF m 206 #[.val (.int v), .val (.int px), .val (.int fx), .val (.int ps_1), .val (.int f_2), .val (.ref b_3), .val (.int (own_ln v)), .val (.int (own_end 4 v ps_1))] [(.int (own_ln v)), (.int v), (.int ps_1), (.int (7 : Int32)), (.ref b_3)])
  refine Go.st (fun _ => XS.iload X_23.here hx rfl (hb hby at_206) rfl) ?_
  show Go p e below s _ _ _ T_23 (mkF m 208 #[.val (.int v), .val (.int px), .val (.int fx), .val (.int ps_1), .val (.int f_2), .val (.ref b_3), .val (.int (own_ln v)), .val (.int (own_end 4 v ps_1))] [(.int f_2), (.int (own_ln v)), (.int v), (.int ps_1), (.int (7 : Int32)), (.ref b_3)])
  obtain ⟨_, _, ⟨T_24, L_24, kc_24, nc_24⟩, -, X_24, ⟨Lc_24, hQ_24, l_24, y_24, z_24⟩, st_24⟩ := Jvm.LawKit.callS X_23 hx (y := (⟨"com/example/sift_sentences/siftsentences/index/IndexFormatPutVarintPinLaw", "at", "([BIIIIB)Z"⟩ : MethodName)) hown (mvT hZ (hw _ (List.mem_of_getElem? (i := 9) rfl))) (mvT hZ (hw _ (List.mem_of_getElem? (i := 10) rfl))) (mvT hZ (hw _ (List.mem_of_getElem? (i := 3) rfl))) (mvT hZ (hw _ (List.mem_of_getElem? (i := 11) rfl))) (by decide) (backOf (W := 0) (rm3 l Z a0 hw [] b_3 (7 : Int32) ps_1 v (own_ln v) f_2 kA_3 (own_put 4 v ps_1 [(.int f_2), (.int f_2), (.int f_2), (.int f_2), (.int f_2), (.int f_2), (.int f_2), (.int f_2), (.int f_2), (.int f_2)]) (.int (0 : Int32)) (own_exp (7 : Int32) ps_1 v (own_ln v) f_2) h_15 n0 z_15q p_15_0 hf (by decide) (own_all v hps (7 : Int32) (by decide))) hZ (hw _ (List.mem_of_getElem? (i := 11) rfl)) (hw _ (List.mem_of_getElem? (i := 3) rfl)) (by decide) (by decide)) (g := (mkF m 208 #[.val (.int v), .val (.int px), .val (.int fx), .val (.int ps_1), .val (.int f_2), .val (.ref b_3), .val (.int (own_ln v)), .val (.int (own_end 4 v ps_1))] [(.int f_2), (.int (own_ln v)), (.int v), (.int ps_1), (.int (7 : Int32)), (.ref b_3)])) rfl (by rw [hml]; rfl) (argsL := [(.ref b_3), (.int (7 : Int32)), (.int ps_1), (.int v), (.int (own_ln v)), (.int f_2)]) (rest := []) (lenOf pd_3 rfl) rfl (by show 2 * 0 + _ ≤ _; exact Nat.le_of_eq rfl) (hb hby at_208) (fun _ _ => ⟨rfl, e_23, (by decide : 1 + 0 ≤ _), (by decide : 10 + 0 ≤ _)⟩)
  dsimp only [Pt.U, Pt.locs, Pt.cells, Pt.slots] at X_24 l_24 y_24 z_24 st_24 hQ_24
  obtain rfl : kc_24 = 1 := y_24
  obtain rfl : nc_24 = 10 := z_24
  obtain ⟨h_24, e_24⟩ : ∃ hh, T_24.heap = hh := ⟨_, rfl⟩
  rw [e_24] at hQ_24
  obtain ⟨rfl, N_24q, sm_24⟩ := hQ_24
  have N_24 : Fr n0 L_24 := by rw [l_24]; exact Fr.app N_23 N_24q
  refine Go.st st_24 ?_
  rw [sm_24] at e_24
  show Go p e below s _ _ _ T_24 (mkF m 211 #[.val (.int v), .val (.int px), .val (.int fx), .val (.int ps_1), .val (.int f_2), .val (.ref b_3), .val (.int (own_ln v)), .val (.int (own_end 4 v ps_1))] [(.int (b2i ((own_exp (7 : Int32) ps_1 v (own_ln v) f_2) = (own_exp (7 : Int32) ps_1 v (own_ln v) f_2))))])
  rw [show (b2i ((own_exp (7 : Int32) ps_1 v (own_ln v) f_2) = (own_exp (7 : Int32) ps_1 v (own_ln v) f_2))) = (1 : Int32) from b2i_pos (rfl : (own_exp (7 : Int32) ps_1 v (own_ln v) f_2) = (own_exp (7 : Int32) ps_1 v (own_ln v) f_2))]
  show Go p e below s _ _ _ T_24 (mkF m 211 #[.val (.int v), .val (.int px), .val (.int fx), .val (.int ps_1), .val (.int f_2), .val (.ref b_3), .val (.int (own_ln v)), .val (.int (own_end 4 v ps_1))] [(.int (1 : Int32))])
  refine Go.st (fun _ => XS.ifNo X_24.here hx rfl (hb hby at_211) rfl ((if0 _ _).trans (feq (by decide : ¬ ((1 : Int32) = (0 : Int32)))).1)) ?_
  show Go p e below s _ _ _ T_24 (mkF m 214 #[.val (.int v), .val (.int px), .val (.int fx), .val (.int ps_1), .val (.int f_2), .val (.ref b_3), .val (.int (own_ln v)), .val (.int (own_end 4 v ps_1))] [])
  refine Go.st (fun _ => XS.aload X_24.here hx rfl (hb hby at_214) rfl rfl) ?_
  show Go p e below s _ _ _ T_24 (mkF m 216 #[.val (.int v), .val (.int px), .val (.int fx), .val (.int ps_1), .val (.int f_2), .val (.ref b_3), .val (.int (own_ln v)), .val (.int (own_end 4 v ps_1))] [(.ref b_3)])
  refine Go.st (fun _ => XS.bipush X_24.here hx rfl (hb hby at_216)) ?_
  show Go p e below s _ _ _ T_24 (mkF m 218 #[.val (.int v), .val (.int px), .val (.int fx), .val (.int ps_1), .val (.int f_2), .val (.ref b_3), .val (.int (own_ln v)), .val (.int (own_end 4 v ps_1))] [(.int (8 : Int32)), (.ref b_3)])
  refine Go.st (fun _ => XS.iloadN X_24.here hx rfl (hb hby at_218) rfl) ?_
  show Go p e below s _ _ _ T_24 (mkF m 219 #[.val (.int v), .val (.int px), .val (.int fx), .val (.int ps_1), .val (.int f_2), .val (.ref b_3), .val (.int (own_ln v)), .val (.int (own_end 4 v ps_1))] [(.int ps_1), (.int (8 : Int32)), (.ref b_3)])
  refine Go.st (fun _ => XS.iloadN X_24.here hx rfl (hb hby at_219) rfl) ?_
  show Go p e below s _ _ _ T_24 (mkF m 220 #[.val (.int v), .val (.int px), .val (.int fx), .val (.int ps_1), .val (.int f_2), .val (.ref b_3), .val (.int (own_ln v)), .val (.int (own_end 4 v ps_1))] [(.int v), (.int ps_1), (.int (8 : Int32)), (.ref b_3)])
  refine Go.st (fun _ => XS.iload X_24.here hx rfl (hb hby at_220) rfl) ?_
  show Go p e below s _ _ _ T_24 (mkF m 222 #[.val (.int v), .val (.int px), .val (.int fx), .val (.int ps_1), .val (.int f_2), .val (.ref b_3), .val (.int (own_ln v)), .val (.int (own_end 4 v ps_1))] [(.int (own_ln v)), (.int v), (.int ps_1), (.int (8 : Int32)), (.ref b_3)])
  refine Go.st (fun _ => XS.iload X_24.here hx rfl (hb hby at_222) rfl) ?_
  show Go p e below s _ _ _ T_24 (mkF m 224 #[.val (.int v), .val (.int px), .val (.int fx), .val (.int ps_1), .val (.int f_2), .val (.ref b_3), .val (.int (own_ln v)), .val (.int (own_end 4 v ps_1))] [(.int f_2), (.int (own_ln v)), (.int v), (.int ps_1), (.int (8 : Int32)), (.ref b_3)])
  obtain ⟨_, _, ⟨T_25, L_25, kc_25, nc_25⟩, -, X_25, ⟨Lc_25, hQ_25, l_25, y_25, z_25⟩, st_25⟩ := Jvm.LawKit.callS X_24 hx (y := (⟨"com/example/sift_sentences/siftsentences/index/IndexFormatPutVarintPinLaw", "at", "([BIIIIB)Z"⟩ : MethodName)) hown (mvT hZ (hw _ (List.mem_of_getElem? (i := 9) rfl))) (mvT hZ (hw _ (List.mem_of_getElem? (i := 10) rfl))) (mvT hZ (hw _ (List.mem_of_getElem? (i := 3) rfl))) (mvT hZ (hw _ (List.mem_of_getElem? (i := 11) rfl))) (by decide) (backOf (W := 0) (rm3 l Z a0 hw [] b_3 (8 : Int32) ps_1 v (own_ln v) f_2 kA_3 (own_put 4 v ps_1 [(.int f_2), (.int f_2), (.int f_2), (.int f_2), (.int f_2), (.int f_2), (.int f_2), (.int f_2), (.int f_2), (.int f_2)]) (.int (0 : Int32)) (own_exp (8 : Int32) ps_1 v (own_ln v) f_2) h_15 n0 z_15q p_15_0 hf (by decide) (own_all v hps (8 : Int32) (by decide))) hZ (hw _ (List.mem_of_getElem? (i := 11) rfl)) (hw _ (List.mem_of_getElem? (i := 3) rfl)) (by decide) (by decide)) (g := (mkF m 224 #[.val (.int v), .val (.int px), .val (.int fx), .val (.int ps_1), .val (.int f_2), .val (.ref b_3), .val (.int (own_ln v)), .val (.int (own_end 4 v ps_1))] [(.int f_2), (.int (own_ln v)), (.int v), (.int ps_1), (.int (8 : Int32)), (.ref b_3)])) rfl (by rw [hml]; rfl) (argsL := [(.ref b_3), (.int (8 : Int32)), (.int ps_1), (.int v), (.int (own_ln v)), (.int f_2)]) (rest := []) (lenOf pd_3 rfl) rfl (by show 2 * 0 + _ ≤ _; exact Nat.le_of_eq rfl) (hb hby at_224) (fun _ _ => ⟨rfl, e_24, (by decide : 1 + 0 ≤ _), (by decide : 10 + 0 ≤ _)⟩)
  dsimp only [Pt.U, Pt.locs, Pt.cells, Pt.slots] at X_25 l_25 y_25 z_25 st_25 hQ_25
  obtain rfl : kc_25 = 1 := y_25
  obtain rfl : nc_25 = 10 := z_25
  obtain ⟨h_25, e_25⟩ : ∃ hh, T_25.heap = hh := ⟨_, rfl⟩
  rw [e_25] at hQ_25
  obtain ⟨rfl, N_25q, sm_25⟩ := hQ_25
  have N_25 : Fr n0 L_25 := by rw [l_25]; exact Fr.app N_24 N_25q
  refine Go.st st_25 ?_
  rw [sm_25] at e_25
  show Go p e below s _ _ _ T_25 (mkF m 227 #[.val (.int v), .val (.int px), .val (.int fx), .val (.int ps_1), .val (.int f_2), .val (.ref b_3), .val (.int (own_ln v)), .val (.int (own_end 4 v ps_1))] [(.int (b2i ((own_exp (8 : Int32) ps_1 v (own_ln v) f_2) = (own_exp (8 : Int32) ps_1 v (own_ln v) f_2))))])
  rw [show (b2i ((own_exp (8 : Int32) ps_1 v (own_ln v) f_2) = (own_exp (8 : Int32) ps_1 v (own_ln v) f_2))) = (1 : Int32) from b2i_pos (rfl : (own_exp (8 : Int32) ps_1 v (own_ln v) f_2) = (own_exp (8 : Int32) ps_1 v (own_ln v) f_2))]
  show Go p e below s _ _ _ T_25 (mkF m 227 #[.val (.int v), .val (.int px), .val (.int fx), .val (.int ps_1), .val (.int f_2), .val (.ref b_3), .val (.int (own_ln v)), .val (.int (own_end 4 v ps_1))] [(.int (1 : Int32))])
  refine Go.st (fun _ => XS.ifNo X_25.here hx rfl (hb hby at_227) rfl ((if0 _ _).trans (feq (by decide : ¬ ((1 : Int32) = (0 : Int32)))).1)) ?_
  show Go p e below s _ _ _ T_25 (mkF m 230 #[.val (.int v), .val (.int px), .val (.int fx), .val (.int ps_1), .val (.int f_2), .val (.ref b_3), .val (.int (own_ln v)), .val (.int (own_end 4 v ps_1))] [])
  refine Go.st (fun _ => XS.aload X_25.here hx rfl (hb hby at_230) rfl rfl) ?_
  show Go p e below s _ _ _ T_25 (mkF m 232 #[.val (.int v), .val (.int px), .val (.int fx), .val (.int ps_1), .val (.int f_2), .val (.ref b_3), .val (.int (own_ln v)), .val (.int (own_end 4 v ps_1))] [(.ref b_3)])
  refine Go.st (fun _ => XS.bipush X_25.here hx rfl (hb hby at_232)) ?_
  show Go p e below s _ _ _ T_25 (mkF m 234 #[.val (.int v), .val (.int px), .val (.int fx), .val (.int ps_1), .val (.int f_2), .val (.ref b_3), .val (.int (own_ln v)), .val (.int (own_end 4 v ps_1))] [(.int (9 : Int32)), (.ref b_3)])
  refine Go.st (fun _ => XS.iloadN X_25.here hx rfl (hb hby at_234) rfl) ?_
  show Go p e below s _ _ _ T_25 (mkF m 235 #[.val (.int v), .val (.int px), .val (.int fx), .val (.int ps_1), .val (.int f_2), .val (.ref b_3), .val (.int (own_ln v)), .val (.int (own_end 4 v ps_1))] [(.int ps_1), (.int (9 : Int32)), (.ref b_3)])
  refine Go.st (fun _ => XS.iloadN X_25.here hx rfl (hb hby at_235) rfl) ?_
  show Go p e below s _ _ _ T_25 (mkF m 236 #[.val (.int v), .val (.int px), .val (.int fx), .val (.int ps_1), .val (.int f_2), .val (.ref b_3), .val (.int (own_ln v)), .val (.int (own_end 4 v ps_1))] [(.int v), (.int ps_1), (.int (9 : Int32)), (.ref b_3)])
  refine Go.st (fun _ => XS.iload X_25.here hx rfl (hb hby at_236) rfl) ?_
  show Go p e below s _ _ _ T_25 (mkF m 238 #[.val (.int v), .val (.int px), .val (.int fx), .val (.int ps_1), .val (.int f_2), .val (.ref b_3), .val (.int (own_ln v)), .val (.int (own_end 4 v ps_1))] [(.int (own_ln v)), (.int v), (.int ps_1), (.int (9 : Int32)), (.ref b_3)])
  refine Go.st (fun _ => XS.iload X_25.here hx rfl (hb hby at_238) rfl) ?_
  show Go p e below s _ _ _ T_25 (mkF m 240 #[.val (.int v), .val (.int px), .val (.int fx), .val (.int ps_1), .val (.int f_2), .val (.ref b_3), .val (.int (own_ln v)), .val (.int (own_end 4 v ps_1))] [(.int f_2), (.int (own_ln v)), (.int v), (.int ps_1), (.int (9 : Int32)), (.ref b_3)])
  obtain ⟨_, _, ⟨T_26, L_26, kc_26, nc_26⟩, -, X_26, ⟨Lc_26, hQ_26, l_26, y_26, z_26⟩, st_26⟩ := Jvm.LawKit.callS X_25 hx (y := (⟨"com/example/sift_sentences/siftsentences/index/IndexFormatPutVarintPinLaw", "at", "([BIIIIB)Z"⟩ : MethodName)) hown (mvT hZ (hw _ (List.mem_of_getElem? (i := 9) rfl))) (mvT hZ (hw _ (List.mem_of_getElem? (i := 10) rfl))) (mvT hZ (hw _ (List.mem_of_getElem? (i := 3) rfl))) (mvT hZ (hw _ (List.mem_of_getElem? (i := 11) rfl))) (by decide) (backOf (W := 0) (rm3 l Z a0 hw [] b_3 (9 : Int32) ps_1 v (own_ln v) f_2 kA_3 (own_put 4 v ps_1 [(.int f_2), (.int f_2), (.int f_2), (.int f_2), (.int f_2), (.int f_2), (.int f_2), (.int f_2), (.int f_2), (.int f_2)]) (.int (0 : Int32)) (own_exp (9 : Int32) ps_1 v (own_ln v) f_2) h_15 n0 z_15q p_15_0 hf (by decide) (own_all v hps (9 : Int32) (by decide))) hZ (hw _ (List.mem_of_getElem? (i := 11) rfl)) (hw _ (List.mem_of_getElem? (i := 3) rfl)) (by decide) (by decide)) (g := (mkF m 240 #[.val (.int v), .val (.int px), .val (.int fx), .val (.int ps_1), .val (.int f_2), .val (.ref b_3), .val (.int (own_ln v)), .val (.int (own_end 4 v ps_1))] [(.int f_2), (.int (own_ln v)), (.int v), (.int ps_1), (.int (9 : Int32)), (.ref b_3)])) rfl (by rw [hml]; rfl) (argsL := [(.ref b_3), (.int (9 : Int32)), (.int ps_1), (.int v), (.int (own_ln v)), (.int f_2)]) (rest := []) (lenOf pd_3 rfl) rfl (by show 2 * 0 + _ ≤ _; exact Nat.le_of_eq rfl) (hb hby at_240) (fun _ _ => ⟨rfl, e_25, (by decide : 1 + 0 ≤ _), (by decide : 10 + 0 ≤ _)⟩)
  dsimp only [Pt.U, Pt.locs, Pt.cells, Pt.slots] at X_26 l_26 y_26 z_26 st_26 hQ_26
  obtain rfl : kc_26 = 1 := y_26
  obtain rfl : nc_26 = 10 := z_26
  obtain ⟨h_26, e_26⟩ : ∃ hh, T_26.heap = hh := ⟨_, rfl⟩
  rw [e_26] at hQ_26
  obtain ⟨rfl, N_26q, sm_26⟩ := hQ_26
  have N_26 : Fr n0 L_26 := by rw [l_26]; exact Fr.app N_25 N_26q
  refine Go.st st_26 ?_
  rw [sm_26] at e_26
  show Go p e below s _ _ _ T_26 (mkF m 243 #[.val (.int v), .val (.int px), .val (.int fx), .val (.int ps_1), .val (.int f_2), .val (.ref b_3), .val (.int (own_ln v)), .val (.int (own_end 4 v ps_1))] [(.int (b2i ((own_exp (9 : Int32) ps_1 v (own_ln v) f_2) = (own_exp (9 : Int32) ps_1 v (own_ln v) f_2))))])
  rw [show (b2i ((own_exp (9 : Int32) ps_1 v (own_ln v) f_2) = (own_exp (9 : Int32) ps_1 v (own_ln v) f_2))) = (1 : Int32) from b2i_pos (rfl : (own_exp (9 : Int32) ps_1 v (own_ln v) f_2) = (own_exp (9 : Int32) ps_1 v (own_ln v) f_2))]
  show Go p e below s _ _ _ T_26 (mkF m 243 #[.val (.int v), .val (.int px), .val (.int fx), .val (.int ps_1), .val (.int f_2), .val (.ref b_3), .val (.int (own_ln v)), .val (.int (own_end 4 v ps_1))] [(.int (1 : Int32))])
  refine Go.st (fun _ => XS.ifNo X_26.here hx rfl (hb hby at_243) rfl ((if0 _ _).trans (feq (by decide : ¬ ((1 : Int32) = (0 : Int32)))).1)) ?_
  show Go p e below s _ _ _ T_26 (mkF m 246 #[.val (.int v), .val (.int px), .val (.int fx), .val (.int ps_1), .val (.int f_2), .val (.ref b_3), .val (.int (own_ln v)), .val (.int (own_end 4 v ps_1))] [])
  refine Go.st (fun _ => XS.iconst X_26.here hx rfl (hb hby at_246)) ?_
  show Go p e below s _ _ _ T_26 (mkF m 247 #[.val (.int v), .val (.int px), .val (.int fx), .val (.int ps_1), .val (.int f_2), .val (.ref b_3), .val (.int (own_ln v)), .val (.int (own_end 4 v ps_1))] [(.int (1 : Int32))])
  refine Go.st (fun _ => XS.goto X_26.here hx rfl (pc0 := 247) (pc' := 251) rfl (hb hby at_247) (by decide) (by decide)) ?_
  show Go p e below s _ _ _ T_26 (mkF m 251 #[.val (.int v), .val (.int px), .val (.int fx), .val (.int ps_1), .val (.int f_2), .val (.ref b_3), .val (.int (own_ln v)), .val (.int (own_end 4 v ps_1))] [(.int (1 : Int32))])
  exact Go.retZ X_26 hx hlk Bd.returns (hb hby at_251) rfl (by rw [e_26]; exact ⟨rfl, N_26⟩) (by decide) (by decide)
set_option maxRecDepth 65536 in
set_option maxHeartbeats 40000000 in
theorem comes_1 {Post : Tables → Env → Array Value → State → Outcome → State → Prop} (hpost : ∀ tb e args s v u, (limb_1_1.after args s (.returned v) u = true ∧ limb_1_2.after args s (.returned v) u = true ∧ True) → FrameEnd s (.returned v) u (Jvm.fieldLocs frame_1_writes args s ++ Jvm.arrayLocs frame_1_arrays args s ++ Jvm.staticLocs frame_1_statics s) 16 128 → Post tb e args s (.returned v) u) :
    ArmFor flags0 classFile x code maxLocals ret World_1 tables_1 room_1 Calls_1 rest_1 Pre_1 Post := by
  intro l hfl _ _ p e ha hc hk s m args below hf hA hF happ hP
  obtain ⟨hcalls, hrest, hpre⟩ := hP
  obtain ⟨-, -, -, hnamed, -, -, -, hat⟩ := (Spec.applies_iff hf).mp happ
  obtain ⟨hg, hn⟩ := and_e (Cond.before_iff.mp (show (Jvm.Cond.and given_1 narrow_1).before args s = true from hpre))
  obtain ⟨g1, g2⟩ := and_e hg
  obtain ⟨g3, g4⟩ := and_e g2
  obtain ⟨g5, g6⟩ := and_e g4
  obtain ⟨w0, w1, w2, rfl⟩ : ∃ w0 w1 w2 : Value, args = #[w0, w1, w2] := by
    have hs : args.size = 3 := by simpa [Cond.value, given_1] using g1
    obtain ⟨L⟩ := args
    match L, hs with
    | [w0, w1, w2], _ => exact ⟨w0, w1, w2, rfl⟩
  have hw := fun d (hd : d ∈ tables_1) => atoms_spec (ws := Jvm.Cond.code x code maxLocals ret :: tables_1) hat d (List.mem_cons_of_mem _ hd)
  have hfit : Fit s := fun {y c} hc i hi => by
    obtain ⟨ha, rfl⟩ := Array.getElem?_eq_some_iff.mp hc
    have q := List.all_eq_true.mp ((Array.all_eq_true_iff_forall_mem.mp hF) _ (Array.getElem_mem ha)) i (List.mem_range.mpr hi)
    simpa [Array.getElem?_eq_getElem hi] using q
  obtain ⟨i0, ei0⟩ := is_v g3
  obtain rfl : w0 = (.int i0) := Option.some.inj ei0
  obtain ⟨i1, ei1⟩ := is_v g5
  obtain rfl : w1 = (.int i1) := Option.some.inj ei1
  obtain ⟨i2, ei2⟩ := is_v g6
  obtain rfl : w2 = (.int i2) := Option.some.inj ei2
  obtain ⟨n, o, h1, h2, h3, _, L, rfl, ⟨rfl, N⟩, hq⟩ := rm0 l s _ hw tables_1 i0 i1 i2 s.heap s.heap.size (Nat.le_refl _)  p e ha hc hk s m _ below hf ((Spec.applies_iff_loose hf).mp happ).1 ⟨rfl, State.Warmed39.refl s, rfl⟩ trivial
  refine ⟨n, _, h1, h2, h3, hpost _ _ _ _ _ _ ⟨Cond.after_iff.mpr rfl, Cond.after_iff.mpr (eq_i res_at (Term.int_eval (1)) rfl), trivial⟩ ⟨hq.1, hq.2.1, (hq.2.2.sift fun y hy => Or.inr (N y hy)).mono (by decide) (by decide)⟩⟩
theorem main_1_1 : Claimed_1_1 := comes_1 fun _ _ _ _ _ _ h hF => ⟨h.1, hF⟩
theorem main_1_2 : Claimed_1_2 := comes_1 fun _ _ _ _ _ _ h hF => ⟨h.2.1, hF⟩
end Jvm.Pilot.@@N@@
namespace Jvm.Pilot.@@N@@
open Jvm Jvm.ClassFile Sem Op Lib Jvm.Free Jvm.Stand Jvm.Pilot.@@N@@.Jvm.D
/-! MADE BY PROGRAM (witnessworld.py) out of the Statement's table words and the real class files: 9 classes; the members and pool entries that the words name. The judged class is class 1, her method 1. -/
namespace start1
open Jvm.ClassFile
def u (s : String) : CpInfo := .utf8 (stringToUtf16 s)
/-- a pool by its gaps: so many unusable entries, then the entry; so many at the end -/
def gap : Nat → List CpInfo → List CpInfo
  | 0, r => r
  | n + 1, r => .unusable :: gap n r
def poolList (es : List (Nat × CpInfo)) (last : Nat) : List CpInfo := es.foldr (fun e r => gap e.1 (e.2 :: r)) (gap last [])
def pool (es : List (Nat × CpInfo)) (last : Nat) : Array CpInfo := ⟨poolList es last⟩
def fileOf (pool : Array CpInfo) (this : Nat) (attrs : Array Attribute := #[]) (ms : Array MethodInfo := #[]) (fl : Nat := 33) (sup : Nat := 0) (ifs : Array Nat := #[]) (fds : Array FieldInfo := #[]) : ClassFile where
  minorVersion := 0
  majorVersion := 65
  constantPool := pool
  accessFlags := fl
  thisClass := this
  superClass := sup
  interfaces := ifs
  fields := fds
  methods := ms
  attributes := attrs
def plain (name : String) (sup : Option ClassId) : Class where
  name := name
  kind := .ordinary
  loader := none
  accessFlags := 33
  super := sup
  interfaces := #[]
  cf := none
  fields := #[]
  methods := #[]
  instanceTypes := #[]
  staticTypes := #[]
  resolved := #[]
  callSites := []
  init := .initialized
  statics := none
  mirror := none

def pool0 : Array CpInfo := pool [(5, u "<init>"), (0, u "()V"), (1, .class_ 10), (1, u "java/lang/Object")] 113

def k0m0 : Method := { name := "<init>", desc := "()V", sig := { parameters := [], returnType := none }, accessFlags := 1, code := none }
/-- java/lang/Object -/
def k0 : Class := { plain "java/lang/Object" none with
  accessFlags := 33
  interfaces := #[]
  cf := some (fileOf pool0 8 #[] #[{ accessFlags := 1, nameIndex := 5, descriptorIndex := 6, attributes := #[] }] 33 0 #[] #[])
  fields := #[]
  methods := #[k0m0]
  instanceTypes := #[]
  staticTypes := #[]
  resolved := Array.replicate 124 none
  statics := none }

def pool1 : Array CpInfo := pool [(2, .class_ 4), (1, u "java/lang/Object"), (0, u "<init>"), (0, u "()V"), (0, .methodref 8 9), (0, .class_ 10), (0, .nameAndType 11 12), (0, u "com/example/sift_sentences/siftsentences/index/IndexFormatPutVarintPinLaw"), (0, u "length"), (0, u "(I)I"), (0, .methodref 14 15), (0, .class_ 16), (0, .nameAndType 17 18), (0, u "com/example/sift_sentences/siftsentences/index/IndexFormat"), (0, u "putVarint"), (0, u "([BII)I"), (0, .methodref 8 20), (0, .nameAndType 21 22), (0, u "at"), (0, u "([BIIIIB)Z"), (0, .methodref 8 24), (0, .nameAndType 25 26), (0, u "expected"), (0, u "(IIIIB)B"), (2, u "law"), (0, u "(III)Z")] 5

def k1m0 : Method := { name := "<init>", desc := "()V", sig := { parameters := [], returnType := none }, accessFlags := 1, code := none }
def k1c1 : Code := { maxStack := 6, maxLocals := 8, code := code, exceptionTable := #[], attributes := #[] }
def k1m1 : Method := { name := "law", desc := "(III)Z", sig := { parameters := [.int, .int, .int], returnType := some .boolean }, accessFlags := 9, code := some k1c1 }
def k1c2 : Code := { maxStack := 2, maxLocals := 1, code := method_3_code, exceptionTable := #[], attributes := #[] }
def k1m2 : Method := { name := "length", desc := "(I)I", sig := { parameters := [.int], returnType := some .int }, accessFlags := 10, code := some k1c2 }
def k1c3 : Code := { maxStack := 6, maxLocals := 6, code := method_4_code, exceptionTable := #[], attributes := #[] }
def k1m3 : Method := { name := "at", desc := "([BIIIIB)Z", sig := { parameters := [(.array .byte), .int, .int, .int, .int, .byte], returnType := some .boolean }, accessFlags := 10, code := some k1c3 }
def k1c4 : Code := { maxStack := 3, maxLocals := 7, code := method_5_code, exceptionTable := #[], attributes := #[] }
def k1m4 : Method := { name := "expected", desc := "(IIIIB)B", sig := { parameters := [.int, .int, .int, .int, .byte], returnType := some .byte }, accessFlags := 10, code := some k1c4 }
/-- com/example/sift_sentences/siftsentences/index/IndexFormatPutVarintPinLaw -/
def k1 : Class := { plain "com/example/sift_sentences/siftsentences/index/IndexFormatPutVarintPinLaw" (some 0) with
  accessFlags := 49
  interfaces := #[]
  cf := some (fileOf pool1 8 #[] #[{ accessFlags := 1, nameIndex := 5, descriptorIndex := 6, attributes := #[] }, { accessFlags := 9, nameIndex := 29, descriptorIndex := 30, attributes := #[] }, { accessFlags := 10, nameIndex := 11, descriptorIndex := 12, attributes := #[] }, { accessFlags := 10, nameIndex := 21, descriptorIndex := 22, attributes := #[] }, { accessFlags := 10, nameIndex := 25, descriptorIndex := 26, attributes := #[] }] 49 2 #[] #[])
  fields := #[]
  methods := #[k1m0, k1m1, k1m2, k1m3, k1m4]
  instanceTypes := #[]
  staticTypes := #[]
  resolved := Array.replicate 36 none
  statics := none }

def pool2 : Array CpInfo := pool [(2, .class_ 4), (1, u "java/lang/Object"), (0, u "<init>"), (0, u "()V"), (0, .class_ 8), (0, u "com/example/sift_sentences/siftsentences/index/IndexFormat"), (2, u "putVarint"), (0, u "([BII)I"), (41, u "SUMMARY"), (0, u "Ljava/lang/String;"), (3, u "NEW_SUMMARY"), (2, u "LOCK"), (2, u "GENERATION_PREFIX"), (2, u "DOCUMENTS"), (2, u "LENGTHS"), (2, u "TEXTS"), (2, u "TEXT_OFFSETS"), (2, u "TERMS"), (2, u "POSTINGS"), (2, u "ENTITIES"), (2, u "ENTITY_POSTINGS"), (2, u "TITLE_TERMS"), (2, u "TITLE_POSTINGS"), (2, u "SENTENCE_ENTITIES"), (2, u "SENTENCE_ENTITY_OFFSETS"), (2, u "MENTIONS"), (2, u "MENTION_OFFSETS"), (2, u "MAGIC"), (0, u "I"), (1, u "VERSION"), (1, u "MAX_VARINT_BYTES")] 16

def k2m0 : Method := { name := "<init>", desc := "()V", sig := { parameters := [], returnType := none }, accessFlags := 2, code := none }
def k2c1 : Code := { maxStack := 4, maxLocals := 5, code := prog_14_method_2_code, exceptionTable := #[], attributes := #[] }
def k2m1 : Method := { name := "putVarint", desc := "([BII)I", sig := { parameters := [(.array .byte), .int, .int], returnType := some .int }, accessFlags := 8, code := some k2c1 }
/-- com/example/sift_sentences/siftsentences/index/IndexFormat -/
def k2 : Class := { plain "com/example/sift_sentences/siftsentences/index/IndexFormat" (some 0) with
  accessFlags := 32
  interfaces := #[]
  cf := some (fileOf pool2 7 #[] #[{ accessFlags := 2, nameIndex := 5, descriptorIndex := 6, attributes := #[] }, { accessFlags := 8, nameIndex := 11, descriptorIndex := 12, attributes := #[] }] 32 2 #[] #[{ accessFlags := 24, nameIndex := 54, descriptorIndex := 55, attributes := #[] }, { accessFlags := 24, nameIndex := 59, descriptorIndex := 55, attributes := #[] }, { accessFlags := 24, nameIndex := 62, descriptorIndex := 55, attributes := #[] }, { accessFlags := 24, nameIndex := 65, descriptorIndex := 55, attributes := #[] }, { accessFlags := 24, nameIndex := 68, descriptorIndex := 55, attributes := #[] }, { accessFlags := 24, nameIndex := 71, descriptorIndex := 55, attributes := #[] }, { accessFlags := 24, nameIndex := 74, descriptorIndex := 55, attributes := #[] }, { accessFlags := 24, nameIndex := 77, descriptorIndex := 55, attributes := #[] }, { accessFlags := 24, nameIndex := 80, descriptorIndex := 55, attributes := #[] }, { accessFlags := 24, nameIndex := 83, descriptorIndex := 55, attributes := #[] }, { accessFlags := 24, nameIndex := 86, descriptorIndex := 55, attributes := #[] }, { accessFlags := 24, nameIndex := 89, descriptorIndex := 55, attributes := #[] }, { accessFlags := 24, nameIndex := 92, descriptorIndex := 55, attributes := #[] }, { accessFlags := 24, nameIndex := 95, descriptorIndex := 55, attributes := #[] }, { accessFlags := 24, nameIndex := 98, descriptorIndex := 55, attributes := #[] }, { accessFlags := 24, nameIndex := 101, descriptorIndex := 55, attributes := #[] }, { accessFlags := 24, nameIndex := 104, descriptorIndex := 55, attributes := #[] }, { accessFlags := 24, nameIndex := 107, descriptorIndex := 55, attributes := #[] }, { accessFlags := 24, nameIndex := 110, descriptorIndex := 111, attributes := #[] }, { accessFlags := 24, nameIndex := 113, descriptorIndex := 111, attributes := #[] }, { accessFlags := 24, nameIndex := 115, descriptorIndex := 111, attributes := #[] }])
  fields := #[{ name := "SUMMARY", type := (.object "java/lang/String"), accessFlags := 24, slot := 0, constantValue := 0 }, { name := "NEW_SUMMARY", type := (.object "java/lang/String"), accessFlags := 24, slot := 1, constantValue := 0 }, { name := "LOCK", type := (.object "java/lang/String"), accessFlags := 24, slot := 2, constantValue := 0 }, { name := "GENERATION_PREFIX", type := (.object "java/lang/String"), accessFlags := 24, slot := 3, constantValue := 0 }, { name := "DOCUMENTS", type := (.object "java/lang/String"), accessFlags := 24, slot := 4, constantValue := 0 }, { name := "LENGTHS", type := (.object "java/lang/String"), accessFlags := 24, slot := 5, constantValue := 0 }, { name := "TEXTS", type := (.object "java/lang/String"), accessFlags := 24, slot := 6, constantValue := 0 }, { name := "TEXT_OFFSETS", type := (.object "java/lang/String"), accessFlags := 24, slot := 7, constantValue := 0 }, { name := "TERMS", type := (.object "java/lang/String"), accessFlags := 24, slot := 8, constantValue := 0 }, { name := "POSTINGS", type := (.object "java/lang/String"), accessFlags := 24, slot := 9, constantValue := 0 }, { name := "ENTITIES", type := (.object "java/lang/String"), accessFlags := 24, slot := 10, constantValue := 0 }, { name := "ENTITY_POSTINGS", type := (.object "java/lang/String"), accessFlags := 24, slot := 11, constantValue := 0 }, { name := "TITLE_TERMS", type := (.object "java/lang/String"), accessFlags := 24, slot := 12, constantValue := 0 }, { name := "TITLE_POSTINGS", type := (.object "java/lang/String"), accessFlags := 24, slot := 13, constantValue := 0 }, { name := "SENTENCE_ENTITIES", type := (.object "java/lang/String"), accessFlags := 24, slot := 14, constantValue := 0 }, { name := "SENTENCE_ENTITY_OFFSETS", type := (.object "java/lang/String"), accessFlags := 24, slot := 15, constantValue := 0 }, { name := "MENTIONS", type := (.object "java/lang/String"), accessFlags := 24, slot := 16, constantValue := 0 }, { name := "MENTION_OFFSETS", type := (.object "java/lang/String"), accessFlags := 24, slot := 17, constantValue := 0 }, { name := "MAGIC", type := .int, accessFlags := 24, slot := 18, constantValue := 0 }, { name := "VERSION", type := .int, accessFlags := 24, slot := 19, constantValue := 0 }, { name := "MAX_VARINT_BYTES", type := .int, accessFlags := 24, slot := 20, constantValue := 0 }]
  methods := #[k2m0, k2m1]
  instanceTypes := #[]
  staticTypes := #[(.object "java/lang/String"), (.object "java/lang/String"), (.object "java/lang/String"), (.object "java/lang/String"), (.object "java/lang/String"), (.object "java/lang/String"), (.object "java/lang/String"), (.object "java/lang/String"), (.object "java/lang/String"), (.object "java/lang/String"), (.object "java/lang/String"), (.object "java/lang/String"), (.object "java/lang/String"), (.object "java/lang/String"), (.object "java/lang/String"), (.object "java/lang/String"), (.object "java/lang/String"), (.object "java/lang/String"), .int, .int, .int]
  resolved := Array.replicate 132 none
  statics := none }

def pool3 : Array CpInfo := pool [(1, u "java/lang/Cloneable"), (0, .class_ 1), (0, u "java/lang/Object"), (0, .class_ 3)] 3

/-- java/lang/Cloneable -/
def k3 : Class := { plain "java/lang/Cloneable" (some 0) with
  accessFlags := 1537
  interfaces := #[]
  cf := some (fileOf pool3 2 #[] #[] 1537 4 #[] #[])
  fields := #[]
  methods := #[]
  instanceTypes := #[]
  staticTypes := #[]
  resolved := Array.replicate 8 none
  statics := none }

def pool4 : Array CpInfo := pool [(1, u "java/io/Serializable"), (0, .class_ 1), (0, u "java/lang/Object"), (0, .class_ 3)] 3

/-- java/io/Serializable -/
def k4 : Class := { plain "java/io/Serializable" (some 0) with
  accessFlags := 1537
  interfaces := #[]
  cf := some (fileOf pool4 2 #[] #[] 1537 4 #[] #[])
  fields := #[]
  methods := #[]
  instanceTypes := #[]
  staticTypes := #[]
  resolved := Array.replicate 8 none
  statics := none }

/-- the primitive byte -/
def k5 : Class := { plain "byte" none with kind := .primitive 'B', accessFlags := 0x411 }
/-- [B -/
def k6 : Class := { plain "[B" (some 0) with kind := .array 5 .byte, interfaces := #[3, 4], accessFlags := 1041 }

/-- the primitive int -/
def k7 : Class := { plain "int" none with kind := .primitive 'I', accessFlags := 0x411 }
/-- [I -/
def k8 : Class := { plain "[I" (some 0) with kind := .array 7 .int, interfaces := #[3, 4], accessFlags := 1041 }

def heap : Heap := #[]
def classes : Array Class := #[k0, k1, k2, k3, k4, k5, k6, k7, k8]
def interned : List (Array UInt16 × Addr) := []
def slotsUsed : Nat := 0
def theMethod : MethodId := ⟨1, 1⟩
def args0 : Array Value := #[.int 5, .int 6, .int 7]
def aboutOver (below : List Frame) : State where
  vm := { classes := classes, interned := interned.toArray }
  heap := heap
  slotsUsed := slotsUsed
  threads := #[{ frames := .invoking theMethod args0 :: below }]
def below0 : List Frame := [.native { method := ⟨0, 0⟩, args := #[] }]
def about1 : State := aboutOver below0
def p0 : Program := .bare "" "" ""
def e0 : Env := launch0.env 0 0 0
theorem w_frames : about1.frames = Frame.invoking theMethod args0 :: below0 := rfl
set_option maxRecDepth 65536 in
theorem w_args : argsFit about1.vm theMethod args0 = true := by decide +kernel
set_option maxRecDepth 65536 in
theorem w_heap : heapFits about1 = true := by decide +kernel
set_option maxRecDepth 65536 in
theorem w_runnable : about1.curStatus? = some .runnable := by decide +kernel
set_option maxRecDepth 65536 in
theorem w_alone : about1.alone = true := by decide +kernel
set_option maxRecDepth 65536 in
theorem w_named : about1.methodNamed? x = some theMethod := by decide +kernel
set_option maxRecDepth 65536 in
theorem w_hears : about1.hears theMethod below0 = true := by decide +kernel
set_option maxRecDepth 65536 in
theorem w_ripe : about1.ripe theMethod args0 below0 = true := by decide +kernel
theorem w_running : about1.status = .running := rfl
set_option maxRecDepth 65536 in
theorem w_room : about1.hasRoom e0.platform room_1 = true :=
  launch0.hasRoom_least _ room_1 (by decide +kernel) (by decide +kernel) (by decide +kernel) (by decide +kernel) (by decide +kernel) (by decide +kernel)
theorem allAtoms_all (ts : List Jvm.Cond) (a : Array Jvm.Value) (st : Jvm.State) : (allAtoms ts).before a st = ts.all (fun c => c.before a st) := by
  induction ts with
  | nil => rfl
  | cons c t ih =>
    show (Jvm.Cond.and c (allAtoms t)).before a st = _
    rw [Jvm.Cond.before_and, ih, List.all_cons]
def words1 : List Jvm.Cond := Jvm.Cond.code x code maxLocals ret :: tables_1
/-- a 'code' word, met by the world's own term for the bytes: nothing is compared byte by byte -/
theorem code_word {y : MethodName} {bytes : ByteArray} {mx : Nat} {rt : Option FieldType} {a : Array Value} {s : State} {m : MethodId} {meth : Method} {c : Code} (h1 : s.methodNamed? y = some m) (h2 : s.vm.method? m = some meth) (h3 : meth.code = some c) (h4 : c.code = bytes)
    (h5 : (c.maxLocals == mx && c.exceptionTable.isEmpty && decide (c.maxStack ≤ mostOperands) && decide (meth.sig.returnType = rt) && !meth.locks && decide (parseMethodDescriptor y.desc = some meth.sig)) = true) : (Jvm.Cond.code y bytes mx rt).before a s = true := by
  simp only [Bool.and_eq_true, beq_iff_eq, Bool.not_eq_true', decide_eq_true_eq] at h5
  obtain ⟨⟨⟨⟨⟨g1, g2⟩, g3⟩, g4⟩, g5⟩, g6⟩ := h5
  simp [Cond.before, Cond.holds, Cond.value, h1, h2, h3, h4, g1, g2, g3, g4, g5, g6]
def isCode : Jvm.Cond → Bool
  | .code _ _ _ _ => true
  | _ => false
theorem all_split {L : List Jvm.Cond} {P : Jvm.Cond → Bool} (h1 : L.all (fun c => isCode c || P c) = true) (h2 : ∀ c ∈ L.filter isCode, P c = true) : L.all P = true := by
  refine List.all_eq_true.mpr fun c hc => ?_
  have h := List.all_eq_true.mp h1 c hc
  rcases Bool.eq_false_or_eq_true (isCode c) with hi | hi
  · exact h2 c (List.mem_filter.mpr ⟨hc, hi⟩)
  · simpa [hi] using h
set_option maxRecDepth 65536 in
theorem w_c0 : (Jvm.Cond.code x code maxLocals ret).before args0 about1 = true := code_word (m := ⟨1, 1⟩) (meth := k1m1) (c := k1c1) (by decide +kernel) rfl rfl rfl (by decide +kernel)
set_option maxRecDepth 65536 in
theorem w_c1 : (Jvm.Cond.code ({ cls := "com/example/sift_sentences/siftsentences/index/IndexFormatPutVarintPinLaw", name := "length", desc := "(I)I" } : Jvm.MethodName) method_3_code (1 : Nat) (Option.some Jvm.ClassFile.FieldType.int)).before args0 about1 = true := code_word (m := ⟨1, 2⟩) (meth := k1m2) (c := k1c2) (by decide +kernel) rfl rfl rfl (by decide +kernel)
set_option maxRecDepth 65536 in
theorem w_c2 : (Jvm.Cond.code ({ cls := "com/example/sift_sentences/siftsentences/index/IndexFormat", name := "putVarint", desc := "([BII)I" } : Jvm.MethodName) prog_14_method_2_code (5 : Nat) (Option.some Jvm.ClassFile.FieldType.int)).before args0 about1 = true := code_word (m := ⟨2, 1⟩) (meth := k2m1) (c := k2c1) (by decide +kernel) rfl rfl rfl (by decide +kernel)
set_option maxRecDepth 65536 in
theorem w_c3 : (Jvm.Cond.code ({ cls := "com/example/sift_sentences/siftsentences/index/IndexFormatPutVarintPinLaw", name := "at", desc := "([BIIIIB)Z" } : Jvm.MethodName) method_4_code (6 : Nat) (Option.some Jvm.ClassFile.FieldType.boolean)).before args0 about1 = true := code_word (m := ⟨1, 3⟩) (meth := k1m3) (c := k1c3) (by decide +kernel) rfl rfl rfl (by decide +kernel)
set_option maxRecDepth 65536 in
theorem w_c4 : (Jvm.Cond.code ({ cls := "com/example/sift_sentences/siftsentences/index/IndexFormatPutVarintPinLaw", name := "expected", desc := "(IIIIB)B" } : Jvm.MethodName) method_5_code (7 : Nat) (Option.some Jvm.ClassFile.FieldType.byte)).before args0 about1 = true := code_word (m := ⟨1, 4⟩) (meth := k1m4) (c := k1c4) (by decide +kernel) rfl rfl rfl (by decide +kernel)
def codes1 : List Jvm.Cond := [Jvm.Cond.code x code maxLocals ret, Jvm.Cond.code ({ cls := "com/example/sift_sentences/siftsentences/index/IndexFormatPutVarintPinLaw", name := "length", desc := "(I)I" } : Jvm.MethodName) method_3_code (1 : Nat) (Option.some Jvm.ClassFile.FieldType.int), Jvm.Cond.code ({ cls := "com/example/sift_sentences/siftsentences/index/IndexFormat", name := "putVarint", desc := "([BII)I" } : Jvm.MethodName) prog_14_method_2_code (5 : Nat) (Option.some Jvm.ClassFile.FieldType.int), Jvm.Cond.code ({ cls := "com/example/sift_sentences/siftsentences/index/IndexFormatPutVarintPinLaw", name := "at", desc := "([BIIIIB)Z" } : Jvm.MethodName) method_4_code (6 : Nat) (Option.some Jvm.ClassFile.FieldType.boolean), Jvm.Cond.code ({ cls := "com/example/sift_sentences/siftsentences/index/IndexFormatPutVarintPinLaw", name := "expected", desc := "(IIIIB)B" } : Jvm.MethodName) method_5_code (7 : Nat) (Option.some Jvm.ClassFile.FieldType.byte)]
set_option maxRecDepth 65536 in
theorem codes_eq : words1.filter isCode = codes1 := rfl
theorem w_codes : ∀ c ∈ words1.filter isCode, c.before args0 about1 = true := by
  rw [codes_eq]
  intro c hc
  simp only [codes1, List.mem_cons, List.not_mem_nil, or_false] at hc
  rcases hc with rfl | rfl | rfl | rfl | rfl
  · exact w_c0
  · exact w_c1
  · exact w_c2
  · exact w_c3
  · exact w_c4
set_option maxRecDepth 65536 in
theorem w_t1 : words1.all (fun c => isCode c || c.before args0 about1) = true := by decide +kernel
theorem w_tables : (allAtoms (Jvm.Cond.code x code maxLocals ret :: tables_1)).before args0 about1 = true := by
  rw [allAtoms_all]
  show words1.all (fun c => c.before args0 about1) = true
  refine all_split ?_ w_codes
  rw [w_t1]
set_option maxRecDepth 65536 in
theorem w_case : (Jvm.Cond.and given_1 narrow_1).before args0 about1 = true := by decide +kernel
theorem w_applies : (headSpec (Jvm.Cond.code x code maxLocals ret :: tables_1) room_1).applies x e0.platform about1 = true :=
  (Spec.applies_iff w_frames).mpr ⟨w_running, w_runnable, w_alone, w_named, w_hears, w_ripe, w_room, w_tables⟩
theorem atStart : AtStart classFile x code maxLocals ret World_1 tables_1 room_1 Calls_1 rest_1 Pre_1 launch0 p0 e0 about1 theMethod args0 below0 :=
  ⟨lists_1, trivial, launch0.admits_env _ _ _, launch0.least_env, fairChoices_fair.cas, fairChoices_fair.clock, w_frames, w_args, w_heap, w_applies, trivial, trivial, w_case⟩
end start1
theorem witness_1 : WitnessClaimed_1 := ⟨start1.p0, start1.e0, start1.about1, start1.theMethod, start1.args0, start1.below0, start1.atStart⟩
end Jvm.Pilot.@@N@@
