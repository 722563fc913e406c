import JvmDerived
import JvmDerived.Pilot.@@N@@Statement
import JvmDerived.Pilot.@@N@@Code
set_option linter.unusedVariables false
set_option linter.unusedSimpArgs false
namespace Jvm.OwnKit
open Sem ClassFile Op Lib Jvm.Stand Jvm.Free Jvm.LawKit Jvm.RoadKit
/-- from the frame g over T the run ends, and what it leaves is Q's -/
def Go (p : Program) (e : Env) (below : List Frame) (s : State) (Q : Option Value → Heap → List Loc → Prop) (C S : Nat) (T : State) (g : JFrame) : Prop :=
  ∃ s₂ o, Steps p.tables e below (T.setTop g) s₂ ∧ s₂.status = .running ∧ Ended s₂ below o ∧ ∃ v L, o = .returned v ∧ Q v s₂.heap L ∧ FrameEnd s o s₂ L C S
section OwnGo
variable {p : Program} {l : Launch} {e : Env} {R : Room} {s : State} {m : MethodId} {args : Array Value} {below : List Frame} {meth : Method} {c : Code} {T T' : State} {locs : List Loc} {cells slots : Nat} {Q : Option Value → Heap → List Loc → Prop} {C S : Nat} {g g' : JFrame}
theorem Go.st (h : ∀ t, Steps p.tables e below (T'.setTop g') t → Steps p.tables e below (T.setTop g) t) (k : Go p e below s Q C S T' g') : Go p e below s Q C S T g := by
  obtain ⟨s₂, o, h1, h2⟩ := k
  exact ⟨s₂, o, h _ h1, h2⟩
theorem Go.eq (q : g = g') (k : Go p e below s Q C S T g') : Go p e below s Q C S T g := q ▸ k
theorem Go.retV (X : Stand p l e R s m args below meth c T locs cells slots) (hx : p.tables.exec = Jvm.exec) (hlk : meth.locks = false) {pc : Nat} {Ls : Array Slot} {w : Value} {t : FieldType} {i : Instr} {rest : List Value} (hret : meth.sig.returnType = some t) (hn : narrow t w = w)
    (hi : (i = .ireturn ∧ (t = .int ∨ t = .boolean ∨ t = .byte ∨ t = .char ∨ t = .short) ∧ ∃ z, w = .int z) ∨ (i = .lreturn ∧ t = .long ∧ ∃ z, w = .long z) ∨ (i = .dreturn ∧ t = .double ∧ ∃ z, w = .double z) ∨ (i = .freturn ∧ t = .float ∧ ∃ z, w = .float z) ∨ (i = .areturn ∧ t.isReference = true ∧ w.isRef = true))
    (hd : decode c.code pc = .ok (i, 1)) (hQ : Q (some w) T.heap locs) (hc : cells ≤ C) (hs : slots ≤ S) : Go p e below s Q C S T (mkF m pc Ls (w :: rest)) := by
  obtain ⟨fs, hr, hrun, hended, hW, hsame⟩ := X.leave (v := some w) (fun h => by rw [hret] at h; cases h) hlk
  exact ⟨_, _, retOut X hx hret hn hi hd hr, hrun, hended, _, _, rfl, hQ, ⟨_, rfl⟩, hW, hsame.mono hc hs⟩
theorem Go.retI (X : Stand p l e R s m args below meth c T locs cells slots) (hx : p.tables.exec = Jvm.exec) (hlk : meth.locks = false) {pc : Nat} {Ls : Array Slot} {z : Int32} {rest : List Value} (hret : meth.sig.returnType = some .int) (hd : decode c.code pc = .ok (.ireturn, 1)) (hQ : Q (some (.int z)) T.heap locs) (hc : cells ≤ C) (hs : slots ≤ S) : Go p e below s Q C S T (mkF m pc Ls (.int z :: rest)) :=
  Go.retV X hx hlk hret rfl (Or.inl ⟨rfl, Or.inl rfl, _, rfl⟩) hd hQ hc hs
theorem Go.retZ (X : Stand p l e R s m args below meth c T locs cells slots) (hx : p.tables.exec = Jvm.exec) (hlk : meth.locks = false) {pc : Nat} {Ls : Array Slot} {z : Int32} {rest : List Value} (hret : meth.sig.returnType = some .boolean) (hd : decode c.code pc = .ok (.ireturn, 1)) (hn : narrow .boolean (.int z) = .int z) (hQ : Q (some (.int z)) T.heap locs) (hc : cells ≤ C) (hs : slots ≤ S) : Go p e below s Q C S T (mkF m pc Ls (.int z :: rest)) :=
  Go.retV X hx hlk hret hn (Or.inl ⟨rfl, Or.inr (Or.inl rfl), _, rfl⟩) hd hQ hc hs
theorem Go.retB (X : Stand p l e R s m args below meth c T locs cells slots) (hx : p.tables.exec = Jvm.exec) (hlk : meth.locks = false) {pc : Nat} {Ls : Array Slot} {z : Int32} {rest : List Value} (hret : meth.sig.returnType = some .byte) (hd : decode c.code pc = .ok (.ireturn, 1)) (hn : narrow .byte (.int z) = .int z) (hQ : Q (some (.int z)) T.heap locs) (hc : cells ≤ C) (hs : slots ≤ S) : Go p e below s Q C S T (mkF m pc Ls (.int z :: rest)) :=
  Go.retV X hx hlk hret hn (Or.inl ⟨rfl, Or.inr (Or.inr (Or.inl rfl)), _, rfl⟩) hd hQ hc hs
theorem Go.retC (X : Stand p l e R s m args below meth c T locs cells slots) (hx : p.tables.exec = Jvm.exec) (hlk : meth.locks = false) {pc : Nat} {Ls : Array Slot} {z : Int32} {rest : List Value} (hret : meth.sig.returnType = some .char) (hd : decode c.code pc = .ok (.ireturn, 1)) (hn : narrow .char (.int z) = .int z) (hQ : Q (some (.int z)) T.heap locs) (hc : cells ≤ C) (hs : slots ≤ S) : Go p e below s Q C S T (mkF m pc Ls (.int z :: rest)) :=
  Go.retV X hx hlk hret hn (Or.inl ⟨rfl, Or.inr (Or.inr (Or.inr (Or.inl rfl))), _, rfl⟩) hd hQ hc hs
theorem Go.retJ (X : Stand p l e R s m args below meth c T locs cells slots) (hx : p.tables.exec = Jvm.exec) (hlk : meth.locks = false) {pc : Nat} {Ls : Array Slot} {z : Int64} {rest : List Value} (hret : meth.sig.returnType = some .long) (hd : decode c.code pc = .ok (.lreturn, 1)) (hQ : Q (some (.long z)) T.heap locs) (hc : cells ≤ C) (hs : slots ≤ S) : Go p e below s Q C S T (mkF m pc Ls (.long z :: rest)) :=
  Go.retV X hx hlk hret rfl (Or.inr (Or.inl ⟨rfl, rfl, _, rfl⟩)) hd hQ hc hs
theorem own_nar_ref {t : FieldType} {w : Value} (hw : w.isRef = true) : narrow t w = w := by
  rcases ref_cases hw with rfl | ⟨_, rfl⟩ <;> cases t <;> rfl
theorem Go.retA (X : Stand p l e R s m args below meth c T locs cells slots) (hx : p.tables.exec = Jvm.exec) (hlk : meth.locks = false) {pc : Nat} {Ls : Array Slot} {w : Value} {t : FieldType} {rest : List Value} (hret : meth.sig.returnType = some t) (ht : t.isReference = true) (hw : w.isRef = true) (hd : decode c.code pc = .ok (.areturn, 1)) (hQ : Q (some w) T.heap locs) (hc : cells ≤ C) (hs : slots ≤ S) : Go p e below s Q C S T (mkF m pc Ls (w :: rest)) :=
  Go.retV X hx hlk hret (own_nar_ref hw) (Or.inr (Or.inr (Or.inr (Or.inr ⟨rfl, ht, hw⟩)))) hd hQ hc hs
theorem Go.ret0 (X : Stand p l e R s m args below meth c T locs cells slots) (hx : p.tables.exec = Jvm.exec) (hlk : meth.locks = false) {pc : Nat} {Ls : Array Slot} (hret : meth.sig.returnType = none) (hd : decode c.code pc = .ok (.return_, 1)) (hQ : Q none T.heap locs) (hc : cells ≤ C) (hs : slots ≤ S) : Go p e below s Q C S T (mkF m pc Ls []) := by
  obtain ⟨fs, hr, hrun, hended, hW, hsame⟩ := X.leave (v := none) (fun _ => rfl) hlk
  exact ⟨_, _, X.returnOut hx hret hd hr, hrun, hended, _, _, rfl, hQ, ⟨_, rfl⟩, hW, hsame.mono hc hs⟩
end OwnGo
/-- a proposition as Java's boolean -/
def b2i (P : Prop) [Decidable P] : Int32 := if P then 1 else 0
theorem b2i_pos {P : Prop} [Decidable P] (h : P) : b2i P = 1 := if_pos h
theorem b2i_neg {P : Prop} [Decidable P] (h : ¬ P) : b2i P = 0 := if_neg h
theorem b2i_ne {P : Prop} [Decidable P] (h : P) : ¬ b2i P = 0 := by rw [b2i_pos h]; decide
theorem b2i_zero {P : Prop} [Decidable P] (h : ¬ P) : b2i P = 0 := b2i_neg h
theorem own_b2i_t {P : Prop} [Decidable P] (h : P) : some (Value.int 1) = some (Value.int (b2i P)) := by rw [b2i_pos h]
theorem own_b2i_f {P : Prop} [Decidable P] (h : ¬ P) : some (Value.int 0) = some (Value.int (b2i P)) := by rw [b2i_neg h]
theorem own_nb (y : Int32) : nar .byte (y.toInt8.toInt32) = y.toInt8.toInt32 := by
  show y.toInt8.toInt32.toInt8.toInt32 = y.toInt8.toInt32
  simp
theorem own_nc (y : Int32) : nar .char (y.toUInt32.toUInt16.toUInt32.toInt32) = y.toUInt32.toUInt16.toUInt32.toInt32 := by
  show (y.toUInt32.toUInt16.toUInt32.toInt32).toUInt32.toUInt16.toUInt32.toInt32 = y.toUInt32.toUInt16.toUInt32.toInt32
  rw [UInt32.toUInt32_toInt32, UInt16.toUInt16_toUInt32]
theorem own_nbv (y : Int32) : narrow .byte (.int (y.toInt8.toInt32)) = .int (y.toInt8.toInt32) := congrArg Value.int (own_nb y)
theorem own_and1 (a : Int32) : a &&& (1 : Int32) = (0 : Int32) ∨ a &&& (1 : Int32) = (1 : Int32) := and_one a
theorem own_and3 (a : Int32) : a &&& (3 : Int32) = (0 : Int32) ∨ a &&& (3 : Int32) = (1 : Int32) ∨ a &&& (3 : Int32) = (2 : Int32) ∨ a &&& (3 : Int32) = (3 : Int32) := by
  have e := c_mask a 3 2 (by decide) (by decide)
  have h : (a &&& (3 : Int32)).toInt = 0 ∨ (a &&& (3 : Int32)).toInt = 1 ∨ (a &&& (3 : Int32)).toInt = 2 ∨ (a &&& (3 : Int32)).toInt = 3 := by omega
  rcases h with h | h | h | h
  · exact Or.inl (Int32.toInt_inj.mp (h.trans (by decide)))
  · exact Or.inr (Or.inl (Int32.toInt_inj.mp (h.trans (by decide))))
  · exact Or.inr (Or.inr (Or.inl (Int32.toInt_inj.mp (h.trans (by decide)))))
  · exact Or.inr (Or.inr (Or.inr (Int32.toInt_inj.mp (h.trans (by decide)))))
theorem own_ord {s : State} {args : Array Value} {t : Term} {a : Addr} {C n d : String} {k : Int32} (ev : t.eval args s none [] s = some (.ref a)) (h : (Jvm.Cond.eq (Term.field t C n d) (Term.int k)).value args s none s [] = some true) : Fld s s.heap a C n d (.int k) := by
  obtain ⟨u, w, hu, hw, k1, k2⟩ := cmp_v (Or.inl h)
  have hw' : (Term.int k).eval args s none [] s = some (.int k) := Term.int_eval k
  cases hw.symm.trans hw'
  obtain ⟨z, rfl⟩ : ∃ z, u = .int z := k2
  have hz : z = k := gotT (Cond.eq_ints hu hw') h
  subst hz
  exact Fld.start ((fld_at ev).symm.trans hu)
section OwnBounds
variable {c a b : Int32} {n : Int}
theorem own_i1 (h : c < a) (q : a.toInt ≤ b.toInt) : c < b := by rw [Int32.lt_iff_toInt_lt] at *; omega
theorem own_i2 (h : ¬ a < c) (q : a.toInt < b.toInt) : c < b := by rw [Int32.lt_iff_toInt_lt] at *; omega
theorem own_i3 (h : ¬ c < a) (q : b.toInt ≤ a.toInt) : ¬ c < b := by rw [Int32.lt_iff_toInt_lt] at *; omega
theorem own_i4 (h : a < c) (q : b.toInt ≤ a.toInt + 1) : ¬ c < b := by rw [Int32.lt_iff_toInt_lt] at *; omega
theorem own_j1 (h : c < a) (q : a.toInt ≤ b.toInt + 1) : ¬ b < c := by rw [Int32.lt_iff_toInt_lt] at *; omega
theorem own_j2 (h : ¬ a < c) (q : a.toInt ≤ b.toInt) : ¬ b < c := by rw [Int32.lt_iff_toInt_lt] at *; omega
theorem own_j3 (h : ¬ c < a) (q : b.toInt < a.toInt) : b < c := by rw [Int32.lt_iff_toInt_lt] at *; omega
theorem own_j4 (h : a < c) (q : b.toInt ≤ a.toInt) : b < c := by rw [Int32.lt_iff_toInt_lt] at *; omega
theorem own_k1 (h : c < a) (q : a.toInt ≤ b.toInt) : ¬ c = b := fun e => by rw [e, Int32.lt_iff_toInt_lt] at h; omega
theorem own_k2 (h : ¬ a < c) (q : a.toInt < b.toInt) : ¬ c = b := fun e => by rw [e, Int32.lt_iff_toInt_lt] at h; omega
theorem own_k3 (h : ¬ c < a) (q : b.toInt < a.toInt) : ¬ c = b := fun e => by rw [e, Int32.lt_iff_toInt_lt] at h; omega
theorem own_k4 (h : a < c) (q : b.toInt ≤ a.toInt) : ¬ c = b := fun e => by rw [e, Int32.lt_iff_toInt_lt] at h; omega
theorem own_c1 (h : c < a) (q : a.toInt = n) : c.toInt < n := by rw [Int32.lt_iff_toInt_lt] at h; omega
theorem own_c2 (h : ¬ a < c) (q : a.toInt = n) : c.toInt ≤ n := by rw [Int32.lt_iff_toInt_lt] at h; omega
theorem own_c3 (h : ¬ c < a) (q : a.toInt = n) : n ≤ c.toInt := by rw [Int32.lt_iff_toInt_lt] at h; omega
theorem own_c4 (h : a < c) (q : a.toInt = n) : n < c.toInt := by rw [Int32.lt_iff_toInt_lt] at h; omega
theorem own_c5 (h : c = a) (q : a.toInt = n) : c.toInt = n := by rw [h]; exact q
theorem own_c6 (h : ¬ c = a) (q : a.toInt = n) : ¬ c.toInt = n := fun e => h (Int32.toInt_inj.mp (e.trans q.symm))
end OwnBounds
theorem own_addc {a b c d : Int32} (h : b + c = d) : (a + b) + c = a + d := by rw [Int32.add_assoc, h]
theorem own_byte_of {v : Value} (h : fits .byte v = true) : ∃ w, v = .int w ∧ narrow .byte (.int w) = .int w := by
  cases v with
  | int w =>
    refine ⟨w, rfl, ?_⟩
    obtain ⟨h1, h2⟩ := rng_byte h
    have e := c_i2b w
    have e1 : (-128 : Int32).toInt = -128 := by decide
    have e2 : (127 : Int32).toInt = 127 := by decide
    rw [Int32.lt_iff_toInt_lt, e1] at h1
    rw [Int32.lt_iff_toInt_lt, e2] at h2
    have e3 : w.toInt8.toInt32 = w := Int32.toInt_inj.mp (by omega)
    exact congrArg Value.int e3
  | _ => simp [fits] at h
theorem own_arv_nostat {Z : State} {h : Heap} {a : Addr} {k : ClassId} {ty : FieldType} {z : Int32} {vs : List Value} {dv : Value} (F : Arv Z h a k ty z vs dv) : ∀ cell : Cell, h[a]? = some cell → cell.vm.isStatics = false := by
  obtain ⟨c, A, -⟩ := F
  intro cell hc
  cases A.1.symm.trans hc
  exact A.plain
theorem own_selP {s : State} {args : Array Value} {y y' : MethodName} (hsel : (Jvm.Cond.selects y'.cls y' y').before args s = true) (he : y.cls = y'.cls) (hp : s.PrivateAt y) (hi : (Jvm.Cond.instanceMethod y).before args s = true) (hy : y.cls ≠ "java/lang/invoke/MethodHandle" ∧ y.cls ≠ "java/lang/invoke/VarHandle") : (Jvm.Cond.selects y.cls y y).before args s = true := by
  obtain ⟨c2, r2, m2, -, -, q3, -, kP, hkP, hkPi⟩ := Cond.selects_spec hsel
  exact Jvm.Stand.selects_self_of_private (by rw [he]; exact findClass_of_methodNamed q3) hkP hkPi hp hi hy
theorem own_irr {a : Int32} : ¬ (a < a) := Int32.lt_irrefl
theorem own_irrL {a : Int64} : ¬ (a < a) := Int64.lt_irrefl
theorem own_sta_keep {Z : State} {h h' : Heap} {C n d : String} {v : Value} {ws : List Addr} (F : Sta Z h C n d v) (K : Keep h h' ws) (q : ∀ x ∈ ws, ∀ cell : Cell, h[x]? = some cell → cell.vm.isStatics = false) : Sta Z h' C n d v := by
  obtain ⟨cf, i, k, f, st, cell, h1, h2, h3, h4, h5, h6, h7⟩ := F
  refine ⟨cf, i, k, f, st, cell, h1, h2, h3, h4, K.2.1 _ _ h5 (fun hm => ?_), h6, h7⟩
  have := q _ hm _ h5
  rw [h6] at this
  cases this
end Jvm.OwnKit
namespace Jvm.Pilot.@@N@@
open Jvm Jvm.ClassFile Sem Op Lib Jvm.Free Jvm.Stand Jvm.LawKit Jvm.RoadKit Jvm.OwnKit Bundle Jvm.Pilot.@@N@@.Jvm.D
def own_slot (k : Int64) : Int32 := ((((k * (-7046029254386353131 : Int64)).toUInt64 >>> ((61 : Int32) &&& 0x3f).toInt64.toUInt64).toInt64).toInt32)
theorem own_slr (k : Int64) : 0 ≤ (own_slot k).toInt ∧ (own_slot k).toInt < 8 := by
  have e1 := c_lushr (k * (-7046029254386353131 : Int64)) (61 : Int32) 61 (by decide) (by decide)
  have e2 := c_l2i (((k * (-7046029254386353131 : Int64)).toUInt64 >>> ((61 : Int32) &&& 0x3f).toInt64.toUInt64).toInt64)
  have e3 := rng32 (own_slot k)
  have e4 : (own_slot k).toInt = ((((k * (-7046029254386353131 : Int64)).toUInt64 >>> ((61 : Int32) &&& 0x3f).toInt64.toUInt64).toInt64).toInt32).toInt := rfl
  rw [e1, ← e4] at e2
  have e5 : ((k * (-7046029254386353131 : Int64)).toInt % 18446744073709551616) / ((2 ^ 61 : Nat) : Int) < 8 := by omega
  have e6 : 0 ≤ ((k * (-7046029254386353131 : Int64)).toInt % 18446744073709551616) / ((2 ^ 61 : Nat) : Int) := by omega
  omega
def own_occ : List Int64 → Nat
  | k :: _ :: ks => (if k = (-9223372036854775808 : Int64) then 0 else 1) + own_occ ks
  | _ => 0
def own_inv (ks : List Int64) (n f : Int32) : Prop := ks.length = 16 ∧ n.toInt = own_occ ks + f.toInt ∧ (f = (0 : Int32) ∨ f = (1 : Int32))
theorem own_inv0 : own_inv [(-9223372036854775808 : Int64), (0 : Int64), (-9223372036854775808 : Int64), (0 : Int64), (-9223372036854775808 : Int64), (0 : Int64), (-9223372036854775808 : Int64), (0 : Int64), (-9223372036854775808 : Int64), (0 : Int64), (-9223372036854775808 : Int64), (0 : Int64), (-9223372036854775808 : Int64), (0 : Int64), (-9223372036854775808 : Int64), (0 : Int64)] (0 : Int32) (0 : Int32) := ⟨rfl, by decide, Or.inl rfl⟩
theorem own_l0 : (0 : Int32).toInt = 0 := by decide
theorem own_l1 : (1 : Int32).toInt = 1 := by decide
theorem own_l2 : (2 : Int32).toInt = 2 := by decide
theorem own_l16 : (16 : Int32).toInt = 16 := by decide
section OwnMap
variable {i n f : Int32} {k v : Int64} {ks : List Int64} {L : List Value} {d : Nat}
theorem own_2it (hi : 0 ≤ i.toInt ∧ i.toInt < 8) : ((2 : Int32) * i).toInt = 2 * i.toInt := by
  have e1 := c_imul (2 : Int32) i
  have e2 := rng32 ((2 : Int32) * i)
  rw [own_l2] at e1
  omega
theorem own_2it1 (hi : 0 ≤ i.toInt ∧ i.toInt < 8) : (((2 : Int32) * i) + (1 : Int32)).toInt = 2 * i.toInt + 1 := by
  have e0 := own_2it hi
  have e1 := c_iadd ((2 : Int32) * i) (1 : Int32)
  have e2 := rng32 (((2 : Int32) * i) + (1 : Int32))
  rw [own_l1] at e1
  omega
theorem own_2i (hi : 0 ≤ i.toInt ∧ i.toInt < 8) : ¬ ((2 : Int32) * i) < 0 ∧ ((2 : Int32) * i) < (16 : Int32) := by
  have e := own_2it hi
  rw [Int32.lt_iff_toInt_lt, Int32.lt_iff_toInt_lt, own_l0, own_l16]
  omega
theorem own_2i1 (hi : 0 ≤ i.toInt ∧ i.toInt < 8) : ¬ (((2 : Int32) * i) + (1 : Int32)) < 0 ∧ (((2 : Int32) * i) + (1 : Int32)) < (16 : Int32) := by
  have e := own_2it1 hi
  rw [Int32.lt_iff_toInt_lt, Int32.lt_iff_toInt_lt, own_l0, own_l16]
  omega
theorem own_nat2 (hi : 0 ≤ i.toInt ∧ i.toInt < 8) : ((2 : Int32) * i).toNatClampNeg = 2 * i.toInt.toNat := by
  have e := own_2it hi
  have e2 := nat_of (own_2i hi).1
  omega
theorem own_nat21 (hi : 0 ≤ i.toInt ∧ i.toInt < 8) : (((2 : Int32) * i) + (1 : Int32)).toNatClampNeg = 2 * i.toInt.toNat + 1 := by
  have e := own_2it1 hi
  have e2 := nat_of (own_2i1 hi).1
  omega
theorem own_gm (ks : List Int64) (j : Nat) : (ks.map Value.long).getD j (.long (0 : Int64)) = .long (ks.getD j (0 : Int64)) := by
  simp only [List.getD, List.getElem?_map]
  cases ks[j]? <;> rfl
theorem own_get (hi : 0 ≤ i.toInt ∧ i.toInt < 8) : (ks.map Value.long).getD ((2 : Int32) * i).toNatClampNeg (.long (0 : Int64)) = .long (ks.getD (2 * i.toInt.toNat) (0 : Int64)) := by
  rw [own_nat2 hi]
  exact own_gm ks _
theorem own_lt2 (hi : 0 ≤ i.toInt ∧ i.toInt < 8) (h : L.length = 16) : ((2 : Int32) * i).toNatClampNeg < L.length := by
  rw [own_nat2 hi, h]
  omega
theorem own_lt21 (hi : 0 ≤ i.toInt ∧ i.toInt < 8) (h : L.length = 16) : (((2 : Int32) * i) + (1 : Int32)).toNatClampNeg < L.length := by
  rw [own_nat21 hi, h]
  omega
theorem own_ms {j : Nat} : (ks.set j v).map Value.long = (ks.map Value.long).set j (.long v) := List.map_set
theorem own_d0 (hi : 0 ≤ i.toInt ∧ i.toInt < 8) (hd : ks.getD (2 * ((i.toInt.toNat + 0) % 8)) (0 : Int64) = (-9223372036854775808 : Int64)) : ks.getD (2 * i.toInt.toNat) (0 : Int64) = (-9223372036854775808 : Int64) := by
  have e : (i.toInt.toNat + 0) % 8 = i.toInt.toNat := by omega
  rw [e] at hd
  exact hd
theorem own_nxt (hi : 0 ≤ i.toInt ∧ i.toInt < 8) : ((i + (1 : Int32)) &&& (7 : Int32)).toInt = (i.toInt + 1) % 8 := by
  have e := c_mask (i + (1 : Int32)) 7 3 (by decide) (by decide)
  have e1 := c_iadd i (1 : Int32)
  have e2 := rng32 (i + (1 : Int32))
  rw [own_l1] at e1
  have e3 : (i + (1 : Int32)).toInt = i.toInt + 1 := by omega
  rw [e, e3]
  rfl
theorem own_nx (hi : 0 ≤ i.toInt ∧ i.toInt < 8) : 0 ≤ ((i + (1 : Int32)) &&& (7 : Int32)).toInt ∧ ((i + (1 : Int32)) &&& (7 : Int32)).toInt < 8 := by
  have e := own_nxt hi
  omega
theorem own_nxd (hi : 0 ≤ i.toInt ∧ i.toInt < 8) (hd : ks.getD (2 * ((i.toInt.toNat + (d + 1)) % 8)) (0 : Int64) = (-9223372036854775808 : Int64)) : ks.getD (2 * ((((i + (1 : Int32)) &&& (7 : Int32)).toInt.toNat + d) % 8)) (0 : Int64) = (-9223372036854775808 : Int64) := by
  have e := own_nxt hi
  have e2 : (((i + (1 : Int32)) &&& (7 : Int32)).toInt.toNat + d) % 8 = (i.toInt.toNat + (d + 1)) % 8 := by omega
  rw [e2]
  exact hd
theorem own_occ_free : ∀ (ks : List Int64) (m : Nat), ks.length = 2 * m → own_occ ks < m → ∃ j, j < m ∧ ks.getD (2 * j) (0 : Int64) = (-9223372036854775808 : Int64)
  | [], m, h, h2 => by simp [own_occ] at h h2; omega
  | [_], m, h, h2 => by simp at h; omega
  | k :: w :: ks, m, h, h2 => by
    by_cases q : k = (-9223372036854775808 : Int64)
    · refine ⟨0, by simp at h; omega, ?_⟩
      simpa using q
    · have h3 : own_occ ks < m - 1 := by
        simp only [own_occ, if_neg q] at h2
        omega
      obtain ⟨j, hj, e⟩ := own_occ_free ks (m - 1) (by simp at h; omega) h3
      refine ⟨j + 1, by omega, ?_⟩
      have : 2 * (j + 1) = 2 * j + 1 + 1 := by omega
      rw [this]
      simpa using e
theorem own_free (hinv : own_inv ks n f) (hn : n.toInt ≤ 2) (u : Int32) : ∃ d : Nat, ks.getD (2 * ((u.toInt.toNat + d) % 8)) (0 : Int64) = (-9223372036854775808 : Int64) := by
  obtain ⟨h1, h2, h3⟩ := hinv
  have hf : 0 ≤ f.toInt := by
    rcases h3 with rfl | rfl <;> decide
  obtain ⟨j, hj, e⟩ := own_occ_free ks 8 (by omega) (by omega)
  refine ⟨j + 7 * u.toInt.toNat, ?_⟩
  have : (u.toInt.toNat + (j + 7 * u.toInt.toNat)) % 8 = j := by omega
  rw [this]
  exact e
theorem own_occ_set : ∀ (ks : List Int64) (j : Nat), 2 * j < ks.length → ks.length % 2 = 0 → ks.getD (2 * j) (0 : Int64) = (-9223372036854775808 : Int64) → ¬ k = (-9223372036854775808 : Int64) → own_occ (ks.set (2 * j) k) = own_occ ks + 1
  | [], j, h, _, _, _ => by simp at h
  | [_], j, h, h2, _, _ => by simp at h2
  | x1 :: w :: ks, 0, h, h2, e, hk => by
    have e' : x1 = (-9223372036854775808 : Int64) := by simpa using e
    simp [own_occ, e', hk]
    omega
  | x1 :: w :: ks, j + 1, h, h2, e, hk => by
    have q : 2 * (j + 1) = 2 * j + 1 + 1 := by omega
    rw [q] at e ⊢
    have e' : ks.getD (2 * j) (0 : Int64) = (-9223372036854775808 : Int64) := by simpa using e
    have ih := own_occ_set ks j (by simp at h; omega) (by simp at h2; omega) e' hk
    simp only [List.set_cons_succ, own_occ, ih]
    omega
theorem own_occ_odd : ∀ (ks : List Int64) (j : Nat), own_occ (ks.set (2 * j + 1) k) = own_occ ks
  | [], j => rfl
  | [_], j => by simp [own_occ]
  | x1 :: w :: ks, 0 => by simp [own_occ]
  | x1 :: w :: ks, j + 1 => by
    have q : 2 * (j + 1) + 1 = (2 * j + 1) + 1 + 1 := by omega
    have ih := own_occ_odd ks j
    rw [q]
    simp only [List.set_cons_succ, own_occ, ih]
theorem own_occ_pos : ∀ (ks : List Int64) (j : Nat), 2 * j < ks.length → ks.length % 2 = 0 → ¬ ks.getD (2 * j) (0 : Int64) = (-9223372036854775808 : Int64) → 1 ≤ own_occ ks
  | [], j, h, _, _ => by simp at h
  | [_], j, h, h2, _ => by simp at h2
  | x1 :: w :: ks, 0, h, h2, e => by
    have e' : ¬ x1 = (-9223372036854775808 : Int64) := by simpa using e
    simp only [own_occ, if_neg e']
    omega
  | x1 :: w :: ks, j + 1, h, h2, e => by
    have q : 2 * (j + 1) = 2 * j + 1 + 1 := by omega
    rw [q] at e
    have e' : ¬ ks.getD (2 * j) (0 : Int64) = (-9223372036854775808 : Int64) := by simpa using e
    have ih := own_occ_pos ks j (by simp at h; omega) (by simp at h2; omega) e'
    simp only [own_occ]
    omega
theorem own_f0 (h : f = (0 : Int32) ∨ f = (1 : Int32)) : 0 ≤ f.toInt ∧ f.toInt ≤ 1 := by
  rcases h with rfl | rfl <;> decide
theorem own_n1 (hinv : own_inv ks n f) (hn : n.toInt ≤ 2) : (n + (1 : Int32)).toInt = n.toInt + 1 := by
  obtain ⟨h1, h2, h3⟩ := hinv
  have h4 := own_f0 h3
  have e1 := c_iadd n (1 : Int32)
  have e2 := rng32 (n + (1 : Int32))
  rw [own_l1] at e1
  omega
theorem own_small (hinv : own_inv ks n f) (hn : n.toInt ≤ 2) : ¬ (8 : Int32) < ((2 : Int32) * (n + (1 : Int32))) := by
  have e := own_n1 hinv hn
  obtain ⟨h1, h2, h3⟩ := hinv
  have h4 := own_f0 h3
  have e1 := c_imul (2 : Int32) (n + (1 : Int32))
  have e2 := rng32 ((2 : Int32) * (n + (1 : Int32)))
  have h8 : (8 : Int32).toInt = 8 := by decide
  rw [own_l2] at e1
  rw [Int32.lt_iff_toInt_lt, h8]
  omega
theorem own_fB (hinv : own_inv ks n f) (hn : n.toInt ≤ 2) (h : f = (0 : Int32)) : 1 ≤ (n + (1 : Int32)).toInt ∧ (n + (1 : Int32)).toInt ≤ n.toInt + 1 := by
  have e := own_n1 hinv hn
  obtain ⟨h1, h2, h3⟩ := hinv
  have h4 := own_f0 h3
  omega
theorem own_fA (hinv : own_inv ks n f) (hn : n.toInt ≤ 2) (h : f = (0 : Int32)) : own_inv ks (n + (1 : Int32)) (1 : Int32) := by
  have e := own_n1 hinv hn
  obtain ⟨h1, h2, h3⟩ := hinv
  refine ⟨h1, ?_, Or.inr rfl⟩
  rw [e, h2, h, own_l0, own_l1]
  omega
theorem own_fC (hinv : own_inv ks n f) (h : ¬ f = (0 : Int32)) : own_inv ks (n + (0 : Int32)) (1 : Int32) := by
  obtain ⟨h1, h2, h3⟩ := hinv
  rcases h3 with h3 | h3
  · exact absurd h3 h
  · refine ⟨h1, ?_, Or.inr rfl⟩
    rw [Int32.add_zero, h2, h3]
theorem own_fD (hinv : own_inv ks n f) (hn : n.toInt ≤ 2) (h : ¬ f = (0 : Int32)) : 1 ≤ (n + (0 : Int32)).toInt ∧ (n + (0 : Int32)).toInt ≤ n.toInt + 1 := by
  obtain ⟨h1, h2, h3⟩ := hinv
  rcases h3 with h3 | h3
  · exact absurd h3 h
  · rw [Int32.add_zero, h2, h3, own_l1]
    omega
theorem own_sA (hinv : own_inv ks n f) (hi : 0 ≤ i.toInt ∧ i.toInt < 8) : own_inv (ks.set (((2 : Int32) * i) + (1 : Int32)).toNatClampNeg v) n f := by
  obtain ⟨h1, h2, h3⟩ := hinv
  refine ⟨by rw [List.length_set]; exact h1, ?_, h3⟩
  rw [own_nat21 hi, own_occ_odd]
  exact h2
theorem own_sB (hinv : own_inv ks n f) (hi : 0 ≤ i.toInt ∧ i.toInt < 8) (h : ¬ ks.getD (2 * i.toInt.toNat) (0 : Int64) = (-9223372036854775808 : Int64)) : 1 ≤ n.toInt ∧ n.toInt ≤ n.toInt + 1 := by
  obtain ⟨h1, h2, h3⟩ := hinv
  have h4 := own_f0 h3
  have h5 := own_occ_pos ks i.toInt.toNat (by omega) (by omega) h
  omega
theorem own_tA (hinv : own_inv ks n f) (hn : n.toInt ≤ 2) (hi : 0 ≤ i.toInt ∧ i.toInt < 8) (h : ks.getD (2 * i.toInt.toNat) (0 : Int64) = (-9223372036854775808 : Int64)) (hk : ¬ k = (-9223372036854775808 : Int64)) : own_inv ((ks.set ((2 : Int32) * i).toNatClampNeg k).set (((2 : Int32) * i) + (1 : Int32)).toNatClampNeg v) (n + (1 : Int32)) f := by
  have e := own_n1 hinv hn
  obtain ⟨h1, h2, h3⟩ := hinv
  refine ⟨by rw [List.length_set, List.length_set]; exact h1, ?_, h3⟩
  rw [own_nat21 hi, own_nat2 hi, own_occ_odd, own_occ_set ks i.toInt.toNat (by omega) (by omega) h hk, e, h2]
  omega
theorem own_tB (hinv : own_inv ks n f) (hn : n.toInt ≤ 2) : 1 ≤ (n + (1 : Int32)).toInt ∧ (n + (1 : Int32)).toInt ≤ n.toInt + 1 := by
  have e := own_n1 hinv hn
  obtain ⟨h1, h2, h3⟩ := hinv
  have h4 := own_f0 h3
  omega
theorem own_pos (h : 1 ≤ n.toInt) : ¬ n = (0 : Int32) := fun q => by
  rw [q, own_l0] at h
  omega
end OwnMap

theorem d3_0 : decode prog_192_method_12_code 0 = .ok (.iconst 2, 1) := by decide +kernel
theorem d3_1 : decode prog_192_method_12_code 1 = .ok (.iload_n 0, 1) := by decide +kernel
theorem d3_2 : decode prog_192_method_12_code 2 = .ok (.imul, 1) := by decide +kernel
theorem d3_3 : decode prog_192_method_12_code 3 = .ok (.newarray .long, 2) := by decide +kernel
theorem d3_5 : decode prog_192_method_12_code 5 = .ok (.astore_n 1, 1) := by decide +kernel
theorem d3_6 : decode prog_192_method_12_code 6 = .ok (.iconst 0, 1) := by decide +kernel
theorem d3_7 : decode prog_192_method_12_code 7 = .ok (.istore_n 2, 1) := by decide +kernel
theorem d3_8 : decode prog_192_method_12_code 8 = .ok (.iload_n 2, 1) := by decide +kernel
theorem d3_9 : decode prog_192_method_12_code 9 = .ok (.aload_n 1, 1) := by decide +kernel
theorem d3_10 : decode prog_192_method_12_code 10 = .ok (.arraylength, 1) := by decide +kernel
theorem d3_11 : decode prog_192_method_12_code 11 = .ok (.if_icmp .ge 15, 3) := by decide +kernel
theorem d3_14 : decode prog_192_method_12_code 14 = .ok (.aload_n 1, 1) := by decide +kernel
theorem d3_15 : decode prog_192_method_12_code 15 = .ok (.iload_n 2, 1) := by decide +kernel
theorem d3_16 : decode prog_192_method_12_code 16 = .ok (.ldc2_w 19, 3) := by decide +kernel
theorem d3_19 : decode prog_192_method_12_code 19 = .ok (.lastore, 1) := by decide +kernel
theorem d3_20 : decode prog_192_method_12_code 20 = .ok (.iinc 2 2, 3) := by decide +kernel
theorem d3_23 : decode prog_192_method_12_code 23 = .ok (.goto (-15), 3) := by decide +kernel
theorem d3_26 : decode prog_192_method_12_code 26 = .ok (.aload_n 1, 1) := by decide +kernel
theorem d3_27 : decode prog_192_method_12_code 27 = .ok (.areturn, 1) := by decide +kernel
theorem pn_0 : plainName "kasane/util/LongLongMap" = true := by first | (simp [plainName, overriddenIn]; done) | decide +kernel
theorem ef_rmFp (m : MethodId)  : entryFrame m #[(.int (8 : Int32))] 3 = mkF m 0 #[.val (.int (8 : Int32)), .unset, .unset] [] := by first | (simp [entryFrame, mkF, argsToLocals, Value.category]; done) | rfl
def QrmFp (Z : State)  (h0 : Heap) (n0 : Nat) (rV : Option Value) (hE : Heap) (LE : List Loc) : Prop := ∃ t : Addr, ∃ kt : ClassId, rV = some (.ref t) ∧ Fr n0 LE ∧ Keep h0 hE [] ∧ h0.size ≤ t ∧ n0 ≤ t ∧ Arv Z hE t kt .long (16 : Int32) [(.long (-9223372036854775808 : Int64)), (.long (0 : Int64)), (.long (-9223372036854775808 : Int64)), (.long (0 : Int64)), (.long (-9223372036854775808 : Int64)), (.long (0 : Int64)), (.long (-9223372036854775808 : Int64)), (.long (0 : Int64)), (.long (-9223372036854775808 : Int64)), (.long (0 : Int64)), (.long (-9223372036854775808 : Int64)), (.long (0 : Int64)), (.long (-9223372036854775808 : Int64)), (.long (0 : Int64)), (.long (-9223372036854775808 : Int64)), (.long (0 : Int64))] (.long (0 : Int64))
set_option maxRecDepth 65536 in
set_option maxHeartbeats 40000000 in
theorem rmFp (l : Launch) (Z : State) (a0 : Array Value) (hw : ∀ d ∈ tables_1, d.before a0 Z = true) (ws : List Jvm.Cond)  (h0 : Heap) (n0 : Nat) (Z0 : n0 ≤ h0.size) :
    MetFree l (⟨"kasane/util/LongLongMap", "freePlaces", "(I)[J"⟩ : MethodName) (head1 (Jvm.Cond.code (⟨"kasane/util/LongLongMap", "freePlaces", "(I)[J"⟩ : MethodName) prog_192_method_12_code 3 (some (.array .long)) :: ws) ({ frames := 0, cells := 1, slots := 16, locals := 0 } : Room)) (fun aA UA => aA = #[(.int (8 : Int32))] ∧ Z.Warmed39 UA.vm ∧ UA.heap = h0) (fun _ _ _ _ _ => True) (fun _ UA oA UB => ∃ rV LE, oA = .returned rV ∧ QrmFp Z  h0 n0 rV UB.heap LE ∧ FrameEnd UA oA UB LE ({ frames := 0, cells := 1, slots := 16, locals := 0 } : Room).cells ({ frames := 0, cells := 1, slots := 16, locals := 0 } : Room).slots) := by
  refine MetFree.of_bodySF (plainFor_of_name pn_0) hisR ?_
  intro p e s m args below meth c s₁ Bd hml0 hP hK
  obtain ⟨rfl, hZ, hh⟩ := hP
  have hx := Bd.exec
  have hby := Bd.bytes
  have hml : c.maxLocals = 3 := hml0
  have hown : s.vm.findClass "kasane/util/LongLongMap" = some m.cls := findClass_of_methodNamed Bd.named
  have hnm := (name_of_methodNamed Bd.named Bd.method).1
  have hlk := Bd.notSynchronized
  have X0 : Stand p l e ({ frames := 0, cells := 1, slots := 16, locals := 0 } : Room) s m #[(.int (8 : Int32))] below meth c s₁ [] 0 0 := Stand.of_body Bd
  have e0 : s₁.heap = h0 := by rw [← hh, Bd.state]; rfl
  have N0 := Fr.nil n0
  show Go p e below s (QrmFp Z  h0 n0) ({ frames := 0, cells := 1, slots := 16, locals := 0 } : Room).cells ({ frames := 0, cells := 1, slots := 16, locals := 0 } : Room).slots s₁ (entryFrame m #[(.int (8 : Int32))] 3)
  refine Go.eq (ef_rmFp m ) ?_
  show Go p e below s _ _ _ s₁ (mkF m 0 #[.val (.int (8 : Int32)), .unset, .unset] [])
  refine Go.st (fun _ => XS.iconst X0.here hx rfl (hb hby d3_0)) ?_
  show Go p e below s _ _ _ s₁ (mkF m 1 #[.val (.int (8 : Int32)), .unset, .unset] [(.int (2 : Int32))])
  refine Go.st (fun _ => XS.iloadN X0.here hx rfl (hb hby d3_1) rfl) ?_
  show Go p e below s _ _ _ s₁ (mkF m 2 #[.val (.int (8 : Int32)), .unset, .unset] [(.int (8 : Int32)), (.int (2 : Int32))])
  refine Go.st (fun _ => XS.imul X0.here hx rfl (hb hby d3_2) rfl) ?_
  show Go p e below s _ _ _ s₁ (mkF m 3 #[.val (.int (8 : Int32)), .unset, .unset] [(.int ((2 : Int32) * (8 : Int32)))])
  rw [show ((2 : Int32) * (8 : Int32)) = (16 : Int32) from by decide]
  show Go p e below s _ _ _ s₁ (mkF m 3 #[.val (.int (8 : Int32)), .unset, .unset] [(.int (16 : Int32))])
  obtain ⟨T_1, h_1, kA_1, X_1, e_1, E_1, A_1, st_1⟩ := newP X0 hx hZ (hw _ (List.mem_of_getElem? (i := 12) rfl)) e0 (g := (mkF m 3 #[.val (.int (8 : Int32)), .unset, .unset] [(.int (16 : Int32))])) rfl (hb hby d3_3) rfl (by decide) (cap := 16) (by decide) (by decide) (by decide) (by decide)
  obtain ⟨b_1, g_1⟩ : ∃ z, z = h0.size := ⟨_, rfl⟩
  rw [← g_1] at A_1 st_1
  refine Go.st st_1 ?_
  have gg_1 : n0 ≤ b_1 := Nat.le_trans Z0 (Nat.le_of_eq g_1.symm)
  have sz_1 : h0.size ≤ b_1 := Nat.le_trans (Keep.refl h0 []).1 (Nat.le_of_eq g_1.symm)
  have K_1 : Keep h0 h_1 [] := (Keep.refl h0 []).ext E_1
  have z_1 : n0 ≤ h_1.size := Nat.le_trans Z0 E_1.1
  have V_b_1 : Arv Z h_1 b_1 kA_1 .long (16 : Int32) [(.long (0 : Int64)), (.long (0 : Int64)), (.long (0 : Int64)), (.long (0 : Int64)), (.long (0 : Int64)), (.long (0 : Int64)), (.long (0 : Int64)), (.long (0 : Int64)), (.long (0 : Int64)), (.long (0 : Int64)), (.long (0 : Int64)), (.long (0 : Int64)), (.long (0 : Int64)), (.long (0 : Int64)), (.long (0 : Int64)), (.long (0 : Int64))] (.long (0 : Int64)) := (Arv.new A_1 (by decide)).pad (pad_rep [] (.long (0 : Int64)) 16)
  show Go p e below s _ _ _ T_1 (mkF m 5 #[.val (.int (8 : Int32)), .unset, .unset] [(.ref b_1)])
  refine Go.st (fun _ => XS.astoreN X_1.here hx rfl (hb hby d3_5) rfl rfl (l' := #[.val (.int (8 : Int32)), .val (.ref b_1), .unset]) rfl) ?_
  show Go p e below s _ _ _ T_1 (mkF m 6 #[.val (.int (8 : Int32)), .val (.ref b_1), .unset] [])
  refine Go.st (fun _ => XS.iconst X_1.here hx rfl (hb hby d3_6)) ?_
  show Go p e below s _ _ _ T_1 (mkF m 7 #[.val (.int (8 : Int32)), .val (.ref b_1), .unset] [(.int (0 : Int32))])
  refine Go.st (fun _ => XS.istoreN X_1.here hx rfl (hb hby d3_7) rfl (l' := #[.val (.int (8 : Int32)), .val (.ref b_1), .val (.int (0 : Int32))]) rfl) ?_
  show Go p e below s _ _ _ T_1 (mkF m 8 #[.val (.int (8 : Int32)), .val (.ref b_1), .val (.int (0 : Int32))] [])
  refine Go.st (fun _ => XS.iloadN X_1.here hx rfl (hb hby d3_8) rfl) ?_
  show Go p e below s _ _ _ T_1 (mkF m 9 #[.val (.int (8 : Int32)), .val (.ref b_1), .val (.int (0 : Int32))] [(.int (0 : Int32))])
  refine Go.st (fun _ => XS.aloadN X_1.here hx rfl (hb hby d3_9) rfl rfl) ?_
  show Go p e below s _ _ _ T_1 (mkF m 10 #[.val (.int (8 : Int32)), .val (.ref b_1), .val (.int (0 : Int32))] [(.ref b_1), (.int (0 : Int32))])
  obtain ⟨cl_2, Ar_2, q_2, S_2, M_2, H_2, G_2⟩ := id V_b_1
  refine Go.st (fun tG => X_1.arraylength hx (by rw [e_1]; exact Ar_2.1) (State.isArrayOf_alike hZ.alike Ar_2.2.1) (g := (mkF m 10 #[.val (.int (8 : Int32)), .val (.ref b_1), .val (.int (0 : Int32))] [(.ref b_1), (.int (0 : Int32))])) rfl rfl (hb hby d3_10) tG) ?_
  rw [len_of S_2 M_2]
  show Go p e below s _ _ _ T_1 (mkF m 11 #[.val (.int (8 : Int32)), .val (.ref b_1), .val (.int (0 : Int32))] [(.int (16 : Int32)), (.int (0 : Int32))])
  refine Go.st (fun _ => XS.icmpNo X_1.here hx rfl (hb hby d3_11) rfl (tlt (by decide : (0 : Int32) < (16 : Int32))).2.1) ?_
  show Go p e below s _ _ _ T_1 (mkF m 14 #[.val (.int (8 : Int32)), .val (.ref b_1), .val (.int (0 : Int32))] [])
  refine Go.st (fun _ => XS.aloadN X_1.here hx rfl (hb hby d3_14) rfl rfl) ?_
  show Go p e below s _ _ _ T_1 (mkF m 15 #[.val (.int (8 : Int32)), .val (.ref b_1), .val (.int (0 : Int32))] [(.ref b_1)])
  refine Go.st (fun _ => XS.iloadN X_1.here hx rfl (hb hby d3_15) rfl) ?_
  show Go p e below s _ _ _ T_1 (mkF m 16 #[.val (.int (8 : Int32)), .val (.ref b_1), .val (.int (0 : Int32))] [(.int (0 : Int32)), (.ref b_1)])
  refine Go.st (fun tG => X_1.ldc2Long hx hown (mvT hZ (hw _ (List.mem_of_getElem? (i := 13) rfl))) (g := (mkF m 16 #[.val (.int (8 : Int32)), .val (.ref b_1), .val (.int (0 : Int32))] [(.int (0 : Int32)), (.ref b_1)])) rfl (hb hby d3_16) tG) ?_
  show Go p e below s _ _ _ T_1 (mkF m 19 #[.val (.int (8 : Int32)), .val (.ref b_1), .val (.int (0 : Int32))] [(.long (-9223372036854775808 : Int64)), (.int (0 : Int32)), (.ref b_1)])
  obtain ⟨cl_3, Ar_3, q_3, S_3, M_3, H_3, G_3⟩ := id V_b_1
  have hin_3 : ¬ ((0 : Int32) < 0 ∨ cl_3.slots.size ≤ ((0 : Int32)).toNatClampNeg) := inb_of S_3 ⟨by decide, by decide⟩
  obtain ⟨T_3, h_3, X_3, e_3, W_3, st_3⟩ := stJ X_1 hx hZ e_1 Ar_3 (j := (0 : Int32)) hin_3 (g := (mkF m 19 #[.val (.int (8 : Int32)), .val (.ref b_1), .val (.int (0 : Int32))] [(.long (-9223372036854775808 : Int64)), (.int (0 : Int32)), (.ref b_1)])) rfl rfl (hb hby d3_19)
  refine Go.st st_3 ?_
  have V_3 : Arv Z h_3 b_1 kA_1 .long (16 : Int32) [(.long (-9223372036854775808 : Int64)), (.long (0 : Int64)), (.long (0 : Int64)), (.long (0 : Int64)), (.long (0 : Int64)), (.long (0 : Int64)), (.long (0 : Int64)), (.long (0 : Int64)), (.long (0 : Int64)), (.long (0 : Int64)), (.long (0 : Int64)), (.long (0 : Int64)), (.long (0 : Int64)), (.long (0 : Int64)), (.long (0 : Int64)), (.long (0 : Int64))] (.long (0 : Int64)) := Arv.set Ar_3 q_3 S_3 M_3 H_3 G_3 rfl W_3 0 rfl (Nat.le_of_ble_eq_true rfl)
  have N_3 := Fr.snoc X_3 N0 gg_1
  have K_3 : Keep h0 h_3 [] := K_1.wr W_3 (Or.inr sz_1)
  have z_3 : n0 ≤ h_3.size := Nat.le_trans z_1 (Nat.le_of_eq W_3.size.symm)
  show Go p e below s _ _ _ T_3 (mkF m 20 #[.val (.int (8 : Int32)), .val (.ref b_1), .val (.int (0 : Int32))] [])
  refine Go.st (fun _ => XS.iinc X_3.here hx rfl (hb hby d3_20) rfl (l' := #[.val (.int (8 : Int32)), .val (.ref b_1), .val (.int ((0 : Int32) + (2 : Int32)))]) rfl) ?_
  show Go p e below s _ _ _ T_3 (mkF m 23 #[.val (.int (8 : Int32)), .val (.ref b_1), .val (.int ((0 : Int32) + (2 : Int32)))] [])
  rw [show ((0 : Int32) + (2 : Int32)) = (2 : Int32) from by decide]
  show Go p e below s _ _ _ T_3 (mkF m 23 #[.val (.int (8 : Int32)), .val (.ref b_1), .val (.int (2 : Int32))] [])
  refine Go.st (fun _ => XS.goto X_3.here hx rfl (pc0 := 23) (pc' := 8) rfl (hb hby d3_23) (by decide) (by decide)) ?_
  show Go p e below s _ _ _ T_3 (mkF m 8 #[.val (.int (8 : Int32)), .val (.ref b_1), .val (.int (2 : Int32))] [])
  refine Go.st (fun _ => XS.iloadN X_3.here hx rfl (hb hby d3_8) rfl) ?_
  show Go p e below s _ _ _ T_3 (mkF m 9 #[.val (.int (8 : Int32)), .val (.ref b_1), .val (.int (2 : Int32))] [(.int (2 : Int32))])
  refine Go.st (fun _ => XS.aloadN X_3.here hx rfl (hb hby d3_9) rfl rfl) ?_
  show Go p e below s _ _ _ T_3 (mkF m 10 #[.val (.int (8 : Int32)), .val (.ref b_1), .val (.int (2 : Int32))] [(.ref b_1), (.int (2 : Int32))])
  obtain ⟨cl_4, Ar_4, q_4, S_4, M_4, H_4, G_4⟩ := id V_3
  refine Go.st (fun tG => X_3.arraylength hx (by rw [e_3]; exact Ar_4.1) (State.isArrayOf_alike hZ.alike Ar_4.2.1) (g := (mkF m 10 #[.val (.int (8 : Int32)), .val (.ref b_1), .val (.int (2 : Int32))] [(.ref b_1), (.int (2 : Int32))])) rfl rfl (hb hby d3_10) tG) ?_
  rw [len_of S_4 M_4]
  show Go p e below s _ _ _ T_3 (mkF m 11 #[.val (.int (8 : Int32)), .val (.ref b_1), .val (.int (2 : Int32))] [(.int (16 : Int32)), (.int (2 : Int32))])
  refine Go.st (fun _ => XS.icmpNo X_3.here hx rfl (hb hby d3_11) rfl (tlt (by decide : (2 : Int32) < (16 : Int32))).2.1) ?_
  show Go p e below s _ _ _ T_3 (mkF m 14 #[.val (.int (8 : Int32)), .val (.ref b_1), .val (.int (2 : Int32))] [])
  refine Go.st (fun _ => XS.aloadN X_3.here hx rfl (hb hby d3_14) rfl rfl) ?_
  show Go p e below s _ _ _ T_3 (mkF m 15 #[.val (.int (8 : Int32)), .val (.ref b_1), .val (.int (2 : Int32))] [(.ref b_1)])
  refine Go.st (fun _ => XS.iloadN X_3.here hx rfl (hb hby d3_15) rfl) ?_
  show Go p e below s _ _ _ T_3 (mkF m 16 #[.val (.int (8 : Int32)), .val (.ref b_1), .val (.int (2 : Int32))] [(.int (2 : Int32)), (.ref b_1)])
  refine Go.st (fun tG => X_3.ldc2Long hx hown (mvT hZ (hw _ (List.mem_of_getElem? (i := 13) rfl))) (g := (mkF m 16 #[.val (.int (8 : Int32)), .val (.ref b_1), .val (.int (2 : Int32))] [(.int (2 : Int32)), (.ref b_1)])) rfl (hb hby d3_16) tG) ?_
  show Go p e below s _ _ _ T_3 (mkF m 19 #[.val (.int (8 : Int32)), .val (.ref b_1), .val (.int (2 : Int32))] [(.long (-9223372036854775808 : Int64)), (.int (2 : Int32)), (.ref b_1)])
  obtain ⟨cl_5, Ar_5, q_5, S_5, M_5, H_5, G_5⟩ := id V_3
  have hin_5 : ¬ ((2 : Int32) < 0 ∨ cl_5.slots.size ≤ ((2 : Int32)).toNatClampNeg) := inb_of S_5 ⟨by decide, by decide⟩
  obtain ⟨T_5, h_5, X_5, e_5, W_5, st_5⟩ := stJ X_3 hx hZ e_3 Ar_5 (j := (2 : Int32)) hin_5 (g := (mkF m 19 #[.val (.int (8 : Int32)), .val (.ref b_1), .val (.int (2 : Int32))] [(.long (-9223372036854775808 : Int64)), (.int (2 : Int32)), (.ref b_1)])) rfl rfl (hb hby d3_19)
  refine Go.st st_5 ?_
  have V_5 : Arv Z h_5 b_1 kA_1 .long (16 : Int32) [(.long (-9223372036854775808 : Int64)), (.long (0 : Int64)), (.long (-9223372036854775808 : Int64)), (.long (0 : Int64)), (.long (0 : Int64)), (.long (0 : Int64)), (.long (0 : Int64)), (.long (0 : Int64)), (.long (0 : Int64)), (.long (0 : Int64)), (.long (0 : Int64)), (.long (0 : Int64)), (.long (0 : Int64)), (.long (0 : Int64)), (.long (0 : Int64)), (.long (0 : Int64))] (.long (0 : Int64)) := Arv.set Ar_5 q_5 S_5 M_5 H_5 G_5 rfl W_5 2 rfl (Nat.le_of_ble_eq_true rfl)
  have N_5 := Fr.snoc X_5 N_3 gg_1
  have K_5 : Keep h0 h_5 [] := K_3.wr W_5 (Or.inr sz_1)
  have z_5 : n0 ≤ h_5.size := Nat.le_trans z_3 (Nat.le_of_eq W_5.size.symm)
  show Go p e below s _ _ _ T_5 (mkF m 20 #[.val (.int (8 : Int32)), .val (.ref b_1), .val (.int (2 : Int32))] [])
  refine Go.st (fun _ => XS.iinc X_5.here hx rfl (hb hby d3_20) rfl (l' := #[.val (.int (8 : Int32)), .val (.ref b_1), .val (.int ((2 : Int32) + (2 : Int32)))]) rfl) ?_
  show Go p e below s _ _ _ T_5 (mkF m 23 #[.val (.int (8 : Int32)), .val (.ref b_1), .val (.int ((2 : Int32) + (2 : Int32)))] [])
  rw [show ((2 : Int32) + (2 : Int32)) = (4 : Int32) from by decide]
  show Go p e below s _ _ _ T_5 (mkF m 23 #[.val (.int (8 : Int32)), .val (.ref b_1), .val (.int (4 : Int32))] [])
  refine Go.st (fun _ => XS.goto X_5.here hx rfl (pc0 := 23) (pc' := 8) rfl (hb hby d3_23) (by decide) (by decide)) ?_
  show Go p e below s _ _ _ T_5 (mkF m 8 #[.val (.int (8 : Int32)), .val (.ref b_1), .val (.int (4 : Int32))] [])
  refine Go.st (fun _ => XS.iloadN X_5.here hx rfl (hb hby d3_8) rfl) ?_
  show Go p e below s _ _ _ T_5 (mkF m 9 #[.val (.int (8 : Int32)), .val (.ref b_1), .val (.int (4 : Int32))] [(.int (4 : Int32))])
  refine Go.st (fun _ => XS.aloadN X_5.here hx rfl (hb hby d3_9) rfl rfl) ?_
  show Go p e below s _ _ _ T_5 (mkF m 10 #[.val (.int (8 : Int32)), .val (.ref b_1), .val (.int (4 : Int32))] [(.ref b_1), (.int (4 : Int32))])
  obtain ⟨cl_6, Ar_6, q_6, S_6, M_6, H_6, G_6⟩ := id V_5
  refine Go.st (fun tG => X_5.arraylength hx (by rw [e_5]; exact Ar_6.1) (State.isArrayOf_alike hZ.alike Ar_6.2.1) (g := (mkF m 10 #[.val (.int (8 : Int32)), .val (.ref b_1), .val (.int (4 : Int32))] [(.ref b_1), (.int (4 : Int32))])) rfl rfl (hb hby d3_10) tG) ?_
  rw [len_of S_6 M_6]
  show Go p e below s _ _ _ T_5 (mkF m 11 #[.val (.int (8 : Int32)), .val (.ref b_1), .val (.int (4 : Int32))] [(.int (16 : Int32)), (.int (4 : Int32))])
  refine Go.st (fun _ => XS.icmpNo X_5.here hx rfl (hb hby d3_11) rfl (tlt (by decide : (4 : Int32) < (16 : Int32))).2.1) ?_
  show Go p e below s _ _ _ T_5 (mkF m 14 #[.val (.int (8 : Int32)), .val (.ref b_1), .val (.int (4 : Int32))] [])
  refine Go.st (fun _ => XS.aloadN X_5.here hx rfl (hb hby d3_14) rfl rfl) ?_
  show Go p e below s _ _ _ T_5 (mkF m 15 #[.val (.int (8 : Int32)), .val (.ref b_1), .val (.int (4 : Int32))] [(.ref b_1)])
  refine Go.st (fun _ => XS.iloadN X_5.here hx rfl (hb hby d3_15) rfl) ?_
  show Go p e below s _ _ _ T_5 (mkF m 16 #[.val (.int (8 : Int32)), .val (.ref b_1), .val (.int (4 : Int32))] [(.int (4 : Int32)), (.ref b_1)])
  refine Go.st (fun tG => X_5.ldc2Long hx hown (mvT hZ (hw _ (List.mem_of_getElem? (i := 13) rfl))) (g := (mkF m 16 #[.val (.int (8 : Int32)), .val (.ref b_1), .val (.int (4 : Int32))] [(.int (4 : Int32)), (.ref b_1)])) rfl (hb hby d3_16) tG) ?_
  show Go p e below s _ _ _ T_5 (mkF m 19 #[.val (.int (8 : Int32)), .val (.ref b_1), .val (.int (4 : Int32))] [(.long (-9223372036854775808 : Int64)), (.int (4 : Int32)), (.ref b_1)])
  obtain ⟨cl_7, Ar_7, q_7, S_7, M_7, H_7, G_7⟩ := id V_5
  have hin_7 : ¬ ((4 : Int32) < 0 ∨ cl_7.slots.size ≤ ((4 : Int32)).toNatClampNeg) := inb_of S_7 ⟨by decide, by decide⟩
  obtain ⟨T_7, h_7, X_7, e_7, W_7, st_7⟩ := stJ X_5 hx hZ e_5 Ar_7 (j := (4 : Int32)) hin_7 (g := (mkF m 19 #[.val (.int (8 : Int32)), .val (.ref b_1), .val (.int (4 : Int32))] [(.long (-9223372036854775808 : Int64)), (.int (4 : Int32)), (.ref b_1)])) rfl rfl (hb hby d3_19)
  refine Go.st st_7 ?_
  have V_7 : Arv Z h_7 b_1 kA_1 .long (16 : Int32) [(.long (-9223372036854775808 : Int64)), (.long (0 : Int64)), (.long (-9223372036854775808 : Int64)), (.long (0 : Int64)), (.long (-9223372036854775808 : Int64)), (.long (0 : Int64)), (.long (0 : Int64)), (.long (0 : Int64)), (.long (0 : Int64)), (.long (0 : Int64)), (.long (0 : Int64)), (.long (0 : Int64)), (.long (0 : Int64)), (.long (0 : Int64)), (.long (0 : Int64)), (.long (0 : Int64))] (.long (0 : Int64)) := Arv.set Ar_7 q_7 S_7 M_7 H_7 G_7 rfl W_7 4 rfl (Nat.le_of_ble_eq_true rfl)
  have N_7 := Fr.snoc X_7 N_5 gg_1
  have K_7 : Keep h0 h_7 [] := K_5.wr W_7 (Or.inr sz_1)
  have z_7 : n0 ≤ h_7.size := Nat.le_trans z_5 (Nat.le_of_eq W_7.size.symm)
  show Go p e below s _ _ _ T_7 (mkF m 20 #[.val (.int (8 : Int32)), .val (.ref b_1), .val (.int (4 : Int32))] [])
  refine Go.st (fun _ => XS.iinc X_7.here hx rfl (hb hby d3_20) rfl (l' := #[.val (.int (8 : Int32)), .val (.ref b_1), .val (.int ((4 : Int32) + (2 : Int32)))]) rfl) ?_
  show Go p e below s _ _ _ T_7 (mkF m 23 #[.val (.int (8 : Int32)), .val (.ref b_1), .val (.int ((4 : Int32) + (2 : Int32)))] [])
  rw [show ((4 : Int32) + (2 : Int32)) = (6 : Int32) from by decide]
  show Go p e below s _ _ _ T_7 (mkF m 23 #[.val (.int (8 : Int32)), .val (.ref b_1), .val (.int (6 : Int32))] [])
  refine Go.st (fun _ => XS.goto X_7.here hx rfl (pc0 := 23) (pc' := 8) rfl (hb hby d3_23) (by decide) (by decide)) ?_
  show Go p e below s _ _ _ T_7 (mkF m 8 #[.val (.int (8 : Int32)), .val (.ref b_1), .val (.int (6 : Int32))] [])
  refine Go.st (fun _ => XS.iloadN X_7.here hx rfl (hb hby d3_8) rfl) ?_
  show Go p e below s _ _ _ T_7 (mkF m 9 #[.val (.int (8 : Int32)), .val (.ref b_1), .val (.int (6 : Int32))] [(.int (6 : Int32))])
  refine Go.st (fun _ => XS.aloadN X_7.here hx rfl (hb hby d3_9) rfl rfl) ?_
  show Go p e below s _ _ _ T_7 (mkF m 10 #[.val (.int (8 : Int32)), .val (.ref b_1), .val (.int (6 : Int32))] [(.ref b_1), (.int (6 : Int32))])
  obtain ⟨cl_8, Ar_8, q_8, S_8, M_8, H_8, G_8⟩ := id V_7
  refine Go.st (fun tG => X_7.arraylength hx (by rw [e_7]; exact Ar_8.1) (State.isArrayOf_alike hZ.alike Ar_8.2.1) (g := (mkF m 10 #[.val (.int (8 : Int32)), .val (.ref b_1), .val (.int (6 : Int32))] [(.ref b_1), (.int (6 : Int32))])) rfl rfl (hb hby d3_10) tG) ?_
  rw [len_of S_8 M_8]
  show Go p e below s _ _ _ T_7 (mkF m 11 #[.val (.int (8 : Int32)), .val (.ref b_1), .val (.int (6 : Int32))] [(.int (16 : Int32)), (.int (6 : Int32))])
  refine Go.st (fun _ => XS.icmpNo X_7.here hx rfl (hb hby d3_11) rfl (tlt (by decide : (6 : Int32) < (16 : Int32))).2.1) ?_
  show Go p e below s _ _ _ T_7 (mkF m 14 #[.val (.int (8 : Int32)), .val (.ref b_1), .val (.int (6 : Int32))] [])
  refine Go.st (fun _ => XS.aloadN X_7.here hx rfl (hb hby d3_14) rfl rfl) ?_
  show Go p e below s _ _ _ T_7 (mkF m 15 #[.val (.int (8 : Int32)), .val (.ref b_1), .val (.int (6 : Int32))] [(.ref b_1)])
  refine Go.st (fun _ => XS.iloadN X_7.here hx rfl (hb hby d3_15) rfl) ?_
  show Go p e below s _ _ _ T_7 (mkF m 16 #[.val (.int (8 : Int32)), .val (.ref b_1), .val (.int (6 : Int32))] [(.int (6 : Int32)), (.ref b_1)])
  refine Go.st (fun tG => X_7.ldc2Long hx hown (mvT hZ (hw _ (List.mem_of_getElem? (i := 13) rfl))) (g := (mkF m 16 #[.val (.int (8 : Int32)), .val (.ref b_1), .val (.int (6 : Int32))] [(.int (6 : Int32)), (.ref b_1)])) rfl (hb hby d3_16) tG) ?_
  show Go p e below s _ _ _ T_7 (mkF m 19 #[.val (.int (8 : Int32)), .val (.ref b_1), .val (.int (6 : Int32))] [(.long (-9223372036854775808 : Int64)), (.int (6 : Int32)), (.ref b_1)])
  obtain ⟨cl_9, Ar_9, q_9, S_9, M_9, H_9, G_9⟩ := id V_7
  have hin_9 : ¬ ((6 : Int32) < 0 ∨ cl_9.slots.size ≤ ((6 : Int32)).toNatClampNeg) := inb_of S_9 ⟨by decide, by decide⟩
  obtain ⟨T_9, h_9, X_9, e_9, W_9, st_9⟩ := stJ X_7 hx hZ e_7 Ar_9 (j := (6 : Int32)) hin_9 (g := (mkF m 19 #[.val (.int (8 : Int32)), .val (.ref b_1), .val (.int (6 : Int32))] [(.long (-9223372036854775808 : Int64)), (.int (6 : Int32)), (.ref b_1)])) rfl rfl (hb hby d3_19)
  refine Go.st st_9 ?_
  have V_9 : Arv Z h_9 b_1 kA_1 .long (16 : Int32) [(.long (-9223372036854775808 : Int64)), (.long (0 : Int64)), (.long (-9223372036854775808 : Int64)), (.long (0 : Int64)), (.long (-9223372036854775808 : Int64)), (.long (0 : Int64)), (.long (-9223372036854775808 : Int64)), (.long (0 : Int64)), (.long (0 : Int64)), (.long (0 : Int64)), (.long (0 : Int64)), (.long (0 : Int64)), (.long (0 : Int64)), (.long (0 : Int64)), (.long (0 : Int64)), (.long (0 : Int64))] (.long (0 : Int64)) := Arv.set Ar_9 q_9 S_9 M_9 H_9 G_9 rfl W_9 6 rfl (Nat.le_of_ble_eq_true rfl)
  have N_9 := Fr.snoc X_9 N_7 gg_1
  have K_9 : Keep h0 h_9 [] := K_7.wr W_9 (Or.inr sz_1)
  have z_9 : n0 ≤ h_9.size := Nat.le_trans z_7 (Nat.le_of_eq W_9.size.symm)
  show Go p e below s _ _ _ T_9 (mkF m 20 #[.val (.int (8 : Int32)), .val (.ref b_1), .val (.int (6 : Int32))] [])
  refine Go.st (fun _ => XS.iinc X_9.here hx rfl (hb hby d3_20) rfl (l' := #[.val (.int (8 : Int32)), .val (.ref b_1), .val (.int ((6 : Int32) + (2 : Int32)))]) rfl) ?_
  show Go p e below s _ _ _ T_9 (mkF m 23 #[.val (.int (8 : Int32)), .val (.ref b_1), .val (.int ((6 : Int32) + (2 : Int32)))] [])
  rw [show ((6 : Int32) + (2 : Int32)) = (8 : Int32) from by decide]
  show Go p e below s _ _ _ T_9 (mkF m 23 #[.val (.int (8 : Int32)), .val (.ref b_1), .val (.int (8 : Int32))] [])
  refine Go.st (fun _ => XS.goto X_9.here hx rfl (pc0 := 23) (pc' := 8) rfl (hb hby d3_23) (by decide) (by decide)) ?_
  show Go p e below s _ _ _ T_9 (mkF m 8 #[.val (.int (8 : Int32)), .val (.ref b_1), .val (.int (8 : Int32))] [])
  refine Go.st (fun _ => XS.iloadN X_9.here hx rfl (hb hby d3_8) rfl) ?_
  show Go p e below s _ _ _ T_9 (mkF m 9 #[.val (.int (8 : Int32)), .val (.ref b_1), .val (.int (8 : Int32))] [(.int (8 : Int32))])
  refine Go.st (fun _ => XS.aloadN X_9.here hx rfl (hb hby d3_9) rfl rfl) ?_
  show Go p e below s _ _ _ T_9 (mkF m 10 #[.val (.int (8 : Int32)), .val (.ref b_1), .val (.int (8 : Int32))] [(.ref b_1), (.int (8 : Int32))])
  obtain ⟨cl_10, Ar_10, q_10, S_10, M_10, H_10, G_10⟩ := id V_9
  refine Go.st (fun tG => X_9.arraylength hx (by rw [e_9]; exact Ar_10.1) (State.isArrayOf_alike hZ.alike Ar_10.2.1) (g := (mkF m 10 #[.val (.int (8 : Int32)), .val (.ref b_1), .val (.int (8 : Int32))] [(.ref b_1), (.int (8 : Int32))])) rfl rfl (hb hby d3_10) tG) ?_
  rw [len_of S_10 M_10]
  show Go p e below s _ _ _ T_9 (mkF m 11 #[.val (.int (8 : Int32)), .val (.ref b_1), .val (.int (8 : Int32))] [(.int (16 : Int32)), (.int (8 : Int32))])
  refine Go.st (fun _ => XS.icmpNo X_9.here hx rfl (hb hby d3_11) rfl (tlt (by decide : (8 : Int32) < (16 : Int32))).2.1) ?_
  show Go p e below s _ _ _ T_9 (mkF m 14 #[.val (.int (8 : Int32)), .val (.ref b_1), .val (.int (8 : Int32))] [])
  refine Go.st (fun _ => XS.aloadN X_9.here hx rfl (hb hby d3_14) rfl rfl) ?_
  show Go p e below s _ _ _ T_9 (mkF m 15 #[.val (.int (8 : Int32)), .val (.ref b_1), .val (.int (8 : Int32))] [(.ref b_1)])
  refine Go.st (fun _ => XS.iloadN X_9.here hx rfl (hb hby d3_15) rfl) ?_
  show Go p e below s _ _ _ T_9 (mkF m 16 #[.val (.int (8 : Int32)), .val (.ref b_1), .val (.int (8 : Int32))] [(.int (8 : Int32)), (.ref b_1)])
  refine Go.st (fun tG => X_9.ldc2Long hx hown (mvT hZ (hw _ (List.mem_of_getElem? (i := 13) rfl))) (g := (mkF m 16 #[.val (.int (8 : Int32)), .val (.ref b_1), .val (.int (8 : Int32))] [(.int (8 : Int32)), (.ref b_1)])) rfl (hb hby d3_16) tG) ?_
  show Go p e below s _ _ _ T_9 (mkF m 19 #[.val (.int (8 : Int32)), .val (.ref b_1), .val (.int (8 : Int32))] [(.long (-9223372036854775808 : Int64)), (.int (8 : Int32)), (.ref b_1)])
  obtain ⟨cl_11, Ar_11, q_11, S_11, M_11, H_11, G_11⟩ := id V_9
  have hin_11 : ¬ ((8 : Int32) < 0 ∨ cl_11.slots.size ≤ ((8 : Int32)).toNatClampNeg) := inb_of S_11 ⟨by decide, by decide⟩
  obtain ⟨T_11, h_11, X_11, e_11, W_11, st_11⟩ := stJ X_9 hx hZ e_9 Ar_11 (j := (8 : Int32)) hin_11 (g := (mkF m 19 #[.val (.int (8 : Int32)), .val (.ref b_1), .val (.int (8 : Int32))] [(.long (-9223372036854775808 : Int64)), (.int (8 : Int32)), (.ref b_1)])) rfl rfl (hb hby d3_19)
  refine Go.st st_11 ?_
  have V_11 : Arv Z h_11 b_1 kA_1 .long (16 : Int32) [(.long (-9223372036854775808 : Int64)), (.long (0 : Int64)), (.long (-9223372036854775808 : Int64)), (.long (0 : Int64)), (.long (-9223372036854775808 : Int64)), (.long (0 : Int64)), (.long (-9223372036854775808 : Int64)), (.long (0 : Int64)), (.long (-9223372036854775808 : Int64)), (.long (0 : Int64)), (.long (0 : Int64)), (.long (0 : Int64)), (.long (0 : Int64)), (.long (0 : Int64)), (.long (0 : Int64)), (.long (0 : Int64))] (.long (0 : Int64)) := Arv.set Ar_11 q_11 S_11 M_11 H_11 G_11 rfl W_11 8 rfl (Nat.le_of_ble_eq_true rfl)
  have N_11 := Fr.snoc X_11 N_9 gg_1
  have K_11 : Keep h0 h_11 [] := K_9.wr W_11 (Or.inr sz_1)
  have z_11 : n0 ≤ h_11.size := Nat.le_trans z_9 (Nat.le_of_eq W_11.size.symm)
  show Go p e below s _ _ _ T_11 (mkF m 20 #[.val (.int (8 : Int32)), .val (.ref b_1), .val (.int (8 : Int32))] [])
  refine Go.st (fun _ => XS.iinc X_11.here hx rfl (hb hby d3_20) rfl (l' := #[.val (.int (8 : Int32)), .val (.ref b_1), .val (.int ((8 : Int32) + (2 : Int32)))]) rfl) ?_
  show Go p e below s _ _ _ T_11 (mkF m 23 #[.val (.int (8 : Int32)), .val (.ref b_1), .val (.int ((8 : Int32) + (2 : Int32)))] [])
  rw [show ((8 : Int32) + (2 : Int32)) = (10 : Int32) from by decide]
  show Go p e below s _ _ _ T_11 (mkF m 23 #[.val (.int (8 : Int32)), .val (.ref b_1), .val (.int (10 : Int32))] [])
  refine Go.st (fun _ => XS.goto X_11.here hx rfl (pc0 := 23) (pc' := 8) rfl (hb hby d3_23) (by decide) (by decide)) ?_
  show Go p e below s _ _ _ T_11 (mkF m 8 #[.val (.int (8 : Int32)), .val (.ref b_1), .val (.int (10 : Int32))] [])
  refine Go.st (fun _ => XS.iloadN X_11.here hx rfl (hb hby d3_8) rfl) ?_
  show Go p e below s _ _ _ T_11 (mkF m 9 #[.val (.int (8 : Int32)), .val (.ref b_1), .val (.int (10 : Int32))] [(.int (10 : Int32))])
  refine Go.st (fun _ => XS.aloadN X_11.here hx rfl (hb hby d3_9) rfl rfl) ?_
  show Go p e below s _ _ _ T_11 (mkF m 10 #[.val (.int (8 : Int32)), .val (.ref b_1), .val (.int (10 : Int32))] [(.ref b_1), (.int (10 : Int32))])
  obtain ⟨cl_12, Ar_12, q_12, S_12, M_12, H_12, G_12⟩ := id V_11
  refine Go.st (fun tG => X_11.arraylength hx (by rw [e_11]; exact Ar_12.1) (State.isArrayOf_alike hZ.alike Ar_12.2.1) (g := (mkF m 10 #[.val (.int (8 : Int32)), .val (.ref b_1), .val (.int (10 : Int32))] [(.ref b_1), (.int (10 : Int32))])) rfl rfl (hb hby d3_10) tG) ?_
  rw [len_of S_12 M_12]
  show Go p e below s _ _ _ T_11 (mkF m 11 #[.val (.int (8 : Int32)), .val (.ref b_1), .val (.int (10 : Int32))] [(.int (16 : Int32)), (.int (10 : Int32))])
  refine Go.st (fun _ => XS.icmpNo X_11.here hx rfl (hb hby d3_11) rfl (tlt (by decide : (10 : Int32) < (16 : Int32))).2.1) ?_
  show Go p e below s _ _ _ T_11 (mkF m 14 #[.val (.int (8 : Int32)), .val (.ref b_1), .val (.int (10 : Int32))] [])
  refine Go.st (fun _ => XS.aloadN X_11.here hx rfl (hb hby d3_14) rfl rfl) ?_
  show Go p e below s _ _ _ T_11 (mkF m 15 #[.val (.int (8 : Int32)), .val (.ref b_1), .val (.int (10 : Int32))] [(.ref b_1)])
  refine Go.st (fun _ => XS.iloadN X_11.here hx rfl (hb hby d3_15) rfl) ?_
  show Go p e below s _ _ _ T_11 (mkF m 16 #[.val (.int (8 : Int32)), .val (.ref b_1), .val (.int (10 : Int32))] [(.int (10 : Int32)), (.ref b_1)])
  refine Go.st (fun tG => X_11.ldc2Long hx hown (mvT hZ (hw _ (List.mem_of_getElem? (i := 13) rfl))) (g := (mkF m 16 #[.val (.int (8 : Int32)), .val (.ref b_1), .val (.int (10 : Int32))] [(.int (10 : Int32)), (.ref b_1)])) rfl (hb hby d3_16) tG) ?_
  show Go p e below s _ _ _ T_11 (mkF m 19 #[.val (.int (8 : Int32)), .val (.ref b_1), .val (.int (10 : Int32))] [(.long (-9223372036854775808 : Int64)), (.int (10 : Int32)), (.ref b_1)])
  obtain ⟨cl_13, Ar_13, q_13, S_13, M_13, H_13, G_13⟩ := id V_11
  have hin_13 : ¬ ((10 : Int32) < 0 ∨ cl_13.slots.size ≤ ((10 : Int32)).toNatClampNeg) := inb_of S_13 ⟨by decide, by decide⟩
  obtain ⟨T_13, h_13, X_13, e_13, W_13, st_13⟩ := stJ X_11 hx hZ e_11 Ar_13 (j := (10 : Int32)) hin_13 (g := (mkF m 19 #[.val (.int (8 : Int32)), .val (.ref b_1), .val (.int (10 : Int32))] [(.long (-9223372036854775808 : Int64)), (.int (10 : Int32)), (.ref b_1)])) rfl rfl (hb hby d3_19)
  refine Go.st st_13 ?_
  have V_13 : Arv Z h_13 b_1 kA_1 .long (16 : Int32) [(.long (-9223372036854775808 : Int64)), (.long (0 : Int64)), (.long (-9223372036854775808 : Int64)), (.long (0 : Int64)), (.long (-9223372036854775808 : Int64)), (.long (0 : Int64)), (.long (-9223372036854775808 : Int64)), (.long (0 : Int64)), (.long (-9223372036854775808 : Int64)), (.long (0 : Int64)), (.long (-9223372036854775808 : Int64)), (.long (0 : Int64)), (.long (0 : Int64)), (.long (0 : Int64)), (.long (0 : Int64)), (.long (0 : Int64))] (.long (0 : Int64)) := Arv.set Ar_13 q_13 S_13 M_13 H_13 G_13 rfl W_13 10 rfl (Nat.le_of_ble_eq_true rfl)
  have N_13 := Fr.snoc X_13 N_11 gg_1
  have K_13 : Keep h0 h_13 [] := K_11.wr W_13 (Or.inr sz_1)
  have z_13 : n0 ≤ h_13.size := Nat.le_trans z_11 (Nat.le_of_eq W_13.size.symm)
  show Go p e below s _ _ _ T_13 (mkF m 20 #[.val (.int (8 : Int32)), .val (.ref b_1), .val (.int (10 : Int32))] [])
  refine Go.st (fun _ => XS.iinc X_13.here hx rfl (hb hby d3_20) rfl (l' := #[.val (.int (8 : Int32)), .val (.ref b_1), .val (.int ((10 : Int32) + (2 : Int32)))]) rfl) ?_
  show Go p e below s _ _ _ T_13 (mkF m 23 #[.val (.int (8 : Int32)), .val (.ref b_1), .val (.int ((10 : Int32) + (2 : Int32)))] [])
  rw [show ((10 : Int32) + (2 : Int32)) = (12 : Int32) from by decide]
  show Go p e below s _ _ _ T_13 (mkF m 23 #[.val (.int (8 : Int32)), .val (.ref b_1), .val (.int (12 : Int32))] [])
  refine Go.st (fun _ => XS.goto X_13.here hx rfl (pc0 := 23) (pc' := 8) rfl (hb hby d3_23) (by decide) (by decide)) ?_
  show Go p e below s _ _ _ T_13 (mkF m 8 #[.val (.int (8 : Int32)), .val (.ref b_1), .val (.int (12 : Int32))] [])
  refine Go.st (fun _ => XS.iloadN X_13.here hx rfl (hb hby d3_8) rfl) ?_
  show Go p e below s _ _ _ T_13 (mkF m 9 #[.val (.int (8 : Int32)), .val (.ref b_1), .val (.int (12 : Int32))] [(.int (12 : Int32))])
  refine Go.st (fun _ => XS.aloadN X_13.here hx rfl (hb hby d3_9) rfl rfl) ?_
  show Go p e below s _ _ _ T_13 (mkF m 10 #[.val (.int (8 : Int32)), .val (.ref b_1), .val (.int (12 : Int32))] [(.ref b_1), (.int (12 : Int32))])
  obtain ⟨cl_14, Ar_14, q_14, S_14, M_14, H_14, G_14⟩ := id V_13
  refine Go.st (fun tG => X_13.arraylength hx (by rw [e_13]; exact Ar_14.1) (State.isArrayOf_alike hZ.alike Ar_14.2.1) (g := (mkF m 10 #[.val (.int (8 : Int32)), .val (.ref b_1), .val (.int (12 : Int32))] [(.ref b_1), (.int (12 : Int32))])) rfl rfl (hb hby d3_10) tG) ?_
  rw [len_of S_14 M_14]
  show Go p e below s _ _ _ T_13 (mkF m 11 #[.val (.int (8 : Int32)), .val (.ref b_1), .val (.int (12 : Int32))] [(.int (16 : Int32)), (.int (12 : Int32))])
  refine Go.st (fun _ => XS.icmpNo X_13.here hx rfl (hb hby d3_11) rfl (tlt (by decide : (12 : Int32) < (16 : Int32))).2.1) ?_
  show Go p e below s _ _ _ T_13 (mkF m 14 #[.val (.int (8 : Int32)), .val (.ref b_1), .val (.int (12 : Int32))] [])
  refine Go.st (fun _ => XS.aloadN X_13.here hx rfl (hb hby d3_14) rfl rfl) ?_
  show Go p e below s _ _ _ T_13 (mkF m 15 #[.val (.int (8 : Int32)), .val (.ref b_1), .val (.int (12 : Int32))] [(.ref b_1)])
  refine Go.st (fun _ => XS.iloadN X_13.here hx rfl (hb hby d3_15) rfl) ?_
  show Go p e below s _ _ _ T_13 (mkF m 16 #[.val (.int (8 : Int32)), .val (.ref b_1), .val (.int (12 : Int32))] [(.int (12 : Int32)), (.ref b_1)])
  refine Go.st (fun tG => X_13.ldc2Long hx hown (mvT hZ (hw _ (List.mem_of_getElem? (i := 13) rfl))) (g := (mkF m 16 #[.val (.int (8 : Int32)), .val (.ref b_1), .val (.int (12 : Int32))] [(.int (12 : Int32)), (.ref b_1)])) rfl (hb hby d3_16) tG) ?_
  show Go p e below s _ _ _ T_13 (mkF m 19 #[.val (.int (8 : Int32)), .val (.ref b_1), .val (.int (12 : Int32))] [(.long (-9223372036854775808 : Int64)), (.int (12 : Int32)), (.ref b_1)])
  obtain ⟨cl_15, Ar_15, q_15, S_15, M_15, H_15, G_15⟩ := id V_13
  have hin_15 : ¬ ((12 : Int32) < 0 ∨ cl_15.slots.size ≤ ((12 : Int32)).toNatClampNeg) := inb_of S_15 ⟨by decide, by decide⟩
  obtain ⟨T_15, h_15, X_15, e_15, W_15, st_15⟩ := stJ X_13 hx hZ e_13 Ar_15 (j := (12 : Int32)) hin_15 (g := (mkF m 19 #[.val (.int (8 : Int32)), .val (.ref b_1), .val (.int (12 : Int32))] [(.long (-9223372036854775808 : Int64)), (.int (12 : Int32)), (.ref b_1)])) rfl rfl (hb hby d3_19)
  refine Go.st st_15 ?_
  have V_15 : Arv Z h_15 b_1 kA_1 .long (16 : Int32) [(.long (-9223372036854775808 : Int64)), (.long (0 : Int64)), (.long (-9223372036854775808 : Int64)), (.long (0 : Int64)), (.long (-9223372036854775808 : Int64)), (.long (0 : Int64)), (.long (-9223372036854775808 : Int64)), (.long (0 : Int64)), (.long (-9223372036854775808 : Int64)), (.long (0 : Int64)), (.long (-9223372036854775808 : Int64)), (.long (0 : Int64)), (.long (-9223372036854775808 : Int64)), (.long (0 : Int64)), (.long (0 : Int64)), (.long (0 : Int64))] (.long (0 : Int64)) := Arv.set Ar_15 q_15 S_15 M_15 H_15 G_15 rfl W_15 12 rfl (Nat.le_of_ble_eq_true rfl)
  have N_15 := Fr.snoc X_15 N_13 gg_1
  have K_15 : Keep h0 h_15 [] := K_13.wr W_15 (Or.inr sz_1)
  have z_15 : n0 ≤ h_15.size := Nat.le_trans z_13 (Nat.le_of_eq W_15.size.symm)
  show Go p e below s _ _ _ T_15 (mkF m 20 #[.val (.int (8 : Int32)), .val (.ref b_1), .val (.int (12 : Int32))] [])
  refine Go.st (fun _ => XS.iinc X_15.here hx rfl (hb hby d3_20) rfl (l' := #[.val (.int (8 : Int32)), .val (.ref b_1), .val (.int ((12 : Int32) + (2 : Int32)))]) rfl) ?_
  show Go p e below s _ _ _ T_15 (mkF m 23 #[.val (.int (8 : Int32)), .val (.ref b_1), .val (.int ((12 : Int32) + (2 : Int32)))] [])
  rw [show ((12 : Int32) + (2 : Int32)) = (14 : Int32) from by decide]
  show Go p e below s _ _ _ T_15 (mkF m 23 #[.val (.int (8 : Int32)), .val (.ref b_1), .val (.int (14 : Int32))] [])
  refine Go.st (fun _ => XS.goto X_15.here hx rfl (pc0 := 23) (pc' := 8) rfl (hb hby d3_23) (by decide) (by decide)) ?_
  show Go p e below s _ _ _ T_15 (mkF m 8 #[.val (.int (8 : Int32)), .val (.ref b_1), .val (.int (14 : Int32))] [])
  refine Go.st (fun _ => XS.iloadN X_15.here hx rfl (hb hby d3_8) rfl) ?_
  show Go p e below s _ _ _ T_15 (mkF m 9 #[.val (.int (8 : Int32)), .val (.ref b_1), .val (.int (14 : Int32))] [(.int (14 : Int32))])
  refine Go.st (fun _ => XS.aloadN X_15.here hx rfl (hb hby d3_9) rfl rfl) ?_
  show Go p e below s _ _ _ T_15 (mkF m 10 #[.val (.int (8 : Int32)), .val (.ref b_1), .val (.int (14 : Int32))] [(.ref b_1), (.int (14 : Int32))])
  obtain ⟨cl_16, Ar_16, q_16, S_16, M_16, H_16, G_16⟩ := id V_15
  refine Go.st (fun tG => X_15.arraylength hx (by rw [e_15]; exact Ar_16.1) (State.isArrayOf_alike hZ.alike Ar_16.2.1) (g := (mkF m 10 #[.val (.int (8 : Int32)), .val (.ref b_1), .val (.int (14 : Int32))] [(.ref b_1), (.int (14 : Int32))])) rfl rfl (hb hby d3_10) tG) ?_
  rw [len_of S_16 M_16]
  show Go p e below s _ _ _ T_15 (mkF m 11 #[.val (.int (8 : Int32)), .val (.ref b_1), .val (.int (14 : Int32))] [(.int (16 : Int32)), (.int (14 : Int32))])
  refine Go.st (fun _ => XS.icmpNo X_15.here hx rfl (hb hby d3_11) rfl (tlt (by decide : (14 : Int32) < (16 : Int32))).2.1) ?_
  show Go p e below s _ _ _ T_15 (mkF m 14 #[.val (.int (8 : Int32)), .val (.ref b_1), .val (.int (14 : Int32))] [])
  refine Go.st (fun _ => XS.aloadN X_15.here hx rfl (hb hby d3_14) rfl rfl) ?_
  show Go p e below s _ _ _ T_15 (mkF m 15 #[.val (.int (8 : Int32)), .val (.ref b_1), .val (.int (14 : Int32))] [(.ref b_1)])
  refine Go.st (fun _ => XS.iloadN X_15.here hx rfl (hb hby d3_15) rfl) ?_
  show Go p e below s _ _ _ T_15 (mkF m 16 #[.val (.int (8 : Int32)), .val (.ref b_1), .val (.int (14 : Int32))] [(.int (14 : Int32)), (.ref b_1)])
  refine Go.st (fun tG => X_15.ldc2Long hx hown (mvT hZ (hw _ (List.mem_of_getElem? (i := 13) rfl))) (g := (mkF m 16 #[.val (.int (8 : Int32)), .val (.ref b_1), .val (.int (14 : Int32))] [(.int (14 : Int32)), (.ref b_1)])) rfl (hb hby d3_16) tG) ?_
  show Go p e below s _ _ _ T_15 (mkF m 19 #[.val (.int (8 : Int32)), .val (.ref b_1), .val (.int (14 : Int32))] [(.long (-9223372036854775808 : Int64)), (.int (14 : Int32)), (.ref b_1)])
  obtain ⟨cl_17, Ar_17, q_17, S_17, M_17, H_17, G_17⟩ := id V_15
  have hin_17 : ¬ ((14 : Int32) < 0 ∨ cl_17.slots.size ≤ ((14 : Int32)).toNatClampNeg) := inb_of S_17 ⟨by decide, by decide⟩
  obtain ⟨T_17, h_17, X_17, e_17, W_17, st_17⟩ := stJ X_15 hx hZ e_15 Ar_17 (j := (14 : Int32)) hin_17 (g := (mkF m 19 #[.val (.int (8 : Int32)), .val (.ref b_1), .val (.int (14 : Int32))] [(.long (-9223372036854775808 : Int64)), (.int (14 : Int32)), (.ref b_1)])) rfl rfl (hb hby d3_19)
  refine Go.st st_17 ?_
  have V_17 : Arv Z h_17 b_1 kA_1 .long (16 : Int32) [(.long (-9223372036854775808 : Int64)), (.long (0 : Int64)), (.long (-9223372036854775808 : Int64)), (.long (0 : Int64)), (.long (-9223372036854775808 : Int64)), (.long (0 : Int64)), (.long (-9223372036854775808 : Int64)), (.long (0 : Int64)), (.long (-9223372036854775808 : Int64)), (.long (0 : Int64)), (.long (-9223372036854775808 : Int64)), (.long (0 : Int64)), (.long (-9223372036854775808 : Int64)), (.long (0 : Int64)), (.long (-9223372036854775808 : Int64)), (.long (0 : Int64))] (.long (0 : Int64)) := Arv.set Ar_17 q_17 S_17 M_17 H_17 G_17 rfl W_17 14 rfl (Nat.le_of_ble_eq_true rfl)
  have N_17 := Fr.snoc X_17 N_15 gg_1
  have K_17 : Keep h0 h_17 [] := K_15.wr W_17 (Or.inr sz_1)
  have z_17 : n0 ≤ h_17.size := Nat.le_trans z_15 (Nat.le_of_eq W_17.size.symm)
  show Go p e below s _ _ _ T_17 (mkF m 20 #[.val (.int (8 : Int32)), .val (.ref b_1), .val (.int (14 : Int32))] [])
  refine Go.st (fun _ => XS.iinc X_17.here hx rfl (hb hby d3_20) rfl (l' := #[.val (.int (8 : Int32)), .val (.ref b_1), .val (.int ((14 : Int32) + (2 : Int32)))]) rfl) ?_
  show Go p e below s _ _ _ T_17 (mkF m 23 #[.val (.int (8 : Int32)), .val (.ref b_1), .val (.int ((14 : Int32) + (2 : Int32)))] [])
  rw [show ((14 : Int32) + (2 : Int32)) = (16 : Int32) from by decide]
  show Go p e below s _ _ _ T_17 (mkF m 23 #[.val (.int (8 : Int32)), .val (.ref b_1), .val (.int (16 : Int32))] [])
  refine Go.st (fun _ => XS.goto X_17.here hx rfl (pc0 := 23) (pc' := 8) rfl (hb hby d3_23) (by decide) (by decide)) ?_
  show Go p e below s _ _ _ T_17 (mkF m 8 #[.val (.int (8 : Int32)), .val (.ref b_1), .val (.int (16 : Int32))] [])
  refine Go.st (fun _ => XS.iloadN X_17.here hx rfl (hb hby d3_8) rfl) ?_
  show Go p e below s _ _ _ T_17 (mkF m 9 #[.val (.int (8 : Int32)), .val (.ref b_1), .val (.int (16 : Int32))] [(.int (16 : Int32))])
  refine Go.st (fun _ => XS.aloadN X_17.here hx rfl (hb hby d3_9) rfl rfl) ?_
  show Go p e below s _ _ _ T_17 (mkF m 10 #[.val (.int (8 : Int32)), .val (.ref b_1), .val (.int (16 : Int32))] [(.ref b_1), (.int (16 : Int32))])
  obtain ⟨cl_18, Ar_18, q_18, S_18, M_18, H_18, G_18⟩ := id V_17
  refine Go.st (fun tG => X_17.arraylength hx (by rw [e_17]; exact Ar_18.1) (State.isArrayOf_alike hZ.alike Ar_18.2.1) (g := (mkF m 10 #[.val (.int (8 : Int32)), .val (.ref b_1), .val (.int (16 : Int32))] [(.ref b_1), (.int (16 : Int32))])) rfl rfl (hb hby d3_10) tG) ?_
  rw [len_of S_18 M_18]
  show Go p e below s _ _ _ T_17 (mkF m 11 #[.val (.int (8 : Int32)), .val (.ref b_1), .val (.int (16 : Int32))] [(.int (16 : Int32)), (.int (16 : Int32))])
  refine Go.st (fun _ => XS.icmpYes X_17.here hx rfl (pc0 := 11) (pc' := 26) rfl (hb hby d3_11) rfl (flt (by decide : ¬ ((16 : Int32) < (16 : Int32)))).2.1 (by decide) (by decide)) ?_
  show Go p e below s _ _ _ T_17 (mkF m 26 #[.val (.int (8 : Int32)), .val (.ref b_1), .val (.int (16 : Int32))] [])
  refine Go.st (fun _ => XS.aloadN X_17.here hx rfl (hb hby d3_26) rfl rfl) ?_
  show Go p e below s _ _ _ T_17 (mkF m 27 #[.val (.int (8 : Int32)), .val (.ref b_1), .val (.int (16 : Int32))] [(.ref b_1)])
  exact Go.retA X_17 hx hlk Bd.returns rfl rfl (hb hby d3_27) (by rw [e_17]; exact ⟨b_1, kA_1, rfl, N_17, K_17, sz_1, gg_1, V_17⟩) (by decide) (by decide)
theorem d1_0 : decode prog_192_method_1_code 0 = .ok (.aload_n 0, 1) := by decide +kernel
theorem d1_1 : decode prog_192_method_1_code 1 = .ok (.invokespecial 3, 3) := by decide +kernel
theorem d1_4 : decode prog_192_method_1_code 4 = .ok (.aload_n 0, 1) := by decide +kernel
theorem d1_5 : decode prog_192_method_1_code 5 = .ok (.bipush 8, 2) := by decide +kernel
theorem d1_7 : decode prog_192_method_1_code 7 = .ok (.invokestatic 11, 3) := by decide +kernel
theorem pd_0 : parseMethodDescriptor "(I)[J" = some ⟨[.int], some (.array .long)⟩ := by decide +kernel
theorem d1_10 : decode prog_192_method_1_code 10 = .ok (.putfield 15, 3) := by decide +kernel
theorem d1_13 : decode prog_192_method_1_code 13 = .ok (.return_, 1) := by decide +kernel
theorem ef_rmIn (m : MethodId) (a : Addr) : entryFrame m #[(.ref a)] 1 = mkF m 0 #[.val (.ref a)] [] := by first | (simp [entryFrame, mkF, argsToLocals, Value.category]; done) | rfl
def QrmIn (Z : State) (a : Addr) (h0 : Heap) (n0 : Nat) (rV : Option Value) (hE : Heap) (LE : List Loc) : Prop := ∃ t : Addr, ∃ kt : ClassId, rV = none ∧ Fr n0 LE ∧ Keep h0 hE [a] ∧ h0.size ≤ t ∧ n0 ≤ t ∧ Exa Z hE a "kasane/util/LongLongMap" ∧ Fld Z hE a "kasane/util/LongLongMap" "places" "[J" (.ref t) ∧ Fld Z hE a "kasane/util/LongLongMap" "size" "I" (.int (0 : Int32)) ∧ Fld Z hE a "kasane/util/LongLongMap" "holdsFree" "Z" (.int (0 : Int32)) ∧ Fld Z hE a "kasane/util/LongLongMap" "freeValue" "J" (.long (0 : Int64)) ∧ Arv Z hE t kt .long (16 : Int32) [(.long (-9223372036854775808 : Int64)), (.long (0 : Int64)), (.long (-9223372036854775808 : Int64)), (.long (0 : Int64)), (.long (-9223372036854775808 : Int64)), (.long (0 : Int64)), (.long (-9223372036854775808 : Int64)), (.long (0 : Int64)), (.long (-9223372036854775808 : Int64)), (.long (0 : Int64)), (.long (-9223372036854775808 : Int64)), (.long (0 : Int64)), (.long (-9223372036854775808 : Int64)), (.long (0 : Int64)), (.long (-9223372036854775808 : Int64)), (.long (0 : Int64))] (.long (0 : Int64))
set_option maxRecDepth 65536 in
set_option maxHeartbeats 40000000 in
theorem rmIn (l : Launch) (Z : State) (a0 : Array Value) (hw : ∀ d ∈ tables_1, d.before a0 Z = true) (ws : List Jvm.Cond) (a : Addr) (h0 : Heap) (n0 : Nat) (Z0 : n0 ≤ h0.size) (E_a : Exa Z h0 a "kasane/util/LongLongMap") (F_places_a : Fld Z h0 a "kasane/util/LongLongMap" "places" "[J" .null) (F_size_a : Fld Z h0 a "kasane/util/LongLongMap" "size" "I" (.int (0 : Int32))) (F_holdsFree_a : Fld Z h0 a "kasane/util/LongLongMap" "holdsFree" "Z" (.int (0 : Int32))) (F_freeValue_a : Fld Z h0 a "kasane/util/LongLongMap" "freeValue" "J" (.long (0 : Int64))) (g_a : n0 ≤ a) :
    MetFree l (⟨"kasane/util/LongLongMap", "<init>", "()V"⟩ : MethodName) (head1 (Jvm.Cond.code (⟨"kasane/util/LongLongMap", "<init>", "()V"⟩ : MethodName) prog_192_method_1_code 1 none :: ws) ({ frames := 1, cells := 1, slots := 16, locals := 15 } : Room)) (fun aA UA => aA = #[(.ref a)] ∧ Z.Warmed39 UA.vm ∧ UA.heap = h0) (fun _ _ _ _ _ => True) (fun _ UA oA UB => ∃ rV LE, oA = .returned rV ∧ QrmIn Z a h0 n0 rV UB.heap LE ∧ FrameEnd UA oA UB LE ({ frames := 1, cells := 1, slots := 16, locals := 15 } : Room).cells ({ frames := 1, cells := 1, slots := 16, locals := 15 } : Room).slots) := by
  refine MetFree.of_bodySF (plainFor_of_name pn_0) hisR ?_
  intro p e s m args below meth c s₁ Bd hml0 hP hK
  obtain ⟨rfl, hZ, hh⟩ := hP
  have hx := Bd.exec
  have hby := Bd.bytes
  have hml : c.maxLocals = 1 := hml0
  have hown : s.vm.findClass "kasane/util/LongLongMap" = some m.cls := findClass_of_methodNamed Bd.named
  have hnm := (name_of_methodNamed Bd.named Bd.method).1
  have hlk := Bd.notSynchronized
  have X0 : Stand p l e ({ frames := 1, cells := 1, slots := 16, locals := 15 } : Room) s m #[(.ref a)] below meth c s₁ [] 0 0 := Stand.of_body Bd
  have e0 : s₁.heap = h0 := by rw [← hh, Bd.state]; rfl
  have N0 := Fr.nil n0
  show Go p e below s (QrmIn Z a h0 n0) ({ frames := 1, cells := 1, slots := 16, locals := 15 } : Room).cells ({ frames := 1, cells := 1, slots := 16, locals := 15 } : Room).slots s₁ (entryFrame m #[(.ref a)] 1)
  refine Go.eq (ef_rmIn m a) ?_
  show Go p e below s _ _ _ s₁ (mkF m 0 #[.val (.ref a)] [])
  refine Go.st (fun _ => XS.aloadN X0.here hx rfl (hb hby d1_0) rfl rfl) ?_
  show Go p e below s _ _ _ s₁ (mkF m 1 #[.val (.ref a)] [(.ref a)])
  obtain ⟨T_1, X_1, e_1, st_1⟩ := initO X0 hx hZ hown (hw _ (List.mem_of_getElem? (i := 6) rfl)) (hw _ (List.mem_of_getElem? (i := 7) rfl)) (hw _ (List.mem_of_getElem? (i := 8) rfl)) e0 (g := (mkF m 1 #[.val (.ref a)] [(.ref a)])) rfl (by rw [hml]; rfl) rfl (hb hby d1_1) (by decide) (W := 0) (by show 2 * 0 + _ ≤ _; exact Nat.le_of_eq rfl) (by decide)
  refine Go.st st_1 ?_
  show Go p e below s _ _ _ T_1 (mkF m 4 #[.val (.ref a)] [])
  refine Go.st (fun _ => XS.aloadN X_1.here hx rfl (hb hby d1_4) rfl rfl) ?_
  show Go p e below s _ _ _ T_1 (mkF m 5 #[.val (.ref a)] [(.ref a)])
  refine Go.st (fun _ => XS.bipush X_1.here hx rfl (hb hby d1_5)) ?_
  show Go p e below s _ _ _ T_1 (mkF m 7 #[.val (.ref a)] [(.int (8 : Int32)), (.ref a)])
  obtain ⟨_, _, ⟨T_2, L_2, kc_2, nc_2⟩, -, X_2, ⟨Lc_2, hQ_2, l_2, y_2, z_2⟩, st_2⟩ := Jvm.LawKit.callS X_1 hx (y := (⟨"kasane/util/LongLongMap", "freePlaces", "(I)[J"⟩ : MethodName)) hown (mvT hZ (hw _ (List.mem_of_getElem? (i := 9) rfl))) (mvT hZ (hw _ (List.mem_of_getElem? (i := 10) rfl))) (mvT hZ (hw _ (List.mem_of_getElem? (i := 2) rfl))) (mvT hZ (hw _ (List.mem_of_getElem? (i := 11) rfl))) (by decide) (backOf (W := 1) (rmFp l Z a0 hw []  h0 n0 Z0 ) hZ (hw _ (List.mem_of_getElem? (i := 11) rfl)) (hw _ (List.mem_of_getElem? (i := 2) rfl)) (by decide) (by decide)) (g := (mkF m 7 #[.val (.ref a)] [(.int (8 : Int32)), (.ref a)])) rfl (by rw [hml]; rfl) (argsL := [(.int (8 : Int32))]) (rest := [(.ref a)]) (lenOf pd_0 rfl) rfl (by show 2 * 0 + _ ≤ _; exact Nat.le_of_eq rfl) (hb hby d1_7) (fun _ _ => ⟨rfl, e_1, (by decide : 0 + 1 ≤ _), (by decide : 0 + 16 ≤ _)⟩)
  dsimp only [Pt.U, Pt.locs, Pt.cells, Pt.slots] at X_2 l_2 y_2 z_2 st_2 hQ_2
  subst l_2 y_2 z_2
  obtain ⟨h_2, e_2⟩ : ∃ hh, T_2.heap = hh := ⟨_, rfl⟩
  rw [e_2] at hQ_2
  obtain ⟨t__2, kt__2, rfl, N_2q, K_2, p_2_0, p_2_1, p_2_2⟩ := hQ_2
  have N_2 := Fr.app N0 N_2q
  refine Go.st st_2 ?_
  have ne_a_t__2 : a ≠ t__2 := Nat.ne_of_lt (Nat.lt_of_lt_of_le E_a.lt p_2_0)
  have KK_2 : Keep h0 h_2 [a] := (Keep.refl h0 [a]).trans K_2 all0
  have z_2q : n0 ≤ h_2.size := Nat.le_trans Z0 K_2.1
  have sz_2_0 : h0.size ≤ t__2 := Nat.le_trans (Keep.refl h0 [a]).1 p_2_0
  show Go p e below s _ _ _ T_2 (mkF m 10 #[.val (.ref a)] [(.ref t__2), (.ref a)])
  have f_3 := (E_a.keep K_2)
  have f_4 := (F_places_a.keep K_2 nin0)
  obtain ⟨T_5, h_5, X_5, e_5, W_5, st_5⟩ := putF X_2 hx hZ hown (host := "") (Or.inl (hw _ (List.mem_of_getElem? (i := 14) rfl))) Via.refl e_2 f_4 f_3 (Or.inl (hw _ (List.mem_of_getElem? (i := 15) rfl))) (hw _ (List.mem_of_getElem? (i := 1) rfl)) (ty := (.array .long)) (by decide) rfl rfl (g := (mkF m 10 #[.val (.ref a)] [(.ref t__2), (.ref a)])) rfl rfl (hb hby d1_10)
  refine Go.st st_5 ?_
  have N_5 := Fr.snoc X_5 N_2 g_a
  have K_5 : Keep h0 h_5 [a] := KK_2.wr W_5 (Or.inl (List.mem_of_getElem? (i := 0) rfl))
  have z_5 : n0 ≤ h_5.size := Nat.le_trans z_2q (Nat.le_of_eq W_5.size.symm)
  have Fw_5 := f_4.same W_5
  show Go p e below s _ _ _ T_5 (mkF m 13 #[.val (.ref a)] [])
  have f_6 := (f_3.wr W_5)
  have f_7 := ((F_size_a.keep K_2 nin0).other W_5 (Or.inr (slot_ne (Or.inl (hw _ (List.mem_of_getElem? (i := 22) rfl))) (Or.inl (hw _ (List.mem_of_getElem? (i := 15) rfl))) (by decide) (t := .int) (t' := (.array .long)) (by decide) (by decide))))
  have f_8 := ((F_holdsFree_a.keep K_2 nin0).other W_5 (Or.inr (slot_ne (Or.inl (hw _ (List.mem_of_getElem? (i := 35) rfl))) (Or.inl (hw _ (List.mem_of_getElem? (i := 15) rfl))) (by decide) (t := .boolean) (t' := (.array .long)) (by decide) (by decide))))
  have f_9 := ((F_freeValue_a.keep K_2 nin0).other W_5 (Or.inr (slot_ne (Or.inl (hw _ (List.mem_of_getElem? (i := 37) rfl))) (Or.inl (hw _ (List.mem_of_getElem? (i := 15) rfl))) (by decide) (t := .long) (t' := (.array .long)) (by decide) (by decide))))
  have f_10 := (p_2_2.other W_5 (Ne.symm ne_a_t__2))
  exact Go.ret0 X_5 hx hlk Bd.returns (hb hby d1_13) (by rw [e_5]; exact ⟨t__2, kt__2, rfl, N_5, K_5, sz_2_0, p_2_1, f_6, Fw_5, f_7, f_8, f_9, f_10⟩) (by decide) (by decide)
theorem d4_0 : decode prog_192_method_6_code 0 = .ok (.aload_n 0, 1) := by decide +kernel
theorem d4_1 : decode prog_192_method_6_code 1 = .ok (.getfield 33, 3) := by decide +kernel
theorem d4_4 : decode prog_192_method_6_code 4 = .ok (.ifCond .ne 7, 3) := by decide +kernel
theorem d4_7 : decode prog_192_method_6_code 7 = .ok (.iconst 1, 1) := by decide +kernel
theorem d4_8 : decode prog_192_method_6_code 8 = .ok (.goto 4, 3) := by decide +kernel
theorem d4_12 : decode prog_192_method_6_code 12 = .ok (.ireturn, 1) := by decide +kernel
theorem d4_11 : decode prog_192_method_6_code 11 = .ok (.iconst 0, 1) := by decide +kernel
theorem ef_rmEm (m : MethodId) (a : Addr) : entryFrame m #[(.ref a)] 1 = mkF m 0 #[.val (.ref a)] [] := by first | (simp [entryFrame, mkF, argsToLocals, Value.category]; done) | rfl
def QrmEm (Z : State) (a : Addr) (n : Int32) (h0 : Heap) (n0 : Nat) (rV : Option Value) (hE : Heap) (LE : List Loc) : Prop := rV = some (.int (b2i (n = (0 : Int32)))) ∧ Fr n0 LE ∧ hE = h0
set_option maxRecDepth 65536 in
set_option maxHeartbeats 40000000 in
theorem rmEm (l : Launch) (Z : State) (a0 : Array Value) (hw : ∀ d ∈ tables_1, d.before a0 Z = true) (ws : List Jvm.Cond) (a : Addr) (n : Int32) (h0 : Heap) (n0 : Nat) (Z0 : n0 ≤ h0.size) (F_size_a : Fld Z h0 a "kasane/util/LongLongMap" "size" "I" (.int n)) :
    MetFree l (⟨"kasane/util/LongLongMap", "isEmpty", "()Z"⟩ : MethodName) (head1 (Jvm.Cond.code (⟨"kasane/util/LongLongMap", "isEmpty", "()Z"⟩ : MethodName) prog_192_method_6_code 1 (some .boolean) :: ws) ({ frames := 0, cells := 0, slots := 0, locals := 0 } : Room)) (fun aA UA => aA = #[(.ref a)] ∧ Z.Warmed39 UA.vm ∧ UA.heap = h0) (fun _ _ _ _ _ => True) (fun _ UA oA UB => ∃ rV LE, oA = .returned rV ∧ QrmEm Z a n h0 n0 rV UB.heap LE ∧ FrameEnd UA oA UB LE ({ frames := 0, cells := 0, slots := 0, locals := 0 } : Room).cells ({ frames := 0, cells := 0, slots := 0, locals := 0 } : Room).slots) := by
  refine MetFree.of_bodySF (plainFor_of_name pn_0) hisR ?_
  intro p e s m args below meth c s₁ Bd hml0 hP hK
  obtain ⟨rfl, hZ, hh⟩ := hP
  have hx := Bd.exec
  have hby := Bd.bytes
  have hml : c.maxLocals = 1 := hml0
  have hown : s.vm.findClass "kasane/util/LongLongMap" = some m.cls := findClass_of_methodNamed Bd.named
  have hnm := (name_of_methodNamed Bd.named Bd.method).1
  have hlk := Bd.notSynchronized
  have X0 : Stand p l e ({ frames := 0, cells := 0, slots := 0, locals := 0 } : Room) s m #[(.ref a)] below meth c s₁ [] 0 0 := Stand.of_body Bd
  have e0 : s₁.heap = h0 := by rw [← hh, Bd.state]; rfl
  have N0 := Fr.nil n0
  show Go p e below s (QrmEm Z a n h0 n0) ({ frames := 0, cells := 0, slots := 0, locals := 0 } : Room).cells ({ frames := 0, cells := 0, slots := 0, locals := 0 } : Room).slots s₁ (entryFrame m #[(.ref a)] 1)
  refine Go.eq (ef_rmEm m a) ?_
  show Go p e below s _ _ _ s₁ (mkF m 0 #[.val (.ref a)] [])
  refine Go.st (fun _ => XS.aloadN X0.here hx rfl (hb hby d4_0) rfl rfl) ?_
  show Go p e below s _ _ _ s₁ (mkF m 1 #[.val (.ref a)] [(.ref a)])
  obtain ⟨T_1, X_1, e_1, st_1⟩ := getF X0 hx hZ hown (host := "") (Or.inl (hw _ (List.mem_of_getElem? (i := 21) rfl))) Via.refl e0 F_size_a (g := (mkF m 1 #[.val (.ref a)] [(.ref a)])) rfl rfl (hb hby d4_1)
  refine Go.st st_1 ?_
  show Go p e below s _ _ _ T_1 (mkF m 4 #[.val (.ref a)] [(.int n)])
  by_cases hc_2 : n = (0 : Int32)
  · refine Go.st (fun _ => XS.ifNo X_1.here hx rfl (hb hby d4_4) rfl ((if0 _ _).trans (teq hc_2).2)) ?_
    show Go p e below s _ _ _ T_1 (mkF m 7 #[.val (.ref a)] [])
    refine Go.st (fun _ => XS.iconst X_1.here hx rfl (hb hby d4_7)) ?_
    show Go p e below s _ _ _ T_1 (mkF m 8 #[.val (.ref a)] [(.int (1 : Int32))])
    refine Go.st (fun _ => XS.goto X_1.here hx rfl (pc0 := 8) (pc' := 12) rfl (hb hby d4_8) (by decide) (by decide)) ?_
    show Go p e below s _ _ _ T_1 (mkF m 12 #[.val (.ref a)] [(.int (1 : Int32))])
    exact Go.retZ X_1 hx hlk Bd.returns (hb hby d4_12) rfl (by rw [e_1]; exact ⟨(own_b2i_t hc_2), N0, rfl⟩) (by decide) (by decide)
  · refine Go.st (fun _ => XS.ifYes X_1.here hx rfl (pc0 := 4) (pc' := 11) rfl (hb hby d4_4) rfl ((if0 _ _).trans (feq hc_2).2) (by decide) (by decide)) ?_
    show Go p e below s _ _ _ T_1 (mkF m 11 #[.val (.ref a)] [])
    refine Go.st (fun _ => XS.iconst X_1.here hx rfl (hb hby d4_11)) ?_
    show Go p e below s _ _ _ T_1 (mkF m 12 #[.val (.ref a)] [(.int (0 : Int32))])
    exact Go.retZ X_1 hx hlk Bd.returns (hb hby d4_12) rfl (by rw [e_1]; exact ⟨(own_b2i_f hc_2), N0, rfl⟩) (by decide) (by decide)
theorem d5_0 : decode prog_192_method_5_code 0 = .ok (.aload_n 0, 1) := by decide +kernel
theorem d5_1 : decode prog_192_method_5_code 1 = .ok (.getfield 33, 3) := by decide +kernel
theorem d5_4 : decode prog_192_method_5_code 4 = .ok (.ireturn, 1) := by decide +kernel
theorem ef_rmSz (m : MethodId) (a : Addr) : entryFrame m #[(.ref a)] 1 = mkF m 0 #[.val (.ref a)] [] := by first | (simp [entryFrame, mkF, argsToLocals, Value.category]; done) | rfl
def QrmSz (Z : State) (a : Addr) (n : Int32) (h0 : Heap) (n0 : Nat) (rV : Option Value) (hE : Heap) (LE : List Loc) : Prop := rV = some (.int n) ∧ Fr n0 LE ∧ hE = h0
set_option maxRecDepth 65536 in
set_option maxHeartbeats 40000000 in
theorem rmSz (l : Launch) (Z : State) (a0 : Array Value) (hw : ∀ d ∈ tables_1, d.before a0 Z = true) (ws : List Jvm.Cond) (a : Addr) (n : Int32) (h0 : Heap) (n0 : Nat) (Z0 : n0 ≤ h0.size) (F_size_a : Fld Z h0 a "kasane/util/LongLongMap" "size" "I" (.int n)) :
    MetFree l (⟨"kasane/util/LongLongMap", "size", "()I"⟩ : MethodName) (head1 (Jvm.Cond.code (⟨"kasane/util/LongLongMap", "size", "()I"⟩ : MethodName) prog_192_method_5_code 1 (some .int) :: ws) ({ frames := 0, cells := 0, slots := 0, locals := 0 } : Room)) (fun aA UA => aA = #[(.ref a)] ∧ Z.Warmed39 UA.vm ∧ UA.heap = h0) (fun _ _ _ _ _ => True) (fun _ UA oA UB => ∃ rV LE, oA = .returned rV ∧ QrmSz Z a n h0 n0 rV UB.heap LE ∧ FrameEnd UA oA UB LE ({ frames := 0, cells := 0, slots := 0, locals := 0 } : Room).cells ({ frames := 0, cells := 0, slots := 0, locals := 0 } : Room).slots) := by
  refine MetFree.of_bodySF (plainFor_of_name pn_0) hisR ?_
  intro p e s m args below meth c s₁ Bd hml0 hP hK
  obtain ⟨rfl, hZ, hh⟩ := hP
  have hx := Bd.exec
  have hby := Bd.bytes
  have hml : c.maxLocals = 1 := hml0
  have hown : s.vm.findClass "kasane/util/LongLongMap" = some m.cls := findClass_of_methodNamed Bd.named
  have hnm := (name_of_methodNamed Bd.named Bd.method).1
  have hlk := Bd.notSynchronized
  have X0 : Stand p l e ({ frames := 0, cells := 0, slots := 0, locals := 0 } : Room) s m #[(.ref a)] below meth c s₁ [] 0 0 := Stand.of_body Bd
  have e0 : s₁.heap = h0 := by rw [← hh, Bd.state]; rfl
  have N0 := Fr.nil n0
  show Go p e below s (QrmSz Z a n h0 n0) ({ frames := 0, cells := 0, slots := 0, locals := 0 } : Room).cells ({ frames := 0, cells := 0, slots := 0, locals := 0 } : Room).slots s₁ (entryFrame m #[(.ref a)] 1)
  refine Go.eq (ef_rmSz m a) ?_
  show Go p e below s _ _ _ s₁ (mkF m 0 #[.val (.ref a)] [])
  refine Go.st (fun _ => XS.aloadN X0.here hx rfl (hb hby d5_0) rfl rfl) ?_
  show Go p e below s _ _ _ s₁ (mkF m 1 #[.val (.ref a)] [(.ref a)])
  obtain ⟨T_1, X_1, e_1, st_1⟩ := getF X0 hx hZ hown (host := "") (Or.inl (hw _ (List.mem_of_getElem? (i := 21) rfl))) Via.refl e0 F_size_a (g := (mkF m 1 #[.val (.ref a)] [(.ref a)])) rfl rfl (hb hby d5_1)
  refine Go.st st_1 ?_
  show Go p e below s _ _ _ T_1 (mkF m 4 #[.val (.ref a)] [(.int n)])
  exact Go.retI X_1 hx hlk Bd.returns (hb hby d5_4) (by rw [e_1]; exact ⟨rfl, N0, rfl⟩) (by decide) (by decide)
theorem d8_0 : decode prog_192_method_9_code 0 = .ok (.aload_n 0, 1) := by decide +kernel
theorem d8_1 : decode prog_192_method_9_code 1 = .ok (.getfield 15, 3) := by decide +kernel
theorem d8_4 : decode prog_192_method_9_code 4 = .ok (.arraylength, 1) := by decide +kernel
theorem d8_5 : decode prog_192_method_9_code 5 = .ok (.iconst 2, 1) := by decide +kernel
theorem d8_6 : decode prog_192_method_9_code 6 = .ok (.idiv, 1) := by decide +kernel
theorem d8_7 : decode prog_192_method_9_code 7 = .ok (.ireturn, 1) := by decide +kernel
theorem ef_rmCa (m : MethodId) (a : Addr) : entryFrame m #[(.ref a)] 1 = mkF m 0 #[.val (.ref a)] [] := by first | (simp [entryFrame, mkF, argsToLocals, Value.category]; done) | rfl
def QrmCa (Z : State) (a : Addr) (t : Addr) (kt : ClassId) (ks : List Int64) (h0 : Heap) (n0 : Nat) (rV : Option Value) (hE : Heap) (LE : List Loc) : Prop := rV = some (.int (8 : Int32)) ∧ Fr n0 LE ∧ hE = h0
set_option maxRecDepth 65536 in
set_option maxHeartbeats 40000000 in
theorem rmCa (l : Launch) (Z : State) (a0 : Array Value) (hw : ∀ d ∈ tables_1, d.before a0 Z = true) (ws : List Jvm.Cond) (a : Addr) (t : Addr) (kt : ClassId) (ks : List Int64) (h0 : Heap) (n0 : Nat) (Z0 : n0 ≤ h0.size) (F_places_a : Fld Z h0 a "kasane/util/LongLongMap" "places" "[J" (.ref t)) (V_t : Arv Z h0 t kt .long (16 : Int32) (ks.map Value.long) (.long (0 : Int64))) :
    MetFree l (⟨"kasane/util/LongLongMap", "capacity", "()I"⟩ : MethodName) (head1 (Jvm.Cond.code (⟨"kasane/util/LongLongMap", "capacity", "()I"⟩ : MethodName) prog_192_method_9_code 1 (some .int) :: ws) ({ frames := 0, cells := 0, slots := 0, locals := 0 } : Room)) (fun aA UA => aA = #[(.ref a)] ∧ Z.Warmed39 UA.vm ∧ UA.heap = h0) (fun _ _ _ _ _ => True) (fun _ UA oA UB => ∃ rV LE, oA = .returned rV ∧ QrmCa Z a t kt ks h0 n0 rV UB.heap LE ∧ FrameEnd UA oA UB LE ({ frames := 0, cells := 0, slots := 0, locals := 0 } : Room).cells ({ frames := 0, cells := 0, slots := 0, locals := 0 } : Room).slots) := by
  refine MetFree.of_bodySF (plainFor_of_name pn_0) hisR ?_
  intro p e s m args below meth c s₁ Bd hml0 hP hK
  obtain ⟨rfl, hZ, hh⟩ := hP
  have hx := Bd.exec
  have hby := Bd.bytes
  have hml : c.maxLocals = 1 := hml0
  have hown : s.vm.findClass "kasane/util/LongLongMap" = some m.cls := findClass_of_methodNamed Bd.named
  have hnm := (name_of_methodNamed Bd.named Bd.method).1
  have hlk := Bd.notSynchronized
  have X0 : Stand p l e ({ frames := 0, cells := 0, slots := 0, locals := 0 } : Room) s m #[(.ref a)] below meth c s₁ [] 0 0 := Stand.of_body Bd
  have e0 : s₁.heap = h0 := by rw [← hh, Bd.state]; rfl
  have N0 := Fr.nil n0
  show Go p e below s (QrmCa Z a t kt ks h0 n0) ({ frames := 0, cells := 0, slots := 0, locals := 0 } : Room).cells ({ frames := 0, cells := 0, slots := 0, locals := 0 } : Room).slots s₁ (entryFrame m #[(.ref a)] 1)
  refine Go.eq (ef_rmCa m a) ?_
  show Go p e below s _ _ _ s₁ (mkF m 0 #[.val (.ref a)] [])
  refine Go.st (fun _ => XS.aloadN X0.here hx rfl (hb hby d8_0) rfl rfl) ?_
  show Go p e below s _ _ _ s₁ (mkF m 1 #[.val (.ref a)] [(.ref a)])
  obtain ⟨T_1, X_1, e_1, st_1⟩ := getF X0 hx hZ hown (host := "") (Or.inl (hw _ (List.mem_of_getElem? (i := 14) rfl))) Via.refl e0 F_places_a (g := (mkF m 1 #[.val (.ref a)] [(.ref a)])) rfl rfl (hb hby d8_1)
  refine Go.st st_1 ?_
  show Go p e below s _ _ _ T_1 (mkF m 4 #[.val (.ref a)] [(.ref t)])
  obtain ⟨cl_2, Ar_2, q_2, S_2, M_2, H_2, G_2⟩ := id V_t
  refine Go.st (fun tG => X_1.arraylength hx (by rw [e_1]; exact Ar_2.1) (State.isArrayOf_alike hZ.alike Ar_2.2.1) (g := (mkF m 4 #[.val (.ref a)] [(.ref t)])) rfl rfl (hb hby d8_4) tG) ?_
  rw [len_of S_2 M_2]
  show Go p e below s _ _ _ T_1 (mkF m 5 #[.val (.ref a)] [(.int (16 : Int32))])
  refine Go.st (fun _ => XS.iconst X_1.here hx rfl (hb hby d8_5)) ?_
  show Go p e below s _ _ _ T_1 (mkF m 6 #[.val (.ref a)] [(.int (2 : Int32)), (.int (16 : Int32))])
  refine Go.st (fun _ => XS.idiv X_1.here hx rfl (hb hby d8_6) rfl (by decide)) ?_
  show Go p e below s _ _ _ T_1 (mkF m 7 #[.val (.ref a)] [(.int ((16 : Int32) / (2 : Int32)))])
  rw [show ((16 : Int32) / (2 : Int32)) = (8 : Int32) from by decide]
  show Go p e below s _ _ _ T_1 (mkF m 7 #[.val (.ref a)] [(.int (8 : Int32))])
  exact Go.retI X_1 hx hlk Bd.returns (hb hby d8_7) (by rw [e_1]; exact ⟨rfl, N0, rfl⟩) (by decide) (by decide)
theorem d10_0 : decode jdk_33_method_48_code 0 = .ok (.iload_n 0, 1) := by decide +kernel
theorem d10_1 : decode jdk_33_method_48_code 1 = .ok (.iconst (-1), 1) := by decide +kernel
theorem d10_2 : decode jdk_33_method_48_code 2 = .ok (.ixor, 1) := by decide +kernel
theorem d10_3 : decode jdk_33_method_48_code 3 = .ok (.iload_n 0, 1) := by decide +kernel
theorem d10_4 : decode jdk_33_method_48_code 4 = .ok (.iconst 1, 1) := by decide +kernel
theorem d10_5 : decode jdk_33_method_48_code 5 = .ok (.isub, 1) := by decide +kernel
theorem d10_6 : decode jdk_33_method_48_code 6 = .ok (.iand, 1) := by decide +kernel
theorem d10_7 : decode jdk_33_method_48_code 7 = .ok (.istore_n 0, 1) := by decide +kernel
theorem d10_8 : decode jdk_33_method_48_code 8 = .ok (.iload_n 0, 1) := by decide +kernel
theorem d10_9 : decode jdk_33_method_48_code 9 = .ok (.ifCond .gt 8, 3) := by decide +kernel
theorem d10_17 : decode jdk_33_method_48_code 17 = .ok (.iconst 1, 1) := by decide +kernel
theorem d10_18 : decode jdk_33_method_48_code 18 = .ok (.istore_n 1, 1) := by decide +kernel
theorem d10_19 : decode jdk_33_method_48_code 19 = .ok (.iload_n 0, 1) := by decide +kernel
theorem d10_20 : decode jdk_33_method_48_code 20 = .ok (.ldc_w 264, 3) := by decide +kernel
theorem d10_23 : decode jdk_33_method_48_code 23 = .ok (.if_icmp .le 11, 3) := by decide +kernel
theorem d10_34 : decode jdk_33_method_48_code 34 = .ok (.iload_n 0, 1) := by decide +kernel
theorem d10_35 : decode jdk_33_method_48_code 35 = .ok (.sipush 256, 3) := by decide +kernel
theorem d10_38 : decode jdk_33_method_48_code 38 = .ok (.if_icmp .le 11, 3) := by decide +kernel
theorem d10_49 : decode jdk_33_method_48_code 49 = .ok (.iload_n 0, 1) := by decide +kernel
theorem d10_50 : decode jdk_33_method_48_code 50 = .ok (.bipush 16, 2) := by decide +kernel
theorem d10_52 : decode jdk_33_method_48_code 52 = .ok (.if_icmp .le 10, 3) := by decide +kernel
theorem d10_62 : decode jdk_33_method_48_code 62 = .ok (.iload_n 0, 1) := by decide +kernel
theorem d10_63 : decode jdk_33_method_48_code 63 = .ok (.iconst 4, 1) := by decide +kernel
theorem d10_64 : decode jdk_33_method_48_code 64 = .ok (.if_icmp .le 10, 3) := by decide +kernel
theorem d10_67 : decode jdk_33_method_48_code 67 = .ok (.iinc 1 2, 3) := by decide +kernel
theorem d10_70 : decode jdk_33_method_48_code 70 = .ok (.iload_n 0, 1) := by decide +kernel
theorem d10_71 : decode jdk_33_method_48_code 71 = .ok (.iconst 2, 1) := by decide +kernel
theorem d10_72 : decode jdk_33_method_48_code 72 = .ok (.iushr, 1) := by decide +kernel
theorem d10_73 : decode jdk_33_method_48_code 73 = .ok (.istore_n 0, 1) := by decide +kernel
theorem d10_74 : decode jdk_33_method_48_code 74 = .ok (.iload_n 1, 1) := by decide +kernel
theorem d10_75 : decode jdk_33_method_48_code 75 = .ok (.iload_n 0, 1) := by decide +kernel
theorem d10_76 : decode jdk_33_method_48_code 76 = .ok (.iconst 1, 1) := by decide +kernel
theorem d10_77 : decode jdk_33_method_48_code 77 = .ok (.iushr, 1) := by decide +kernel
theorem d10_78 : decode jdk_33_method_48_code 78 = .ok (.iadd, 1) := by decide +kernel
theorem d10_79 : decode jdk_33_method_48_code 79 = .ok (.ireturn, 1) := by decide +kernel
theorem pn_1 : plainName "java/lang/Integer" = true := by first | (simp [plainName, overriddenIn]; done) | decide +kernel
theorem ef_rmNt (m : MethodId)  : entryFrame m #[(.int (8 : Int32))] 2 = mkF m 0 #[.val (.int (8 : Int32)), .unset] [] := by first | (simp [entryFrame, mkF, argsToLocals, Value.category]; done) | rfl
def QrmNt (Z : State)  (h0 : Heap) (n0 : Nat) (rV : Option Value) (hE : Heap) (LE : List Loc) : Prop := rV = some (.int (3 : Int32)) ∧ Fr n0 LE ∧ hE = h0
set_option maxRecDepth 65536 in
set_option maxHeartbeats 40000000 in
theorem rmNt (l : Launch) (Z : State) (a0 : Array Value) (hw : ∀ d ∈ tables_1, d.before a0 Z = true) (ws : List Jvm.Cond)  (h0 : Heap) (n0 : Nat) (Z0 : n0 ≤ h0.size) :
    MetFree l (⟨"java/lang/Integer", "numberOfTrailingZeros", "(I)I"⟩ : MethodName) (head1 (Jvm.Cond.code (⟨"java/lang/Integer", "numberOfTrailingZeros", "(I)I"⟩ : MethodName) jdk_33_method_48_code 2 (some .int) :: ws) ({ frames := 0, cells := 0, slots := 0, locals := 0 } : Room)) (fun aA UA => aA = #[(.int (8 : Int32))] ∧ Z.Warmed39 UA.vm ∧ UA.heap = h0) (fun _ _ _ _ _ => True) (fun _ UA oA UB => ∃ rV LE, oA = .returned rV ∧ QrmNt Z  h0 n0 rV UB.heap LE ∧ FrameEnd UA oA UB LE ({ frames := 0, cells := 0, slots := 0, locals := 0 } : Room).cells ({ frames := 0, cells := 0, slots := 0, locals := 0 } : Room).slots) := by
  refine MetFree.of_bodySF (plainFor_of_name pn_1) hisR ?_
  intro p e s m args below meth c s₁ Bd hml0 hP hK
  obtain ⟨rfl, hZ, hh⟩ := hP
  have hx := Bd.exec
  have hby := Bd.bytes
  have hml : c.maxLocals = 2 := hml0
  have hown : s.vm.findClass "java/lang/Integer" = some m.cls := findClass_of_methodNamed Bd.named
  have hnm := (name_of_methodNamed Bd.named Bd.method).1
  have hlk := Bd.notSynchronized
  have X0 : Stand p l e ({ frames := 0, cells := 0, slots := 0, locals := 0 } : Room) s m #[(.int (8 : Int32))] below meth c s₁ [] 0 0 := Stand.of_body Bd
  have e0 : s₁.heap = h0 := by rw [← hh, Bd.state]; rfl
  have N0 := Fr.nil n0
  show Go p e below s (QrmNt Z  h0 n0) ({ frames := 0, cells := 0, slots := 0, locals := 0 } : Room).cells ({ frames := 0, cells := 0, slots := 0, locals := 0 } : Room).slots s₁ (entryFrame m #[(.int (8 : Int32))] 2)
  refine Go.eq (ef_rmNt m ) ?_
  show Go p e below s _ _ _ s₁ (mkF m 0 #[.val (.int (8 : Int32)), .unset] [])
  refine Go.st (fun _ => XS.iloadN X0.here hx rfl (hb hby d10_0) rfl) ?_
  show Go p e below s _ _ _ s₁ (mkF m 1 #[.val (.int (8 : Int32)), .unset] [(.int (8 : Int32))])
  refine Go.st (fun _ => XS.iconst X0.here hx rfl (hb hby d10_1)) ?_
  show Go p e below s _ _ _ s₁ (mkF m 2 #[.val (.int (8 : Int32)), .unset] [(.int (-1 : Int32)), (.int (8 : Int32))])
  refine Go.st (fun _ => XS.ixor X0.here hx rfl (hb hby d10_2) rfl) ?_
  show Go p e below s _ _ _ s₁ (mkF m 3 #[.val (.int (8 : Int32)), .unset] [(.int ((8 : Int32) ^^^ (-1 : Int32)))])
  rw [show ((8 : Int32) ^^^ (-1 : Int32)) = (-9 : Int32) from by decide]
  show Go p e below s _ _ _ s₁ (mkF m 3 #[.val (.int (8 : Int32)), .unset] [(.int (-9 : Int32))])
  refine Go.st (fun _ => XS.iloadN X0.here hx rfl (hb hby d10_3) rfl) ?_
  show Go p e below s _ _ _ s₁ (mkF m 4 #[.val (.int (8 : Int32)), .unset] [(.int (8 : Int32)), (.int (-9 : Int32))])
  refine Go.st (fun _ => XS.iconst X0.here hx rfl (hb hby d10_4)) ?_
  show Go p e below s _ _ _ s₁ (mkF m 5 #[.val (.int (8 : Int32)), .unset] [(.int (1 : Int32)), (.int (8 : Int32)), (.int (-9 : Int32))])
  refine Go.st (fun _ => XS.isub X0.here hx rfl (hb hby d10_5) rfl) ?_
  show Go p e below s _ _ _ s₁ (mkF m 6 #[.val (.int (8 : Int32)), .unset] [(.int ((8 : Int32) - (1 : Int32))), (.int (-9 : Int32))])
  rw [show ((8 : Int32) - (1 : Int32)) = (7 : Int32) from by decide]
  show Go p e below s _ _ _ s₁ (mkF m 6 #[.val (.int (8 : Int32)), .unset] [(.int (7 : Int32)), (.int (-9 : Int32))])
  refine Go.st (fun _ => XS.iand X0.here hx rfl (hb hby d10_6) rfl) ?_
  show Go p e below s _ _ _ s₁ (mkF m 7 #[.val (.int (8 : Int32)), .unset] [(.int ((-9 : Int32) &&& (7 : Int32)))])
  rw [show ((-9 : Int32) &&& (7 : Int32)) = (7 : Int32) from by decide]
  show Go p e below s _ _ _ s₁ (mkF m 7 #[.val (.int (8 : Int32)), .unset] [(.int (7 : Int32))])
  refine Go.st (fun _ => XS.istoreN X0.here hx rfl (hb hby d10_7) rfl (l' := #[.val (.int (7 : Int32)), .unset]) rfl) ?_
  show Go p e below s _ _ _ s₁ (mkF m 8 #[.val (.int (7 : Int32)), .unset] [])
  refine Go.st (fun _ => XS.iloadN X0.here hx rfl (hb hby d10_8) rfl) ?_
  show Go p e below s _ _ _ s₁ (mkF m 9 #[.val (.int (7 : Int32)), .unset] [(.int (7 : Int32))])
  refine Go.st (fun _ => XS.ifYes X0.here hx rfl (pc0 := 9) (pc' := 17) rfl (hb hby d10_9) rfl ((if0 _ _).trans (tlt (by decide : (0 : Int32) < (7 : Int32))).2.2.1) (by decide) (by decide)) ?_
  show Go p e below s _ _ _ s₁ (mkF m 17 #[.val (.int (7 : Int32)), .unset] [])
  refine Go.st (fun _ => XS.iconst X0.here hx rfl (hb hby d10_17)) ?_
  show Go p e below s _ _ _ s₁ (mkF m 18 #[.val (.int (7 : Int32)), .unset] [(.int (1 : Int32))])
  refine Go.st (fun _ => XS.istoreN X0.here hx rfl (hb hby d10_18) rfl (l' := #[.val (.int (7 : Int32)), .val (.int (1 : Int32))]) rfl) ?_
  show Go p e below s _ _ _ s₁ (mkF m 19 #[.val (.int (7 : Int32)), .val (.int (1 : Int32))] [])
  refine Go.st (fun _ => XS.iloadN X0.here hx rfl (hb hby d10_19) rfl) ?_
  show Go p e below s _ _ _ s₁ (mkF m 20 #[.val (.int (7 : Int32)), .val (.int (1 : Int32))] [(.int (7 : Int32))])
  refine Go.st (fun tG => X0.ldcwInt hx hown (mvT hZ (hw _ (List.mem_of_getElem? (i := 55) rfl))) (g := (mkF m 20 #[.val (.int (7 : Int32)), .val (.int (1 : Int32))] [(.int (7 : Int32))])) rfl (hb hby d10_20) tG) ?_
  show Go p e below s _ _ _ s₁ (mkF m 23 #[.val (.int (7 : Int32)), .val (.int (1 : Int32))] [(.int (65536 : Int32)), (.int (7 : Int32))])
  refine Go.st (fun _ => XS.icmpYes X0.here hx rfl (pc0 := 23) (pc' := 34) rfl (hb hby d10_23) rfl (flt (by decide : ¬ ((65536 : Int32) < (7 : Int32)))).2.2.2 (by decide) (by decide)) ?_
  show Go p e below s _ _ _ s₁ (mkF m 34 #[.val (.int (7 : Int32)), .val (.int (1 : Int32))] [])
  refine Go.st (fun _ => XS.iloadN X0.here hx rfl (hb hby d10_34) rfl) ?_
  show Go p e below s _ _ _ s₁ (mkF m 35 #[.val (.int (7 : Int32)), .val (.int (1 : Int32))] [(.int (7 : Int32))])
  refine Go.st (fun _ => XS.sipush X0.here hx rfl (hb hby d10_35)) ?_
  show Go p e below s _ _ _ s₁ (mkF m 38 #[.val (.int (7 : Int32)), .val (.int (1 : Int32))] [(.int (256 : Int32)), (.int (7 : Int32))])
  refine Go.st (fun _ => XS.icmpYes X0.here hx rfl (pc0 := 38) (pc' := 49) rfl (hb hby d10_38) rfl (flt (by decide : ¬ ((256 : Int32) < (7 : Int32)))).2.2.2 (by decide) (by decide)) ?_
  show Go p e below s _ _ _ s₁ (mkF m 49 #[.val (.int (7 : Int32)), .val (.int (1 : Int32))] [])
  refine Go.st (fun _ => XS.iloadN X0.here hx rfl (hb hby d10_49) rfl) ?_
  show Go p e below s _ _ _ s₁ (mkF m 50 #[.val (.int (7 : Int32)), .val (.int (1 : Int32))] [(.int (7 : Int32))])
  refine Go.st (fun _ => XS.bipush X0.here hx rfl (hb hby d10_50)) ?_
  show Go p e below s _ _ _ s₁ (mkF m 52 #[.val (.int (7 : Int32)), .val (.int (1 : Int32))] [(.int (16 : Int32)), (.int (7 : Int32))])
  refine Go.st (fun _ => XS.icmpYes X0.here hx rfl (pc0 := 52) (pc' := 62) rfl (hb hby d10_52) rfl (flt (by decide : ¬ ((16 : Int32) < (7 : Int32)))).2.2.2 (by decide) (by decide)) ?_
  show Go p e below s _ _ _ s₁ (mkF m 62 #[.val (.int (7 : Int32)), .val (.int (1 : Int32))] [])
  refine Go.st (fun _ => XS.iloadN X0.here hx rfl (hb hby d10_62) rfl) ?_
  show Go p e below s _ _ _ s₁ (mkF m 63 #[.val (.int (7 : Int32)), .val (.int (1 : Int32))] [(.int (7 : Int32))])
  refine Go.st (fun _ => XS.iconst X0.here hx rfl (hb hby d10_63)) ?_
  show Go p e below s _ _ _ s₁ (mkF m 64 #[.val (.int (7 : Int32)), .val (.int (1 : Int32))] [(.int (4 : Int32)), (.int (7 : Int32))])
  refine Go.st (fun _ => XS.icmpNo X0.here hx rfl (hb hby d10_64) rfl (tlt (by decide : (4 : Int32) < (7 : Int32))).2.2.2) ?_
  show Go p e below s _ _ _ s₁ (mkF m 67 #[.val (.int (7 : Int32)), .val (.int (1 : Int32))] [])
  refine Go.st (fun _ => XS.iinc X0.here hx rfl (hb hby d10_67) rfl (l' := #[.val (.int (7 : Int32)), .val (.int ((1 : Int32) + (2 : Int32)))]) rfl) ?_
  show Go p e below s _ _ _ s₁ (mkF m 70 #[.val (.int (7 : Int32)), .val (.int ((1 : Int32) + (2 : Int32)))] [])
  rw [show ((1 : Int32) + (2 : Int32)) = (3 : Int32) from by decide]
  show Go p e below s _ _ _ s₁ (mkF m 70 #[.val (.int (7 : Int32)), .val (.int (3 : Int32))] [])
  refine Go.st (fun _ => XS.iloadN X0.here hx rfl (hb hby d10_70) rfl) ?_
  show Go p e below s _ _ _ s₁ (mkF m 71 #[.val (.int (7 : Int32)), .val (.int (3 : Int32))] [(.int (7 : Int32))])
  refine Go.st (fun _ => XS.iconst X0.here hx rfl (hb hby d10_71)) ?_
  show Go p e below s _ _ _ s₁ (mkF m 72 #[.val (.int (7 : Int32)), .val (.int (3 : Int32))] [(.int (2 : Int32)), (.int (7 : Int32))])
  refine Go.st (fun _ => XS.iushr X0.here hx rfl (hb hby d10_72) rfl) ?_
  show Go p e below s _ _ _ s₁ (mkF m 73 #[.val (.int (7 : Int32)), .val (.int (3 : Int32))] [(.int (((7 : Int32).toUInt32 >>> ((2 : Int32) &&& 31).toUInt32).toInt32))])
  rw [show (((7 : Int32).toUInt32 >>> ((2 : Int32) &&& 31).toUInt32).toInt32) = (1 : Int32) from by decide]
  show Go p e below s _ _ _ s₁ (mkF m 73 #[.val (.int (7 : Int32)), .val (.int (3 : Int32))] [(.int (1 : Int32))])
  refine Go.st (fun _ => XS.istoreN X0.here hx rfl (hb hby d10_73) rfl (l' := #[.val (.int (1 : Int32)), .val (.int (3 : Int32))]) rfl) ?_
  show Go p e below s _ _ _ s₁ (mkF m 74 #[.val (.int (1 : Int32)), .val (.int (3 : Int32))] [])
  refine Go.st (fun _ => XS.iloadN X0.here hx rfl (hb hby d10_74) rfl) ?_
  show Go p e below s _ _ _ s₁ (mkF m 75 #[.val (.int (1 : Int32)), .val (.int (3 : Int32))] [(.int (3 : Int32))])
  refine Go.st (fun _ => XS.iloadN X0.here hx rfl (hb hby d10_75) rfl) ?_
  show Go p e below s _ _ _ s₁ (mkF m 76 #[.val (.int (1 : Int32)), .val (.int (3 : Int32))] [(.int (1 : Int32)), (.int (3 : Int32))])
  refine Go.st (fun _ => XS.iconst X0.here hx rfl (hb hby d10_76)) ?_
  show Go p e below s _ _ _ s₁ (mkF m 77 #[.val (.int (1 : Int32)), .val (.int (3 : Int32))] [(.int (1 : Int32)), (.int (1 : Int32)), (.int (3 : Int32))])
  refine Go.st (fun _ => XS.iushr X0.here hx rfl (hb hby d10_77) rfl) ?_
  show Go p e below s _ _ _ s₁ (mkF m 78 #[.val (.int (1 : Int32)), .val (.int (3 : Int32))] [(.int (((1 : Int32).toUInt32 >>> ((1 : Int32) &&& 31).toUInt32).toInt32)), (.int (3 : Int32))])
  rw [show (((1 : Int32).toUInt32 >>> ((1 : Int32) &&& 31).toUInt32).toInt32) = (0 : Int32) from by decide]
  show Go p e below s _ _ _ s₁ (mkF m 78 #[.val (.int (1 : Int32)), .val (.int (3 : Int32))] [(.int (0 : Int32)), (.int (3 : Int32))])
  refine Go.st (fun _ => XS.iadd X0.here hx rfl (hb hby d10_78) rfl) ?_
  show Go p e below s _ _ _ s₁ (mkF m 79 #[.val (.int (1 : Int32)), .val (.int (3 : Int32))] [(.int ((3 : Int32) + (0 : Int32)))])
  rw [show ((3 : Int32) + (0 : Int32)) = (3 : Int32) from by decide]
  show Go p e below s _ _ _ s₁ (mkF m 79 #[.val (.int (1 : Int32)), .val (.int (3 : Int32))] [(.int (3 : Int32))])
  exact Go.retI X0 hx hlk Bd.returns (hb hby d10_79) (by rw [e0]; exact ⟨rfl, N0, rfl⟩) (by decide) (by decide)
theorem d9_0 : decode prog_194_method_14_code 0 = .ok (.lload_n 0, 1) := by decide +kernel
theorem d9_1 : decode prog_194_method_14_code 1 = .ok (.ldc2_w 67, 3) := by decide +kernel
theorem d9_4 : decode prog_194_method_14_code 4 = .ok (.lmul, 1) := by decide +kernel
theorem d9_5 : decode prog_194_method_14_code 5 = .ok (.bipush 64, 2) := by decide +kernel
theorem d9_7 : decode prog_194_method_14_code 7 = .ok (.iload_n 2, 1) := by decide +kernel
theorem d9_8 : decode prog_194_method_14_code 8 = .ok (.invokestatic 71, 3) := by decide +kernel
theorem pd_1 : parseMethodDescriptor "(I)I" = some ⟨[.int], some .int⟩ := by decide +kernel
theorem d9_11 : decode prog_194_method_14_code 11 = .ok (.isub, 1) := by decide +kernel
theorem d9_12 : decode prog_194_method_14_code 12 = .ok (.lushr, 1) := by decide +kernel
theorem d9_13 : decode prog_194_method_14_code 13 = .ok (.l2i, 1) := by decide +kernel
theorem d9_14 : decode prog_194_method_14_code 14 = .ok (.ireturn, 1) := by decide +kernel
theorem pn_2 : plainName "kasane/util/LongMap" = true := by first | (simp [plainName, overriddenIn]; done) | decide +kernel
theorem ef_rmMs (m : MethodId) (k : Int64) : entryFrame m #[(.long k), (.int (8 : Int32))] 3 = mkF m 0 #[.val (.long k), .second, .val (.int (8 : Int32))] [] := by first | (simp [entryFrame, mkF, argsToLocals, Value.category]; done) | rfl
def QrmMs (Z : State) (k : Int64) (h0 : Heap) (n0 : Nat) (rV : Option Value) (hE : Heap) (LE : List Loc) : Prop := rV = some (.int (own_slot k)) ∧ Fr n0 LE ∧ hE = h0
set_option maxRecDepth 65536 in
set_option maxHeartbeats 40000000 in
theorem rmMs (l : Launch) (Z : State) (a0 : Array Value) (hw : ∀ d ∈ tables_1, d.before a0 Z = true) (ws : List Jvm.Cond) (k : Int64) (h0 : Heap) (n0 : Nat) (Z0 : n0 ≤ h0.size) :
    MetFree l (⟨"kasane/util/LongMap", "slot", "(JI)I"⟩ : MethodName) (head1 (Jvm.Cond.code (⟨"kasane/util/LongMap", "slot", "(JI)I"⟩ : MethodName) prog_194_method_14_code 3 (some .int) :: ws) ({ frames := 1, cells := 0, slots := 0, locals := 16 } : Room)) (fun aA UA => aA = #[(.long k), (.int (8 : Int32))] ∧ Z.Warmed39 UA.vm ∧ UA.heap = h0) (fun _ _ _ _ _ => True) (fun _ UA oA UB => ∃ rV LE, oA = .returned rV ∧ QrmMs Z k h0 n0 rV UB.heap LE ∧ FrameEnd UA oA UB LE ({ frames := 1, cells := 0, slots := 0, locals := 16 } : Room).cells ({ frames := 1, cells := 0, slots := 0, locals := 16 } : Room).slots) := by
  refine MetFree.of_bodySF (plainFor_of_name pn_2) hisR ?_
  intro p e s m args below meth c s₁ Bd hml0 hP hK
  obtain ⟨rfl, hZ, hh⟩ := hP
  have hx := Bd.exec
  have hby := Bd.bytes
  have hml : c.maxLocals = 3 := hml0
  have hown : s.vm.findClass "kasane/util/LongMap" = some m.cls := findClass_of_methodNamed Bd.named
  have hnm := (name_of_methodNamed Bd.named Bd.method).1
  have hlk := Bd.notSynchronized
  have X0 : Stand p l e ({ frames := 1, cells := 0, slots := 0, locals := 16 } : Room) s m #[(.long k), (.int (8 : Int32))] below meth c s₁ [] 0 0 := Stand.of_body Bd
  have e0 : s₁.heap = h0 := by rw [← hh, Bd.state]; rfl
  have N0 := Fr.nil n0
  show Go p e below s (QrmMs Z k h0 n0) ({ frames := 1, cells := 0, slots := 0, locals := 16 } : Room).cells ({ frames := 1, cells := 0, slots := 0, locals := 16 } : Room).slots s₁ (entryFrame m #[(.long k), (.int (8 : Int32))] 3)
  refine Go.eq (ef_rmMs m k) ?_
  show Go p e below s _ _ _ s₁ (mkF m 0 #[.val (.long k), .second, .val (.int (8 : Int32))] [])
  refine Go.st (fun _ => XS.lloadN X0.here hx rfl (hb hby d9_0) rfl) ?_
  show Go p e below s _ _ _ s₁ (mkF m 1 #[.val (.long k), .second, .val (.int (8 : Int32))] [(.long k)])
  refine Go.st (fun tG => X0.ldc2Long hx hown (mvT hZ (hw _ (List.mem_of_getElem? (i := 50) rfl))) (g := (mkF m 1 #[.val (.long k), .second, .val (.int (8 : Int32))] [(.long k)])) rfl (hb hby d9_1) tG) ?_
  show Go p e below s _ _ _ s₁ (mkF m 4 #[.val (.long k), .second, .val (.int (8 : Int32))] [(.long (-7046029254386353131 : Int64)), (.long k)])
  refine Go.st (fun _ => XS.lmul X0.here hx rfl (hb hby d9_4) rfl) ?_
  show Go p e below s _ _ _ s₁ (mkF m 5 #[.val (.long k), .second, .val (.int (8 : Int32))] [(.long (k * (-7046029254386353131 : Int64)))])
  refine Go.st (fun _ => XS.bipush X0.here hx rfl (hb hby d9_5)) ?_
  show Go p e below s _ _ _ s₁ (mkF m 7 #[.val (.long k), .second, .val (.int (8 : Int32))] [(.int (64 : Int32)), (.long (k * (-7046029254386353131 : Int64)))])
  refine Go.st (fun _ => XS.iloadN X0.here hx rfl (hb hby d9_7) rfl) ?_
  show Go p e below s _ _ _ s₁ (mkF m 8 #[.val (.long k), .second, .val (.int (8 : Int32))] [(.int (8 : Int32)), (.int (64 : Int32)), (.long (k * (-7046029254386353131 : Int64)))])
  obtain ⟨_, _, ⟨T_1, L_1, kc_1, nc_1⟩, -, X_1, ⟨Lc_1, hQ_1, l_1, y_1, z_1⟩, st_1⟩ := Jvm.LawKit.callS X0 hx (y := (⟨"java/lang/Integer", "numberOfTrailingZeros", "(I)I"⟩ : MethodName)) hown (mvT hZ (hw _ (List.mem_of_getElem? (i := 51) rfl))) (mvT hZ (hw _ (List.mem_of_getElem? (i := 52) rfl))) (mvT hZ (hw _ (List.mem_of_getElem? (i := 53) rfl))) (mvT hZ (hw _ (List.mem_of_getElem? (i := 54) rfl))) (by decide) (backOf (W := 3) (rmNt l Z a0 hw []  h0 n0 Z0 ) hZ (hw _ (List.mem_of_getElem? (i := 54) rfl)) (hw _ (List.mem_of_getElem? (i := 53) rfl)) (by decide) (by decide)) (g := (mkF m 8 #[.val (.long k), .second, .val (.int (8 : Int32))] [(.int (8 : Int32)), (.int (64 : Int32)), (.long (k * (-7046029254386353131 : Int64)))])) rfl (by rw [hml]; rfl) (argsL := [(.int (8 : Int32))]) (rest := [(.int (64 : Int32)), (.long (k * (-7046029254386353131 : Int64)))]) (lenOf pd_1 rfl) rfl (by show 2 * 0 + _ ≤ _; exact Nat.le_of_eq rfl) (hb hby d9_8) (fun _ _ => ⟨rfl, e0, (by decide : 0 + 0 ≤ _), (by decide : 0 + 0 ≤ _)⟩)
  dsimp only [Pt.U, Pt.locs, Pt.cells, Pt.slots] at X_1 l_1 y_1 z_1 st_1 hQ_1
  subst l_1 y_1 z_1
  obtain ⟨h_1, e_1⟩ : ∃ hh, T_1.heap = hh := ⟨_, rfl⟩
  rw [e_1] at hQ_1
  obtain ⟨rfl, N_1q, sm_1⟩ := hQ_1
  have N_1 := Fr.app N0 N_1q
  refine Go.st st_1 ?_
  rw [sm_1] at e_1
  show Go p e below s _ _ _ T_1 (mkF m 11 #[.val (.long k), .second, .val (.int (8 : Int32))] [(.int (3 : Int32)), (.int (64 : Int32)), (.long (k * (-7046029254386353131 : Int64)))])
  refine Go.st (fun _ => XS.isub X_1.here hx rfl (hb hby d9_11) rfl) ?_
  show Go p e below s _ _ _ T_1 (mkF m 12 #[.val (.long k), .second, .val (.int (8 : Int32))] [(.int ((64 : Int32) - (3 : Int32))), (.long (k * (-7046029254386353131 : Int64)))])
  rw [show ((64 : Int32) - (3 : Int32)) = (61 : Int32) from by decide]
  show Go p e below s _ _ _ T_1 (mkF m 12 #[.val (.long k), .second, .val (.int (8 : Int32))] [(.int (61 : Int32)), (.long (k * (-7046029254386353131 : Int64)))])
  refine Go.st (fun _ => XS.lushr X_1.here hx rfl (hb hby d9_12) rfl) ?_
  show Go p e below s _ _ _ T_1 (mkF m 13 #[.val (.long k), .second, .val (.int (8 : Int32))] [(.long (((k * (-7046029254386353131 : Int64)).toUInt64 >>> ((61 : Int32) &&& 0x3f).toInt64.toUInt64).toInt64))])
  refine Go.st (fun _ => XS.l2i X_1.here hx rfl (hb hby d9_13) rfl) ?_
  show Go p e below s _ _ _ T_1 (mkF m 14 #[.val (.long k), .second, .val (.int (8 : Int32))] [(.int ((((k * (-7046029254386353131 : Int64)).toUInt64 >>> ((61 : Int32) &&& 0x3f).toInt64.toUInt64).toInt64).toInt32))])
  exact Go.retI X_1 hx hlk Bd.returns (hb hby d9_14) (by rw [e_1]; exact ⟨rfl, N_1, rfl⟩) (by decide) (by decide)
theorem d7_0 : decode prog_192_method_10_code 0 = .ok (.lload_n 1, 1) := by decide +kernel
theorem d7_1 : decode prog_192_method_10_code 1 = .ok (.aload_n 0, 1) := by decide +kernel
theorem d7_2 : decode prog_192_method_10_code 2 = .ok (.invokevirtual 44, 3) := by decide +kernel
theorem pd_2 : parseMethodDescriptor "()I" = some ⟨[], some .int⟩ := by decide +kernel
theorem d7_5 : decode prog_192_method_10_code 5 = .ok (.invokestatic 61, 3) := by decide +kernel
theorem pd_3 : parseMethodDescriptor "(JI)I" = some ⟨[.long, .int], some .int⟩ := by decide +kernel
theorem d7_8 : decode prog_192_method_10_code 8 = .ok (.ireturn, 1) := by decide +kernel
theorem ef_rmSl (m : MethodId) (a : Addr) (k : Int64) : entryFrame m #[(.ref a), (.long k)] 3 = mkF m 0 #[.val (.ref a), .val (.long k), .second] [] := by first | (simp [entryFrame, mkF, argsToLocals, Value.category]; done) | rfl
def QrmSl (Z : State) (a : Addr) (k : Int64) (t : Addr) (kt : ClassId) (ks : List Int64) (h0 : Heap) (n0 : Nat) (rV : Option Value) (hE : Heap) (LE : List Loc) : Prop := rV = some (.int (own_slot k)) ∧ Fr n0 LE ∧ hE = h0
set_option maxRecDepth 65536 in
set_option maxHeartbeats 40000000 in
theorem rmSl (l : Launch) (Z : State) (a0 : Array Value) (hw : ∀ d ∈ tables_1, d.before a0 Z = true) (ws : List Jvm.Cond) (a : Addr) (k : Int64) (t : Addr) (kt : ClassId) (ks : List Int64) (h0 : Heap) (n0 : Nat) (Z0 : n0 ≤ h0.size) (E_a : Exa Z h0 a "kasane/util/LongLongMap") (F_places_a : Fld Z h0 a "kasane/util/LongLongMap" "places" "[J" (.ref t)) (V_t : Arv Z h0 t kt .long (16 : Int32) (ks.map Value.long) (.long (0 : Int64))) :
    MetFree l (⟨"kasane/util/LongLongMap", "slot", "(J)I"⟩ : MethodName) (head1 (Jvm.Cond.code (⟨"kasane/util/LongLongMap", "slot", "(J)I"⟩ : MethodName) prog_192_method_10_code 3 (some .int) :: ws) ({ frames := 2, cells := 0, slots := 0, locals := 30 } : Room)) (fun aA UA => aA = #[(.ref a), (.long k)] ∧ Z.Warmed39 UA.vm ∧ UA.heap = h0) (fun _ _ _ _ _ => True) (fun _ UA oA UB => ∃ rV LE, oA = .returned rV ∧ QrmSl Z a k t kt ks h0 n0 rV UB.heap LE ∧ FrameEnd UA oA UB LE ({ frames := 2, cells := 0, slots := 0, locals := 30 } : Room).cells ({ frames := 2, cells := 0, slots := 0, locals := 30 } : Room).slots) := by
  refine MetFree.of_bodySF (plainFor_of_name pn_0) hisR ?_
  intro p e s m args below meth c s₁ Bd hml0 hP hK
  obtain ⟨rfl, hZ, hh⟩ := hP
  have hx := Bd.exec
  have hby := Bd.bytes
  have hml : c.maxLocals = 3 := hml0
  have hown : s.vm.findClass "kasane/util/LongLongMap" = some m.cls := findClass_of_methodNamed Bd.named
  have hnm := (name_of_methodNamed Bd.named Bd.method).1
  have hlk := Bd.notSynchronized
  have X0 : Stand p l e ({ frames := 2, cells := 0, slots := 0, locals := 30 } : Room) s m #[(.ref a), (.long k)] below meth c s₁ [] 0 0 := Stand.of_body Bd
  have e0 : s₁.heap = h0 := by rw [← hh, Bd.state]; rfl
  have N0 := Fr.nil n0
  show Go p e below s (QrmSl Z a k t kt ks h0 n0) ({ frames := 2, cells := 0, slots := 0, locals := 30 } : Room).cells ({ frames := 2, cells := 0, slots := 0, locals := 30 } : Room).slots s₁ (entryFrame m #[(.ref a), (.long k)] 3)
  refine Go.eq (ef_rmSl m a k) ?_
  show Go p e below s _ _ _ s₁ (mkF m 0 #[.val (.ref a), .val (.long k), .second] [])
  refine Go.st (fun _ => XS.lloadN X0.here hx rfl (hb hby d7_0) rfl) ?_
  show Go p e below s _ _ _ s₁ (mkF m 1 #[.val (.ref a), .val (.long k), .second] [(.long k)])
  refine Go.st (fun _ => XS.aloadN X0.here hx rfl (hb hby d7_1) rfl rfl) ?_
  show Go p e below s _ _ _ s₁ (mkF m 2 #[.val (.ref a), .val (.long k), .second] [(.ref a), (.long k)])
  obtain ⟨cq_1, q_1, q_1'⟩ := E_a.cell
  obtain ⟨_, _, ⟨T_1, L_1, kc_1, nc_1⟩, -, X_1, ⟨Lc_1, hQ_1, l_1, y_1, z_1⟩, st_1⟩ := X0.privateBack hx (y := (⟨"kasane/util/LongLongMap", "capacity", "()I"⟩ : MethodName)) hown (mvT hZ (hw _ (List.mem_of_getElem? (i := 42) rfl))) (mvT hZ (hw _ (List.mem_of_getElem? (i := 43) rfl))) (own_selP (y := (⟨"kasane/util/LongLongMap", "capacity", "()I"⟩ : MethodName)) (y' := (⟨"kasane/util/LongLongMap", "isEmpty", "()Z"⟩ : MethodName)) (mvT hZ (hw _ (List.mem_of_getElem? (i := 19) rfl))) rfl (Cond.privateMethod_at (mvP hZ (hw _ (List.mem_of_getElem? (i := 44) rfl)) (args := #[]))) (mvT hZ (hw _ (List.mem_of_getElem? (i := 43) rfl))) (by decide)) (Cond.privateMethod_at (mvP hZ (hw _ (List.mem_of_getElem? (i := 44) rfl)) (args := #[]))) (mvT hZ (hw _ (List.mem_of_getElem? (i := 45) rfl))) (by decide) (backOf (W := 2) (rmCa l Z a0 hw [] a t kt ks h0 n0 Z0 F_places_a V_t) hZ (hw _ (List.mem_of_getElem? (i := 45) rfl)) (hw _ (List.mem_of_getElem? (i := 2) rfl)) (by decide) (by decide)) (g := (mkF m 2 #[.val (.ref a), .val (.long k), .second] [(.ref a), (.long k)])) rfl (by rw [hml]; rfl) (Steps.refl _) (a := a) (by rw [e0]; exact q_1) q_1' (argsL := []) (rest := [(.long k)]) (lenOf pd_2 rfl) rfl (by show 2 * 0 + _ ≤ _; exact Nat.le_of_eq rfl) (hb hby d7_2) (fun _ _ => ⟨rfl, e0, (by decide : 0 + 0 ≤ _), (by decide : 0 + 0 ≤ _)⟩)
  dsimp only [Pt.U, Pt.locs, Pt.cells, Pt.slots] at X_1 l_1 y_1 z_1 st_1 hQ_1
  subst l_1 y_1 z_1
  obtain ⟨h_1, e_1⟩ : ∃ hh, T_1.heap = hh := ⟨_, rfl⟩
  rw [e_1] at hQ_1
  obtain ⟨rfl, N_1q, sm_1⟩ := hQ_1
  have N_1 := Fr.app N0 N_1q
  refine Go.st (fun _ kk => st_1.trans kk) ?_
  rw [sm_1] at e_1
  show Go p e below s _ _ _ T_1 (mkF m 5 #[.val (.ref a), .val (.long k), .second] [(.int (8 : Int32)), (.long k)])
  obtain ⟨_, _, ⟨T_2, L_2, kc_2, nc_2⟩, -, X_2, ⟨Lc_2, hQ_2, l_2, y_2, z_2⟩, st_2⟩ := Jvm.LawKit.callS X_1 hx (y := (⟨"kasane/util/LongMap", "slot", "(JI)I"⟩ : MethodName)) hown (mvT hZ (hw _ (List.mem_of_getElem? (i := 46) rfl))) (mvT hZ (hw _ (List.mem_of_getElem? (i := 47) rfl))) (mvT hZ (hw _ (List.mem_of_getElem? (i := 48) rfl))) (mvT hZ (hw _ (List.mem_of_getElem? (i := 49) rfl))) (by decide) (backOf (W := 0) (rmMs l Z a0 hw [] k h0 n0 Z0 ) hZ (hw _ (List.mem_of_getElem? (i := 49) rfl)) (hw _ (List.mem_of_getElem? (i := 48) rfl)) (by decide) (by decide)) (g := (mkF m 5 #[.val (.ref a), .val (.long k), .second] [(.int (8 : Int32)), (.long k)])) rfl (by rw [hml]; rfl) (argsL := [(.long k), (.int (8 : Int32))]) (rest := []) (lenOf pd_3 rfl) rfl (by show 2 * 0 + _ ≤ _; exact Nat.le_of_eq rfl) (hb hby d7_5) (fun _ _ => ⟨rfl, e_1, (by decide : 0 + 0 ≤ _), (by decide : 0 + 0 ≤ _)⟩)
  dsimp only [Pt.U, Pt.locs, Pt.cells, Pt.slots] at X_2 l_2 y_2 z_2 st_2 hQ_2
  subst l_2 y_2 z_2
  obtain ⟨h_2, e_2⟩ : ∃ hh, T_2.heap = hh := ⟨_, rfl⟩
  rw [e_2] at hQ_2
  obtain ⟨rfl, N_2q, sm_2⟩ := hQ_2
  have N_2 := Fr.app N_1 N_2q
  refine Go.st st_2 ?_
  rw [sm_2] at e_2
  show Go p e below s _ _ _ T_2 (mkF m 8 #[.val (.ref a), .val (.long k), .second] [(.int (own_slot k))])
  exact Go.retI X_2 hx hlk Bd.returns (hb hby d7_8) (by rw [e_2]; exact ⟨rfl, N_2, rfl⟩) (by decide) (by decide)
theorem d11_0 : decode prog_192_method_11_code 0 = .ok (.iload_n 1, 1) := by decide +kernel
theorem d11_1 : decode prog_192_method_11_code 1 = .ok (.iconst 1, 1) := by decide +kernel
theorem d11_2 : decode prog_192_method_11_code 2 = .ok (.iadd, 1) := by decide +kernel
theorem d11_3 : decode prog_192_method_11_code 3 = .ok (.aload_n 0, 1) := by decide +kernel
theorem d11_4 : decode prog_192_method_11_code 4 = .ok (.invokevirtual 44, 3) := by decide +kernel
theorem d11_7 : decode prog_192_method_11_code 7 = .ok (.iconst 1, 1) := by decide +kernel
theorem d11_8 : decode prog_192_method_11_code 8 = .ok (.isub, 1) := by decide +kernel
theorem d11_9 : decode prog_192_method_11_code 9 = .ok (.iand, 1) := by decide +kernel
theorem d11_10 : decode prog_192_method_11_code 10 = .ok (.ireturn, 1) := by decide +kernel
theorem ef_rmNx (m : MethodId) (a : Addr) (i : Int32) : entryFrame m #[(.ref a), (.int i)] 2 = mkF m 0 #[.val (.ref a), .val (.int i)] [] := by first | (simp [entryFrame, mkF, argsToLocals, Value.category]; done) | rfl
def QrmNx (Z : State) (a : Addr) (i : Int32) (t : Addr) (kt : ClassId) (ks : List Int64) (h0 : Heap) (n0 : Nat) (rV : Option Value) (hE : Heap) (LE : List Loc) : Prop := rV = some (.int ((i + (1 : Int32)) &&& (7 : Int32))) ∧ Fr n0 LE ∧ hE = h0
set_option maxRecDepth 65536 in
set_option maxHeartbeats 40000000 in
theorem rmNx (l : Launch) (Z : State) (a0 : Array Value) (hw : ∀ d ∈ tables_1, d.before a0 Z = true) (ws : List Jvm.Cond) (a : Addr) (i : Int32) (t : Addr) (kt : ClassId) (ks : List Int64) (h0 : Heap) (n0 : Nat) (Z0 : n0 ≤ h0.size) (E_a : Exa Z h0 a "kasane/util/LongLongMap") (F_places_a : Fld Z h0 a "kasane/util/LongLongMap" "places" "[J" (.ref t)) (V_t : Arv Z h0 t kt .long (16 : Int32) (ks.map Value.long) (.long (0 : Int64))) :
    MetFree l (⟨"kasane/util/LongLongMap", "next", "(I)I"⟩ : MethodName) (head1 (Jvm.Cond.code (⟨"kasane/util/LongLongMap", "next", "(I)I"⟩ : MethodName) prog_192_method_11_code 2 (some .int) :: ws) ({ frames := 1, cells := 0, slots := 0, locals := 13 } : Room)) (fun aA UA => aA = #[(.ref a), (.int i)] ∧ Z.Warmed39 UA.vm ∧ UA.heap = h0) (fun _ _ _ _ _ => True) (fun _ UA oA UB => ∃ rV LE, oA = .returned rV ∧ QrmNx Z a i t kt ks h0 n0 rV UB.heap LE ∧ FrameEnd UA oA UB LE ({ frames := 1, cells := 0, slots := 0, locals := 13 } : Room).cells ({ frames := 1, cells := 0, slots := 0, locals := 13 } : Room).slots) := by
  refine MetFree.of_bodySF (plainFor_of_name pn_0) hisR ?_
  intro p e s m args below meth c s₁ Bd hml0 hP hK
  obtain ⟨rfl, hZ, hh⟩ := hP
  have hx := Bd.exec
  have hby := Bd.bytes
  have hml : c.maxLocals = 2 := hml0
  have hown : s.vm.findClass "kasane/util/LongLongMap" = some m.cls := findClass_of_methodNamed Bd.named
  have hnm := (name_of_methodNamed Bd.named Bd.method).1
  have hlk := Bd.notSynchronized
  have X0 : Stand p l e ({ frames := 1, cells := 0, slots := 0, locals := 13 } : Room) s m #[(.ref a), (.int i)] below meth c s₁ [] 0 0 := Stand.of_body Bd
  have e0 : s₁.heap = h0 := by rw [← hh, Bd.state]; rfl
  have N0 := Fr.nil n0
  show Go p e below s (QrmNx Z a i t kt ks h0 n0) ({ frames := 1, cells := 0, slots := 0, locals := 13 } : Room).cells ({ frames := 1, cells := 0, slots := 0, locals := 13 } : Room).slots s₁ (entryFrame m #[(.ref a), (.int i)] 2)
  refine Go.eq (ef_rmNx m a i) ?_
  show Go p e below s _ _ _ s₁ (mkF m 0 #[.val (.ref a), .val (.int i)] [])
  refine Go.st (fun _ => XS.iloadN X0.here hx rfl (hb hby d11_0) rfl) ?_
  show Go p e below s _ _ _ s₁ (mkF m 1 #[.val (.ref a), .val (.int i)] [(.int i)])
  refine Go.st (fun _ => XS.iconst X0.here hx rfl (hb hby d11_1)) ?_
  show Go p e below s _ _ _ s₁ (mkF m 2 #[.val (.ref a), .val (.int i)] [(.int (1 : Int32)), (.int i)])
  refine Go.st (fun _ => XS.iadd X0.here hx rfl (hb hby d11_2) rfl) ?_
  show Go p e below s _ _ _ s₁ (mkF m 3 #[.val (.ref a), .val (.int i)] [(.int (i + (1 : Int32)))])
  refine Go.st (fun _ => XS.aloadN X0.here hx rfl (hb hby d11_3) rfl rfl) ?_
  show Go p e below s _ _ _ s₁ (mkF m 4 #[.val (.ref a), .val (.int i)] [(.ref a), (.int (i + (1 : Int32)))])
  obtain ⟨cq_1, q_1, q_1'⟩ := E_a.cell
  obtain ⟨_, _, ⟨T_1, L_1, kc_1, nc_1⟩, -, X_1, ⟨Lc_1, hQ_1, l_1, y_1, z_1⟩, st_1⟩ := X0.privateBack hx (y := (⟨"kasane/util/LongLongMap", "capacity", "()I"⟩ : MethodName)) hown (mvT hZ (hw _ (List.mem_of_getElem? (i := 42) rfl))) (mvT hZ (hw _ (List.mem_of_getElem? (i := 43) rfl))) (own_selP (y := (⟨"kasane/util/LongLongMap", "capacity", "()I"⟩ : MethodName)) (y' := (⟨"kasane/util/LongLongMap", "isEmpty", "()Z"⟩ : MethodName)) (mvT hZ (hw _ (List.mem_of_getElem? (i := 19) rfl))) rfl (Cond.privateMethod_at (mvP hZ (hw _ (List.mem_of_getElem? (i := 44) rfl)) (args := #[]))) (mvT hZ (hw _ (List.mem_of_getElem? (i := 43) rfl))) (by decide)) (Cond.privateMethod_at (mvP hZ (hw _ (List.mem_of_getElem? (i := 44) rfl)) (args := #[]))) (mvT hZ (hw _ (List.mem_of_getElem? (i := 45) rfl))) (by decide) (backOf (W := 1) (rmCa l Z a0 hw [] a t kt ks h0 n0 Z0 F_places_a V_t) hZ (hw _ (List.mem_of_getElem? (i := 45) rfl)) (hw _ (List.mem_of_getElem? (i := 2) rfl)) (by decide) (by decide)) (g := (mkF m 4 #[.val (.ref a), .val (.int i)] [(.ref a), (.int (i + (1 : Int32)))])) rfl (by rw [hml]; rfl) (Steps.refl _) (a := a) (by rw [e0]; exact q_1) q_1' (argsL := []) (rest := [(.int (i + (1 : Int32)))]) (lenOf pd_2 rfl) rfl (by show 2 * 0 + _ ≤ _; exact Nat.le_of_eq rfl) (hb hby d11_4) (fun _ _ => ⟨rfl, e0, (by decide : 0 + 0 ≤ _), (by decide : 0 + 0 ≤ _)⟩)
  dsimp only [Pt.U, Pt.locs, Pt.cells, Pt.slots] at X_1 l_1 y_1 z_1 st_1 hQ_1
  subst l_1 y_1 z_1
  obtain ⟨h_1, e_1⟩ : ∃ hh, T_1.heap = hh := ⟨_, rfl⟩
  rw [e_1] at hQ_1
  obtain ⟨rfl, N_1q, sm_1⟩ := hQ_1
  have N_1 := Fr.app N0 N_1q
  refine Go.st (fun _ kk => st_1.trans kk) ?_
  rw [sm_1] at e_1
  show Go p e below s _ _ _ T_1 (mkF m 7 #[.val (.ref a), .val (.int i)] [(.int (8 : Int32)), (.int (i + (1 : Int32)))])
  refine Go.st (fun _ => XS.iconst X_1.here hx rfl (hb hby d11_7)) ?_
  show Go p e below s _ _ _ T_1 (mkF m 8 #[.val (.ref a), .val (.int i)] [(.int (1 : Int32)), (.int (8 : Int32)), (.int (i + (1 : Int32)))])
  refine Go.st (fun _ => XS.isub X_1.here hx rfl (hb hby d11_8) rfl) ?_
  show Go p e below s _ _ _ T_1 (mkF m 9 #[.val (.ref a), .val (.int i)] [(.int ((8 : Int32) - (1 : Int32))), (.int (i + (1 : Int32)))])
  rw [show ((8 : Int32) - (1 : Int32)) = (7 : Int32) from by decide]
  show Go p e below s _ _ _ T_1 (mkF m 9 #[.val (.ref a), .val (.int i)] [(.int (7 : Int32)), (.int (i + (1 : Int32)))])
  refine Go.st (fun _ => XS.iand X_1.here hx rfl (hb hby d11_9) rfl) ?_
  show Go p e below s _ _ _ T_1 (mkF m 10 #[.val (.ref a), .val (.int i)] [(.int ((i + (1 : Int32)) &&& (7 : Int32)))])
  exact Go.retI X_1 hx hlk Bd.returns (hb hby d11_10) (by rw [e_1]; exact ⟨rfl, N_1, rfl⟩) (by decide) (by decide)
theorem d6_0 : decode prog_192_method_3_code 0 = .ok (.lload_n 1, 1) := by decide +kernel
theorem d6_1 : decode prog_192_method_3_code 1 = .ok (.ldc2_w 19, 3) := by decide +kernel
theorem d6_4 : decode prog_192_method_3_code 4 = .ok (.lcmp, 1) := by decide +kernel
theorem d6_5 : decode prog_192_method_3_code 5 = .ok (.ifCond .ne 35, 3) := by decide +kernel
theorem d6_8 : decode prog_192_method_3_code 8 = .ok (.aload_n 0, 1) := by decide +kernel
theorem d6_9 : decode prog_192_method_3_code 9 = .ok (.dup, 1) := by decide +kernel
theorem d6_10 : decode prog_192_method_3_code 10 = .ok (.getfield 33, 3) := by decide +kernel
theorem d6_13 : decode prog_192_method_3_code 13 = .ok (.aload_n 0, 1) := by decide +kernel
theorem d6_14 : decode prog_192_method_3_code 14 = .ok (.getfield 21, 3) := by decide +kernel
theorem d6_17 : decode prog_192_method_3_code 17 = .ok (.ifCond .eq 7, 3) := by decide +kernel
theorem d6_24 : decode prog_192_method_3_code 24 = .ok (.iconst 1, 1) := by decide +kernel
theorem d6_25 : decode prog_192_method_3_code 25 = .ok (.iadd, 1) := by decide +kernel
theorem d6_26 : decode prog_192_method_3_code 26 = .ok (.putfield 33, 3) := by decide +kernel
theorem d6_29 : decode prog_192_method_3_code 29 = .ok (.aload_n 0, 1) := by decide +kernel
theorem d6_30 : decode prog_192_method_3_code 30 = .ok (.iconst 1, 1) := by decide +kernel
theorem d6_31 : decode prog_192_method_3_code 31 = .ok (.putfield 21, 3) := by decide +kernel
theorem d6_34 : decode prog_192_method_3_code 34 = .ok (.aload_n 0, 1) := by decide +kernel
theorem d6_35 : decode prog_192_method_3_code 35 = .ok (.lload_n 3, 1) := by decide +kernel
theorem d6_36 : decode prog_192_method_3_code 36 = .ok (.putfield 25, 3) := by decide +kernel
theorem d6_39 : decode prog_192_method_3_code 39 = .ok (.return_, 1) := by decide +kernel
theorem d6_20 : decode prog_192_method_3_code 20 = .ok (.iconst 0, 1) := by decide +kernel
theorem d6_21 : decode prog_192_method_3_code 21 = .ok (.goto 4, 3) := by decide +kernel
theorem d6_40 : decode prog_192_method_3_code 40 = .ok (.aload_n 0, 1) := by decide +kernel
theorem d6_41 : decode prog_192_method_3_code 41 = .ok (.lload_n 1, 1) := by decide +kernel
theorem d6_42 : decode prog_192_method_3_code 42 = .ok (.invokevirtual 37, 3) := by decide +kernel
theorem pd_4 : parseMethodDescriptor "(J)I" = some ⟨[.long], some .int⟩ := by decide +kernel
theorem d6_45 : decode prog_192_method_3_code 45 = .ok (.istore 5, 2) := by decide +kernel
theorem d6_47 : decode prog_192_method_3_code 47 = .ok (.aload_n 0, 1) := by decide +kernel
theorem d6_48 : decode prog_192_method_3_code 48 = .ok (.getfield 15, 3) := by decide +kernel
theorem d6_51 : decode prog_192_method_3_code 51 = .ok (.iconst 2, 1) := by decide +kernel
theorem d6_52 : decode prog_192_method_3_code 52 = .ok (.iload 5, 2) := by decide +kernel
theorem d6_54 : decode prog_192_method_3_code 54 = .ok (.imul, 1) := by decide +kernel
theorem d6_55 : decode prog_192_method_3_code 55 = .ok (.laload, 1) := by decide +kernel
theorem d6_56 : decode prog_192_method_3_code 56 = .ok (.ldc2_w 19, 3) := by decide +kernel
theorem d6_59 : decode prog_192_method_3_code 59 = .ok (.lcmp, 1) := by decide +kernel
theorem d6_60 : decode prog_192_method_3_code 60 = .ok (.ifCond .eq 41, 3) := by decide +kernel
theorem d6_101 : decode prog_192_method_3_code 101 = .ok (.aload_n 0, 1) := by decide +kernel
theorem d6_102 : decode prog_192_method_3_code 102 = .ok (.getfield 15, 3) := by decide +kernel
theorem d6_105 : decode prog_192_method_3_code 105 = .ok (.iconst 2, 1) := by decide +kernel
theorem d6_106 : decode prog_192_method_3_code 106 = .ok (.iload 5, 2) := by decide +kernel
theorem d6_108 : decode prog_192_method_3_code 108 = .ok (.imul, 1) := by decide +kernel
theorem d6_109 : decode prog_192_method_3_code 109 = .ok (.lload_n 1, 1) := by decide +kernel
theorem d6_110 : decode prog_192_method_3_code 110 = .ok (.lastore, 1) := by decide +kernel
theorem d6_111 : decode prog_192_method_3_code 111 = .ok (.aload_n 0, 1) := by decide +kernel
theorem d6_112 : decode prog_192_method_3_code 112 = .ok (.getfield 15, 3) := by decide +kernel
theorem d6_115 : decode prog_192_method_3_code 115 = .ok (.iconst 2, 1) := by decide +kernel
theorem d6_116 : decode prog_192_method_3_code 116 = .ok (.iload 5, 2) := by decide +kernel
theorem d6_118 : decode prog_192_method_3_code 118 = .ok (.imul, 1) := by decide +kernel
theorem d6_119 : decode prog_192_method_3_code 119 = .ok (.iconst 1, 1) := by decide +kernel
theorem d6_120 : decode prog_192_method_3_code 120 = .ok (.iadd, 1) := by decide +kernel
theorem d6_121 : decode prog_192_method_3_code 121 = .ok (.lload_n 3, 1) := by decide +kernel
theorem d6_122 : decode prog_192_method_3_code 122 = .ok (.lastore, 1) := by decide +kernel
theorem d6_123 : decode prog_192_method_3_code 123 = .ok (.aload_n 0, 1) := by decide +kernel
theorem d6_124 : decode prog_192_method_3_code 124 = .ok (.dup, 1) := by decide +kernel
theorem d6_125 : decode prog_192_method_3_code 125 = .ok (.getfield 33, 3) := by decide +kernel
theorem d6_128 : decode prog_192_method_3_code 128 = .ok (.iconst 1, 1) := by decide +kernel
theorem d6_129 : decode prog_192_method_3_code 129 = .ok (.iadd, 1) := by decide +kernel
theorem d6_130 : decode prog_192_method_3_code 130 = .ok (.putfield 33, 3) := by decide +kernel
theorem d6_133 : decode prog_192_method_3_code 133 = .ok (.iconst 2, 1) := by decide +kernel
theorem d6_134 : decode prog_192_method_3_code 134 = .ok (.aload_n 0, 1) := by decide +kernel
theorem d6_135 : decode prog_192_method_3_code 135 = .ok (.getfield 33, 3) := by decide +kernel
theorem d6_138 : decode prog_192_method_3_code 138 = .ok (.imul, 1) := by decide +kernel
theorem d6_139 : decode prog_192_method_3_code 139 = .ok (.aload_n 0, 1) := by decide +kernel
theorem d6_140 : decode prog_192_method_3_code 140 = .ok (.invokevirtual 44, 3) := by decide +kernel
theorem d6_143 : decode prog_192_method_3_code 143 = .ok (.if_icmp .le 18, 3) := by decide +kernel
theorem d6_161 : decode prog_192_method_3_code 161 = .ok (.return_, 1) := by decide +kernel
theorem d6_63 : decode prog_192_method_3_code 63 = .ok (.aload_n 0, 1) := by decide +kernel
theorem d6_64 : decode prog_192_method_3_code 64 = .ok (.getfield 15, 3) := by decide +kernel
theorem d6_67 : decode prog_192_method_3_code 67 = .ok (.iconst 2, 1) := by decide +kernel
theorem d6_68 : decode prog_192_method_3_code 68 = .ok (.iload 5, 2) := by decide +kernel
theorem d6_70 : decode prog_192_method_3_code 70 = .ok (.imul, 1) := by decide +kernel
theorem d6_71 : decode prog_192_method_3_code 71 = .ok (.laload, 1) := by decide +kernel
theorem d6_72 : decode prog_192_method_3_code 72 = .ok (.lload_n 1, 1) := by decide +kernel
theorem d6_73 : decode prog_192_method_3_code 73 = .ok (.lcmp, 1) := by decide +kernel
theorem d6_74 : decode prog_192_method_3_code 74 = .ok (.ifCond .ne 16, 3) := by decide +kernel
theorem d6_77 : decode prog_192_method_3_code 77 = .ok (.aload_n 0, 1) := by decide +kernel
theorem d6_78 : decode prog_192_method_3_code 78 = .ok (.getfield 15, 3) := by decide +kernel
theorem d6_81 : decode prog_192_method_3_code 81 = .ok (.iconst 2, 1) := by decide +kernel
theorem d6_82 : decode prog_192_method_3_code 82 = .ok (.iload 5, 2) := by decide +kernel
theorem d6_84 : decode prog_192_method_3_code 84 = .ok (.imul, 1) := by decide +kernel
theorem d6_85 : decode prog_192_method_3_code 85 = .ok (.iconst 1, 1) := by decide +kernel
theorem d6_86 : decode prog_192_method_3_code 86 = .ok (.iadd, 1) := by decide +kernel
theorem d6_87 : decode prog_192_method_3_code 87 = .ok (.lload_n 3, 1) := by decide +kernel
theorem d6_88 : decode prog_192_method_3_code 88 = .ok (.lastore, 1) := by decide +kernel
theorem d6_89 : decode prog_192_method_3_code 89 = .ok (.return_, 1) := by decide +kernel
theorem d6_90 : decode prog_192_method_3_code 90 = .ok (.aload_n 0, 1) := by decide +kernel
theorem d6_91 : decode prog_192_method_3_code 91 = .ok (.iload 5, 2) := by decide +kernel
theorem d6_93 : decode prog_192_method_3_code 93 = .ok (.invokevirtual 40, 3) := by decide +kernel
theorem d6_96 : decode prog_192_method_3_code 96 = .ok (.istore 5, 2) := by decide +kernel
theorem d6_98 : decode prog_192_method_3_code 98 = .ok (.goto (-51), 3) := by decide +kernel
theorem ef_rmPu (m : MethodId) (a : Addr) (k : Int64) (v : Int64) : entryFrame m #[(.ref a), (.long k), (.long v)] 6 = mkF m 0 #[.val (.ref a), .val (.long k), .second, .val (.long v), .second, .unset] [] := by first | (simp [entryFrame, mkF, argsToLocals, Value.category]; done) | rfl
def QrmPu (Z : State) (a : Addr) (k : Int64) (v : Int64) (t : Addr) (kt : ClassId) (ks : List Int64) (n : Int32) (f : Int32) (r : Int64) (h0 : Heap) (n0 : Nat) (rV : Option Value) (hE : Heap) (LE : List Loc) : Prop := ∃ ks2 : List Int64, ∃ n2 : Int32, ∃ f2 : Int32, ∃ r2 : Int64, rV = none ∧ Fr n0 LE ∧ Keep h0 hE [a, t] ∧ Exa Z hE a "kasane/util/LongLongMap" ∧ Fld Z hE a "kasane/util/LongLongMap" "places" "[J" (.ref t) ∧ Fld Z hE a "kasane/util/LongLongMap" "size" "I" (.int n2) ∧ Fld Z hE a "kasane/util/LongLongMap" "holdsFree" "Z" (.int f2) ∧ Fld Z hE a "kasane/util/LongLongMap" "freeValue" "J" (.long r2) ∧ Arv Z hE t kt .long (16 : Int32) (ks2.map Value.long) (.long (0 : Int64)) ∧ own_inv ks2 n2 f2 ∧ 1 ≤ n2.toInt ∧ n2.toInt ≤ n.toInt + 1
set_option maxRecDepth 65536 in
set_option maxHeartbeats 40000000 in
theorem rmPu (l : Launch) (Z : State) (a0 : Array Value) (hw : ∀ d ∈ tables_1, d.before a0 Z = true) (ws : List Jvm.Cond) (a : Addr) (k : Int64) (v : Int64) (t : Addr) (kt : ClassId) (ks : List Int64) (n : Int32) (f : Int32) (r : Int64) (h0 : Heap) (n0 : Nat) (Z0 : n0 ≤ h0.size) (E_a : Exa Z h0 a "kasane/util/LongLongMap") (F_places_a : Fld Z h0 a "kasane/util/LongLongMap" "places" "[J" (.ref t)) (F_size_a : Fld Z h0 a "kasane/util/LongLongMap" "size" "I" (.int n)) (F_holdsFree_a : Fld Z h0 a "kasane/util/LongLongMap" "holdsFree" "Z" (.int f)) (F_freeValue_a : Fld Z h0 a "kasane/util/LongLongMap" "freeValue" "J" (.long r)) (V_t : Arv Z h0 t kt .long (16 : Int32) (ks.map Value.long) (.long (0 : Int64))) (g_a : n0 ≤ a) (g_t : n0 ≤ t) (ne_a_t : a ≠ t) (hinv : own_inv ks n f) (hn2 : n.toInt ≤ 2) :
    MetFree l (⟨"kasane/util/LongLongMap", "put", "(JJ)V"⟩ : MethodName) (head1 (Jvm.Cond.code (⟨"kasane/util/LongLongMap", "put", "(JJ)V"⟩ : MethodName) prog_192_method_3_code 6 none :: ws) ({ frames := 3, cells := 0, slots := 0, locals := 44 } : Room)) (fun aA UA => aA = #[(.ref a), (.long k), (.long v)] ∧ Z.Warmed39 UA.vm ∧ UA.heap = h0) (fun _ _ _ _ _ => True) (fun _ UA oA UB => ∃ rV LE, oA = .returned rV ∧ QrmPu Z a k v t kt ks n f r h0 n0 rV UB.heap LE ∧ FrameEnd UA oA UB LE ({ frames := 3, cells := 0, slots := 0, locals := 44 } : Room).cells ({ frames := 3, cells := 0, slots := 0, locals := 44 } : Room).slots) := by
  refine MetFree.of_bodySF (plainFor_of_name pn_0) hisR ?_
  intro p e s m args below meth c s₁ Bd hml0 hP hK
  obtain ⟨rfl, hZ, hh⟩ := hP
  have hx := Bd.exec
  have hby := Bd.bytes
  have hml : c.maxLocals = 6 := hml0
  have hown : s.vm.findClass "kasane/util/LongLongMap" = some m.cls := findClass_of_methodNamed Bd.named
  have hnm := (name_of_methodNamed Bd.named Bd.method).1
  have hlk := Bd.notSynchronized
  have X0 : Stand p l e ({ frames := 3, cells := 0, slots := 0, locals := 44 } : Room) s m #[(.ref a), (.long k), (.long v)] below meth c s₁ [] 0 0 := Stand.of_body Bd
  have e0 : s₁.heap = h0 := by rw [← hh, Bd.state]; rfl
  have N0 := Fr.nil n0
  show Go p e below s (QrmPu Z a k v t kt ks n f r h0 n0) ({ frames := 3, cells := 0, slots := 0, locals := 44 } : Room).cells ({ frames := 3, cells := 0, slots := 0, locals := 44 } : Room).slots s₁ (entryFrame m #[(.ref a), (.long k), (.long v)] 6)
  refine Go.eq (ef_rmPu m a k v) ?_
  show Go p e below s _ _ _ s₁ (mkF m 0 #[.val (.ref a), .val (.long k), .second, .val (.long v), .second, .unset] [])
  refine Go.st (fun _ => XS.lloadN X0.here hx rfl (hb hby d6_0) rfl) ?_
  show Go p e below s _ _ _ s₁ (mkF m 1 #[.val (.ref a), .val (.long k), .second, .val (.long v), .second, .unset] [(.long k)])
  refine Go.st (fun tG => X0.ldc2Long hx hown (mvT hZ (hw _ (List.mem_of_getElem? (i := 13) rfl))) (g := (mkF m 1 #[.val (.ref a), .val (.long k), .second, .val (.long v), .second, .unset] [(.long k)])) rfl (hb hby d6_1) tG) ?_
  show Go p e below s _ _ _ s₁ (mkF m 4 #[.val (.ref a), .val (.long k), .second, .val (.long v), .second, .unset] [(.long (-9223372036854775808 : Int64)), (.long k)])
  refine Go.st (fun _ => XS.lcmp X0.here hx rfl (hb hby d6_4) rfl) ?_
  show Go p e below s _ _ _ s₁ (mkF m 5 #[.val (.ref a), .val (.long k), .second, .val (.long v), .second, .unset] [(.int (lcmpW k (-9223372036854775808 : Int64)))])
  by_cases hc_1 : k = (-9223372036854775808 : Int64)
  · refine Go.st (fun _ => XS.ifNo X0.here hx rfl (hb hby d6_5) rfl ((if0 _ _).trans (teq ((lw_eq k (-9223372036854775808 : Int64)).mpr hc_1)).2)) ?_
    show Go p e below s _ _ _ s₁ (mkF m 8 #[.val (.ref a), .val (.long k), .second, .val (.long v), .second, .unset] [])
    refine Go.st (fun _ => XS.aloadN X0.here hx rfl (hb hby d6_8) rfl rfl) ?_
    show Go p e below s _ _ _ s₁ (mkF m 9 #[.val (.ref a), .val (.long k), .second, .val (.long v), .second, .unset] [(.ref a)])
    refine Go.st (fun _ => XS.dup X0.here hx rfl (hb hby d6_9) rfl rfl) ?_
    show Go p e below s _ _ _ s₁ (mkF m 10 #[.val (.ref a), .val (.long k), .second, .val (.long v), .second, .unset] [(.ref a), (.ref a)])
    obtain ⟨T_2, X_2, e_2, st_2⟩ := getF X0 hx hZ hown (host := "") (Or.inl (hw _ (List.mem_of_getElem? (i := 21) rfl))) Via.refl e0 F_size_a (g := (mkF m 10 #[.val (.ref a), .val (.long k), .second, .val (.long v), .second, .unset] [(.ref a), (.ref a)])) rfl rfl (hb hby d6_10)
    refine Go.st st_2 ?_
    show Go p e below s _ _ _ T_2 (mkF m 13 #[.val (.ref a), .val (.long k), .second, .val (.long v), .second, .unset] [(.int n), (.ref a)])
    refine Go.st (fun _ => XS.aloadN X_2.here hx rfl (hb hby d6_13) rfl rfl) ?_
    show Go p e below s _ _ _ T_2 (mkF m 14 #[.val (.ref a), .val (.long k), .second, .val (.long v), .second, .unset] [(.ref a), (.int n), (.ref a)])
    obtain ⟨T_3, X_3, e_3, st_3⟩ := getF X_2 hx hZ hown (host := "") (Or.inl (hw _ (List.mem_of_getElem? (i := 34) rfl))) Via.refl e_2 F_holdsFree_a (g := (mkF m 14 #[.val (.ref a), .val (.long k), .second, .val (.long v), .second, .unset] [(.ref a), (.int n), (.ref a)])) rfl rfl (hb hby d6_14)
    refine Go.st st_3 ?_
    show Go p e below s _ _ _ T_3 (mkF m 17 #[.val (.ref a), .val (.long k), .second, .val (.long v), .second, .unset] [(.int f), (.int n), (.ref a)])
    by_cases hc_4 : f = (0 : Int32)
    · refine Go.st (fun _ => XS.ifYes X_3.here hx rfl (pc0 := 17) (pc' := 24) rfl (hb hby d6_17) rfl ((if0 _ _).trans (teq hc_4).1) (by decide) (by decide)) ?_
      show Go p e below s _ _ _ T_3 (mkF m 24 #[.val (.ref a), .val (.long k), .second, .val (.long v), .second, .unset] [(.int n), (.ref a)])
      refine Go.st (fun _ => XS.iconst X_3.here hx rfl (hb hby d6_24)) ?_
      show Go p e below s _ _ _ T_3 (mkF m 25 #[.val (.ref a), .val (.long k), .second, .val (.long v), .second, .unset] [(.int (1 : Int32)), (.int n), (.ref a)])
      refine Go.st (fun _ => XS.iadd X_3.here hx rfl (hb hby d6_25) rfl) ?_
      show Go p e below s _ _ _ T_3 (mkF m 26 #[.val (.ref a), .val (.long k), .second, .val (.long v), .second, .unset] [(.int (n + (1 : Int32))), (.ref a)])
      obtain ⟨T_5, h_5, X_5, e_5, W_5, st_5⟩ := putF X_3 hx hZ hown (host := "") (Or.inl (hw _ (List.mem_of_getElem? (i := 21) rfl))) Via.refl e_3 F_size_a E_a (Or.inl (hw _ (List.mem_of_getElem? (i := 22) rfl))) (hw _ (List.mem_of_getElem? (i := 1) rfl)) (ty := .int) (by decide) rfl rfl (g := (mkF m 26 #[.val (.ref a), .val (.long k), .second, .val (.long v), .second, .unset] [(.int (n + (1 : Int32))), (.ref a)])) rfl rfl (hb hby d6_26)
      refine Go.st st_5 ?_
      have N_5 := Fr.snoc X_5 N0 g_a
      have K_5 : Keep h0 h_5 [a, t] := (Keep.refl h0 [a, t]).wr W_5 (Or.inl (List.mem_of_getElem? (i := 0) rfl))
      have z_5 : n0 ≤ h_5.size := Nat.le_trans Z0 (Nat.le_of_eq W_5.size.symm)
      have Fw_5 := F_size_a.same W_5
      show Go p e below s _ _ _ T_5 (mkF m 29 #[.val (.ref a), .val (.long k), .second, .val (.long v), .second, .unset] [])
      refine Go.st (fun _ => XS.aloadN X_5.here hx rfl (hb hby d6_29) rfl rfl) ?_
      show Go p e below s _ _ _ T_5 (mkF m 30 #[.val (.ref a), .val (.long k), .second, .val (.long v), .second, .unset] [(.ref a)])
      refine Go.st (fun _ => XS.iconst X_5.here hx rfl (hb hby d6_30)) ?_
      show Go p e below s _ _ _ T_5 (mkF m 31 #[.val (.ref a), .val (.long k), .second, .val (.long v), .second, .unset] [(.int (1 : Int32)), (.ref a)])
      have f_6 := (E_a.wr W_5)
      have f_7 := (F_holdsFree_a.other W_5 (Or.inr (slot_ne (Or.inl (hw _ (List.mem_of_getElem? (i := 35) rfl))) (Or.inl (hw _ (List.mem_of_getElem? (i := 22) rfl))) (by decide) (t := .boolean) (t' := .int) (by decide) (by decide))))
      obtain ⟨T_8, h_8, X_8, e_8, W_8, st_8⟩ := putF X_5 hx hZ hown (host := "") (Or.inl (hw _ (List.mem_of_getElem? (i := 34) rfl))) Via.refl e_5 f_7 f_6 (Or.inl (hw _ (List.mem_of_getElem? (i := 35) rfl))) (hw _ (List.mem_of_getElem? (i := 1) rfl)) (ty := .boolean) (by decide) rfl rfl (g := (mkF m 31 #[.val (.ref a), .val (.long k), .second, .val (.long v), .second, .unset] [(.int (1 : Int32)), (.ref a)])) rfl rfl (hb hby d6_31)
      refine Go.st st_8 ?_
      have N_8 := Fr.snoc X_8 N_5 g_a
      have K_8 : Keep h0 h_8 [a, t] := K_5.wr W_8 (Or.inl (List.mem_of_getElem? (i := 0) rfl))
      have z_8 : n0 ≤ h_8.size := Nat.le_trans z_5 (Nat.le_of_eq W_8.size.symm)
      have Fw_8 := f_7.same W_8
      show Go p e below s _ _ _ T_8 (mkF m 34 #[.val (.ref a), .val (.long k), .second, .val (.long v), .second, .unset] [])
      refine Go.st (fun _ => XS.aloadN X_8.here hx rfl (hb hby d6_34) rfl rfl) ?_
      show Go p e below s _ _ _ T_8 (mkF m 35 #[.val (.ref a), .val (.long k), .second, .val (.long v), .second, .unset] [(.ref a)])
      refine Go.st (fun _ => XS.lloadN X_8.here hx rfl (hb hby d6_35) rfl) ?_
      show Go p e below s _ _ _ T_8 (mkF m 36 #[.val (.ref a), .val (.long k), .second, .val (.long v), .second, .unset] [(.long v), (.ref a)])
      have f_9 := (f_6.wr W_8)
      have f_10 := ((F_freeValue_a.other W_5 (Or.inr (slot_ne (Or.inl (hw _ (List.mem_of_getElem? (i := 37) rfl))) (Or.inl (hw _ (List.mem_of_getElem? (i := 22) rfl))) (by decide) (t := .long) (t' := .int) (by decide) (by decide)))).other W_8 (Or.inr (slot_ne (Or.inl (hw _ (List.mem_of_getElem? (i := 37) rfl))) (Or.inl (hw _ (List.mem_of_getElem? (i := 35) rfl))) (by decide) (t := .long) (t' := .boolean) (by decide) (by decide))))
      obtain ⟨T_11, h_11, X_11, e_11, W_11, st_11⟩ := putF X_8 hx hZ hown (host := "") (Or.inl (hw _ (List.mem_of_getElem? (i := 36) rfl))) Via.refl e_8 f_10 f_9 (Or.inl (hw _ (List.mem_of_getElem? (i := 37) rfl))) (hw _ (List.mem_of_getElem? (i := 1) rfl)) (ty := .long) (by decide) rfl rfl (g := (mkF m 36 #[.val (.ref a), .val (.long k), .second, .val (.long v), .second, .unset] [(.long v), (.ref a)])) rfl rfl (hb hby d6_36)
      refine Go.st st_11 ?_
      have N_11 := Fr.snoc X_11 N_8 g_a
      have K_11 : Keep h0 h_11 [a, t] := K_8.wr W_11 (Or.inl (List.mem_of_getElem? (i := 0) rfl))
      have z_11 : n0 ≤ h_11.size := Nat.le_trans z_8 (Nat.le_of_eq W_11.size.symm)
      have Fw_11 := f_10.same W_11
      show Go p e below s _ _ _ T_11 (mkF m 39 #[.val (.ref a), .val (.long k), .second, .val (.long v), .second, .unset] [])
      have f_12 := (f_9.wr W_11)
      have f_13 := (((F_places_a.other W_5 (Or.inr (slot_ne (Or.inl (hw _ (List.mem_of_getElem? (i := 15) rfl))) (Or.inl (hw _ (List.mem_of_getElem? (i := 22) rfl))) (by decide) (t := (.array .long)) (t' := .int) (by decide) (by decide)))).other W_8 (Or.inr (slot_ne (Or.inl (hw _ (List.mem_of_getElem? (i := 15) rfl))) (Or.inl (hw _ (List.mem_of_getElem? (i := 35) rfl))) (by decide) (t := (.array .long)) (t' := .boolean) (by decide) (by decide)))).other W_11 (Or.inr (slot_ne (Or.inl (hw _ (List.mem_of_getElem? (i := 15) rfl))) (Or.inl (hw _ (List.mem_of_getElem? (i := 37) rfl))) (by decide) (t := (.array .long)) (t' := .long) (by decide) (by decide))))
      have f_14 := ((Fw_5.other W_8 (Or.inr (slot_ne (Or.inl (hw _ (List.mem_of_getElem? (i := 22) rfl))) (Or.inl (hw _ (List.mem_of_getElem? (i := 35) rfl))) (by decide) (t := .int) (t' := .boolean) (by decide) (by decide)))).other W_11 (Or.inr (slot_ne (Or.inl (hw _ (List.mem_of_getElem? (i := 22) rfl))) (Or.inl (hw _ (List.mem_of_getElem? (i := 37) rfl))) (by decide) (t := .int) (t' := .long) (by decide) (by decide))))
      have f_15 := (Fw_8.other W_11 (Or.inr (slot_ne (Or.inl (hw _ (List.mem_of_getElem? (i := 35) rfl))) (Or.inl (hw _ (List.mem_of_getElem? (i := 37) rfl))) (by decide) (t := .boolean) (t' := .long) (by decide) (by decide))))
      have f_16 := (((V_t.other W_5 (Ne.symm ne_a_t)).other W_8 (Ne.symm ne_a_t)).other W_11 (Ne.symm ne_a_t))
      exact Go.ret0 X_11 hx hlk Bd.returns (hb hby d6_39) (by rw [e_11]; exact ⟨ks, (n + (1 : Int32)), (1 : Int32), v, rfl, N_11, K_11, f_12, f_13, f_14, f_15, Fw_11, f_16, (own_fA hinv hn2 hc_4), (own_fB hinv hn2 hc_4)⟩) (by decide) (by decide)
    · refine Go.st (fun _ => XS.ifNo X_3.here hx rfl (hb hby d6_17) rfl ((if0 _ _).trans (feq hc_4).1)) ?_
      show Go p e below s _ _ _ T_3 (mkF m 20 #[.val (.ref a), .val (.long k), .second, .val (.long v), .second, .unset] [(.int n), (.ref a)])
      refine Go.st (fun _ => XS.iconst X_3.here hx rfl (hb hby d6_20)) ?_
      show Go p e below s _ _ _ T_3 (mkF m 21 #[.val (.ref a), .val (.long k), .second, .val (.long v), .second, .unset] [(.int (0 : Int32)), (.int n), (.ref a)])
      refine Go.st (fun _ => XS.goto X_3.here hx rfl (pc0 := 21) (pc' := 25) rfl (hb hby d6_21) (by decide) (by decide)) ?_
      show Go p e below s _ _ _ T_3 (mkF m 25 #[.val (.ref a), .val (.long k), .second, .val (.long v), .second, .unset] [(.int (0 : Int32)), (.int n), (.ref a)])
      refine Go.st (fun _ => XS.iadd X_3.here hx rfl (hb hby d6_25) rfl) ?_
      show Go p e below s _ _ _ T_3 (mkF m 26 #[.val (.ref a), .val (.long k), .second, .val (.long v), .second, .unset] [(.int (n + (0 : Int32))), (.ref a)])
      obtain ⟨T_17, h_17, X_17, e_17, W_17, st_17⟩ := putF X_3 hx hZ hown (host := "") (Or.inl (hw _ (List.mem_of_getElem? (i := 21) rfl))) Via.refl e_3 F_size_a E_a (Or.inl (hw _ (List.mem_of_getElem? (i := 22) rfl))) (hw _ (List.mem_of_getElem? (i := 1) rfl)) (ty := .int) (by decide) rfl rfl (g := (mkF m 26 #[.val (.ref a), .val (.long k), .second, .val (.long v), .second, .unset] [(.int (n + (0 : Int32))), (.ref a)])) rfl rfl (hb hby d6_26)
      refine Go.st st_17 ?_
      have N_17 := Fr.snoc X_17 N0 g_a
      have K_17 : Keep h0 h_17 [a, t] := (Keep.refl h0 [a, t]).wr W_17 (Or.inl (List.mem_of_getElem? (i := 0) rfl))
      have z_17 : n0 ≤ h_17.size := Nat.le_trans Z0 (Nat.le_of_eq W_17.size.symm)
      have Fw_17 := F_size_a.same W_17
      show Go p e below s _ _ _ T_17 (mkF m 29 #[.val (.ref a), .val (.long k), .second, .val (.long v), .second, .unset] [])
      refine Go.st (fun _ => XS.aloadN X_17.here hx rfl (hb hby d6_29) rfl rfl) ?_
      show Go p e below s _ _ _ T_17 (mkF m 30 #[.val (.ref a), .val (.long k), .second, .val (.long v), .second, .unset] [(.ref a)])
      refine Go.st (fun _ => XS.iconst X_17.here hx rfl (hb hby d6_30)) ?_
      show Go p e below s _ _ _ T_17 (mkF m 31 #[.val (.ref a), .val (.long k), .second, .val (.long v), .second, .unset] [(.int (1 : Int32)), (.ref a)])
      have f_18 := (E_a.wr W_17)
      have f_19 := (F_holdsFree_a.other W_17 (Or.inr (slot_ne (Or.inl (hw _ (List.mem_of_getElem? (i := 35) rfl))) (Or.inl (hw _ (List.mem_of_getElem? (i := 22) rfl))) (by decide) (t := .boolean) (t' := .int) (by decide) (by decide))))
      obtain ⟨T_20, h_20, X_20, e_20, W_20, st_20⟩ := putF X_17 hx hZ hown (host := "") (Or.inl (hw _ (List.mem_of_getElem? (i := 34) rfl))) Via.refl e_17 f_19 f_18 (Or.inl (hw _ (List.mem_of_getElem? (i := 35) rfl))) (hw _ (List.mem_of_getElem? (i := 1) rfl)) (ty := .boolean) (by decide) rfl rfl (g := (mkF m 31 #[.val (.ref a), .val (.long k), .second, .val (.long v), .second, .unset] [(.int (1 : Int32)), (.ref a)])) rfl rfl (hb hby d6_31)
      refine Go.st st_20 ?_
      have N_20 := Fr.snoc X_20 N_17 g_a
      have K_20 : Keep h0 h_20 [a, t] := K_17.wr W_20 (Or.inl (List.mem_of_getElem? (i := 0) rfl))
      have z_20 : n0 ≤ h_20.size := Nat.le_trans z_17 (Nat.le_of_eq W_20.size.symm)
      have Fw_20 := f_19.same W_20
      show Go p e below s _ _ _ T_20 (mkF m 34 #[.val (.ref a), .val (.long k), .second, .val (.long v), .second, .unset] [])
      refine Go.st (fun _ => XS.aloadN X_20.here hx rfl (hb hby d6_34) rfl rfl) ?_
      show Go p e below s _ _ _ T_20 (mkF m 35 #[.val (.ref a), .val (.long k), .second, .val (.long v), .second, .unset] [(.ref a)])
      refine Go.st (fun _ => XS.lloadN X_20.here hx rfl (hb hby d6_35) rfl) ?_
      show Go p e below s _ _ _ T_20 (mkF m 36 #[.val (.ref a), .val (.long k), .second, .val (.long v), .second, .unset] [(.long v), (.ref a)])
      have f_21 := (f_18.wr W_20)
      have f_22 := ((F_freeValue_a.other W_17 (Or.inr (slot_ne (Or.inl (hw _ (List.mem_of_getElem? (i := 37) rfl))) (Or.inl (hw _ (List.mem_of_getElem? (i := 22) rfl))) (by decide) (t := .long) (t' := .int) (by decide) (by decide)))).other W_20 (Or.inr (slot_ne (Or.inl (hw _ (List.mem_of_getElem? (i := 37) rfl))) (Or.inl (hw _ (List.mem_of_getElem? (i := 35) rfl))) (by decide) (t := .long) (t' := .boolean) (by decide) (by decide))))
      obtain ⟨T_23, h_23, X_23, e_23, W_23, st_23⟩ := putF X_20 hx hZ hown (host := "") (Or.inl (hw _ (List.mem_of_getElem? (i := 36) rfl))) Via.refl e_20 f_22 f_21 (Or.inl (hw _ (List.mem_of_getElem? (i := 37) rfl))) (hw _ (List.mem_of_getElem? (i := 1) rfl)) (ty := .long) (by decide) rfl rfl (g := (mkF m 36 #[.val (.ref a), .val (.long k), .second, .val (.long v), .second, .unset] [(.long v), (.ref a)])) rfl rfl (hb hby d6_36)
      refine Go.st st_23 ?_
      have N_23 := Fr.snoc X_23 N_20 g_a
      have K_23 : Keep h0 h_23 [a, t] := K_20.wr W_23 (Or.inl (List.mem_of_getElem? (i := 0) rfl))
      have z_23 : n0 ≤ h_23.size := Nat.le_trans z_20 (Nat.le_of_eq W_23.size.symm)
      have Fw_23 := f_22.same W_23
      show Go p e below s _ _ _ T_23 (mkF m 39 #[.val (.ref a), .val (.long k), .second, .val (.long v), .second, .unset] [])
      have f_24 := (f_21.wr W_23)
      have f_25 := (((F_places_a.other W_17 (Or.inr (slot_ne (Or.inl (hw _ (List.mem_of_getElem? (i := 15) rfl))) (Or.inl (hw _ (List.mem_of_getElem? (i := 22) rfl))) (by decide) (t := (.array .long)) (t' := .int) (by decide) (by decide)))).other W_20 (Or.inr (slot_ne (Or.inl (hw _ (List.mem_of_getElem? (i := 15) rfl))) (Or.inl (hw _ (List.mem_of_getElem? (i := 35) rfl))) (by decide) (t := (.array .long)) (t' := .boolean) (by decide) (by decide)))).other W_23 (Or.inr (slot_ne (Or.inl (hw _ (List.mem_of_getElem? (i := 15) rfl))) (Or.inl (hw _ (List.mem_of_getElem? (i := 37) rfl))) (by decide) (t := (.array .long)) (t' := .long) (by decide) (by decide))))
      have f_26 := ((Fw_17.other W_20 (Or.inr (slot_ne (Or.inl (hw _ (List.mem_of_getElem? (i := 22) rfl))) (Or.inl (hw _ (List.mem_of_getElem? (i := 35) rfl))) (by decide) (t := .int) (t' := .boolean) (by decide) (by decide)))).other W_23 (Or.inr (slot_ne (Or.inl (hw _ (List.mem_of_getElem? (i := 22) rfl))) (Or.inl (hw _ (List.mem_of_getElem? (i := 37) rfl))) (by decide) (t := .int) (t' := .long) (by decide) (by decide))))
      have f_27 := (Fw_20.other W_23 (Or.inr (slot_ne (Or.inl (hw _ (List.mem_of_getElem? (i := 35) rfl))) (Or.inl (hw _ (List.mem_of_getElem? (i := 37) rfl))) (by decide) (t := .boolean) (t' := .long) (by decide) (by decide))))
      have f_28 := (((V_t.other W_17 (Ne.symm ne_a_t)).other W_20 (Ne.symm ne_a_t)).other W_23 (Ne.symm ne_a_t))
      exact Go.ret0 X_23 hx hlk Bd.returns (hb hby d6_39) (by rw [e_23]; exact ⟨ks, (n + (0 : Int32)), (1 : Int32), v, rfl, N_23, K_23, f_24, f_25, f_26, f_27, Fw_23, f_28, (own_fC hinv hc_4), (own_fD hinv hn2 hc_4)⟩) (by decide) (by decide)
  · refine Go.st (fun _ => XS.ifYes X0.here hx rfl (pc0 := 5) (pc' := 40) rfl (hb hby d6_5) rfl ((if0 _ _).trans (feq (fun qq => hc_1 ((lw_eq k (-9223372036854775808 : Int64)).mp qq))).2) (by decide) (by decide)) ?_
    show Go p e below s _ _ _ s₁ (mkF m 40 #[.val (.ref a), .val (.long k), .second, .val (.long v), .second, .unset] [])
    refine Go.st (fun _ => XS.aloadN X0.here hx rfl (hb hby d6_40) rfl rfl) ?_
    show Go p e below s _ _ _ s₁ (mkF m 41 #[.val (.ref a), .val (.long k), .second, .val (.long v), .second, .unset] [(.ref a)])
    refine Go.st (fun _ => XS.lloadN X0.here hx rfl (hb hby d6_41) rfl) ?_
    show Go p e below s _ _ _ s₁ (mkF m 42 #[.val (.ref a), .val (.long k), .second, .val (.long v), .second, .unset] [(.long k), (.ref a)])
    obtain ⟨cq_29, q_29, q_29'⟩ := E_a.cell
    obtain ⟨_, _, ⟨T_29, L_29, kc_29, nc_29⟩, -, X_29, ⟨Lc_29, hQ_29, l_29, y_29, z_29⟩, st_29⟩ := X0.privateBack hx (y := (⟨"kasane/util/LongLongMap", "slot", "(J)I"⟩ : MethodName)) hown (mvT hZ (hw _ (List.mem_of_getElem? (i := 38) rfl))) (mvT hZ (hw _ (List.mem_of_getElem? (i := 39) rfl))) (own_selP (y := (⟨"kasane/util/LongLongMap", "slot", "(J)I"⟩ : MethodName)) (y' := (⟨"kasane/util/LongLongMap", "isEmpty", "()Z"⟩ : MethodName)) (mvT hZ (hw _ (List.mem_of_getElem? (i := 19) rfl))) rfl (Cond.privateMethod_at (mvP hZ (hw _ (List.mem_of_getElem? (i := 40) rfl)) (args := #[]))) (mvT hZ (hw _ (List.mem_of_getElem? (i := 39) rfl))) (by decide)) (Cond.privateMethod_at (mvP hZ (hw _ (List.mem_of_getElem? (i := 40) rfl)) (args := #[]))) (mvT hZ (hw _ (List.mem_of_getElem? (i := 41) rfl))) (by decide) (backOf (W := 0) (rmSl l Z a0 hw [] a k t kt ks h0 n0 Z0 E_a F_places_a V_t) hZ (hw _ (List.mem_of_getElem? (i := 41) rfl)) (hw _ (List.mem_of_getElem? (i := 2) rfl)) (by decide) (by decide)) (g := (mkF m 42 #[.val (.ref a), .val (.long k), .second, .val (.long v), .second, .unset] [(.long k), (.ref a)])) rfl (by rw [hml]; rfl) (Steps.refl _) (a := a) (by rw [e0]; exact q_29) q_29' (argsL := [(.long k)]) (rest := []) (lenOf pd_4 rfl) rfl (by show 2 * 0 + _ ≤ _; exact Nat.le_of_eq rfl) (hb hby d6_42) (fun _ _ => ⟨rfl, e0, (by decide : 0 + 0 ≤ _), (by decide : 0 + 0 ≤ _)⟩)
    dsimp only [Pt.U, Pt.locs, Pt.cells, Pt.slots] at X_29 l_29 y_29 z_29 st_29 hQ_29
    subst l_29 y_29 z_29
    obtain ⟨h_29, e_29⟩ : ∃ hh, T_29.heap = hh := ⟨_, rfl⟩
    rw [e_29] at hQ_29
    obtain ⟨rfl, N_29q, sm_29⟩ := hQ_29
    have N_29 := Fr.app N0 N_29q
    refine Go.st (fun _ kk => st_29.trans kk) ?_
    rw [sm_29] at e_29
    show Go p e below s _ _ _ T_29 (mkF m 45 #[.val (.ref a), .val (.long k), .second, .val (.long v), .second, .unset] [(.int (own_slot k))])
    refine Go.st (fun _ => XS.istore X_29.here hx rfl (hb hby d6_45) rfl (l' := #[.val (.ref a), .val (.long k), .second, .val (.long v), .second, .val (.int (own_slot k))]) rfl) ?_
    show Go p e below s _ _ _ T_29 (mkF m 47 #[.val (.ref a), .val (.long k), .second, .val (.long v), .second, .val (.int (own_slot k))] [])
    have loop : ∀ (d : Nat) (TL : State) (locsL : List Loc) (XL : Stand p l e ({ frames := 3, cells := 0, slots := 0, locals := 44 } : Room) s m #[(.ref a), (.long k), (.long v)] below meth c TL locsL 0 0) (eL : TL.heap = h0) (NL : Fr n0 locsL) (i : Int32) (hi : 0 ≤ i.toInt ∧ i.toInt < 8) (hd : ks.getD (2 * ((i.toInt.toNat + d) % 8)) (0 : Int64) = (-9223372036854775808 : Int64)), Go p e below s (QrmPu Z a k v t kt ks n f r h0 n0) ({ frames := 3, cells := 0, slots := 0, locals := 44 } : Room).cells ({ frames := 3, cells := 0, slots := 0, locals := 44 } : Room).slots TL (mkF m 47 #[.val (.ref a), .val (.long k), .second, .val (.long v), .second, .val (.int i)] []) := by
      intro d
      induction d with
      | zero =>
        intro TL locsL XL eL NL i hi hd
        have hk_30 : (ks.getD (2 * i.toInt.toNat) (0 : Int64)) = (-9223372036854775808 : Int64) := own_d0 hi hd
        show Go p e below s _ _ _ TL (mkF m 47 #[.val (.ref a), .val (.long k), .second, .val (.long v), .second, .val (.int i)] [])
        refine Go.st (fun _ => XS.aloadN XL.here hx rfl (hb hby d6_47) rfl rfl) ?_
        show Go p e below s _ _ _ TL (mkF m 48 #[.val (.ref a), .val (.long k), .second, .val (.long v), .second, .val (.int i)] [(.ref a)])
        obtain ⟨T_31, X_31, e_31, st_31⟩ := getF XL hx hZ hown (host := "") (Or.inl (hw _ (List.mem_of_getElem? (i := 14) rfl))) Via.refl eL F_places_a (g := (mkF m 48 #[.val (.ref a), .val (.long k), .second, .val (.long v), .second, .val (.int i)] [(.ref a)])) rfl rfl (hb hby d6_48)
        refine Go.st st_31 ?_
        show Go p e below s _ _ _ T_31 (mkF m 51 #[.val (.ref a), .val (.long k), .second, .val (.long v), .second, .val (.int i)] [(.ref t)])
        refine Go.st (fun _ => XS.iconst X_31.here hx rfl (hb hby d6_51)) ?_
        show Go p e below s _ _ _ T_31 (mkF m 52 #[.val (.ref a), .val (.long k), .second, .val (.long v), .second, .val (.int i)] [(.int (2 : Int32)), (.ref t)])
        refine Go.st (fun _ => XS.iload X_31.here hx rfl (hb hby d6_52) rfl) ?_
        show Go p e below s _ _ _ T_31 (mkF m 54 #[.val (.ref a), .val (.long k), .second, .val (.long v), .second, .val (.int i)] [(.int i), (.int (2 : Int32)), (.ref t)])
        refine Go.st (fun _ => XS.imul X_31.here hx rfl (hb hby d6_54) rfl) ?_
        show Go p e below s _ _ _ T_31 (mkF m 55 #[.val (.ref a), .val (.long k), .second, .val (.long v), .second, .val (.int i)] [(.int ((2 : Int32) * i)), (.ref t)])
        obtain ⟨cl_32, Ar_32, q_32, S_32, M_32, H_32, G_32⟩ := id V_t
        have hin_32 : ¬ (((2 : Int32) * i) < 0 ∨ cl_32.slots.size ≤ (((2 : Int32) * i)).toNatClampNeg) := inb_of S_32 (own_2i hi)
        have hat_32 : cl_32.slots[(((2 : Int32) * i)).toNatClampNeg]? = some (.long (ks.getD (2 * i.toInt.toNat) (0 : Int64))) := H_32.at hin_32 (own_get hi)
        refine Go.st (fun tG => X_31.laload hx (j := ((2 : Int32) * i)) (v := (.long (ks.getD (2 * i.toInt.toNat) (0 : Int64)))) (by rw [e_31]; exact Ar_32.1) (State.isArrayOf_alike hZ.alike Ar_32.2.1) Ar_32.2.2 hin_32 hat_32 (g := (mkF m 55 #[.val (.ref a), .val (.long k), .second, .val (.long v), .second, .val (.int i)] [(.int ((2 : Int32) * i)), (.ref t)])) rfl rfl (hb hby d6_55) tG) ?_
        show Go p e below s _ _ _ T_31 (mkF m 56 #[.val (.ref a), .val (.long k), .second, .val (.long v), .second, .val (.int i)] [(.long (ks.getD (2 * i.toInt.toNat) (0 : Int64)))])
        refine Go.st (fun tG => X_31.ldc2Long hx hown (mvT hZ (hw _ (List.mem_of_getElem? (i := 13) rfl))) (g := (mkF m 56 #[.val (.ref a), .val (.long k), .second, .val (.long v), .second, .val (.int i)] [(.long (ks.getD (2 * i.toInt.toNat) (0 : Int64)))])) rfl (hb hby d6_56) tG) ?_
        show Go p e below s _ _ _ T_31 (mkF m 59 #[.val (.ref a), .val (.long k), .second, .val (.long v), .second, .val (.int i)] [(.long (-9223372036854775808 : Int64)), (.long (ks.getD (2 * i.toInt.toNat) (0 : Int64)))])
        refine Go.st (fun _ => XS.lcmp X_31.here hx rfl (hb hby d6_59) rfl) ?_
        show Go p e below s _ _ _ T_31 (mkF m 60 #[.val (.ref a), .val (.long k), .second, .val (.long v), .second, .val (.int i)] [(.int (lcmpW (ks.getD (2 * i.toInt.toNat) (0 : Int64)) (-9223372036854775808 : Int64)))])
        refine Go.st (fun _ => XS.ifYes X_31.here hx rfl (pc0 := 60) (pc' := 101) rfl (hb hby d6_60) rfl ((if0 _ _).trans (teq ((lw_eq (ks.getD (2 * i.toInt.toNat) (0 : Int64)) (-9223372036854775808 : Int64)).mpr hk_30)).1) (by decide) (by decide)) ?_
        show Go p e below s _ _ _ T_31 (mkF m 101 #[.val (.ref a), .val (.long k), .second, .val (.long v), .second, .val (.int i)] [])
        refine Go.st (fun _ => XS.aloadN X_31.here hx rfl (hb hby d6_101) rfl rfl) ?_
        show Go p e below s _ _ _ T_31 (mkF m 102 #[.val (.ref a), .val (.long k), .second, .val (.long v), .second, .val (.int i)] [(.ref a)])
        obtain ⟨T_33, X_33, e_33, st_33⟩ := getF X_31 hx hZ hown (host := "") (Or.inl (hw _ (List.mem_of_getElem? (i := 14) rfl))) Via.refl e_31 F_places_a (g := (mkF m 102 #[.val (.ref a), .val (.long k), .second, .val (.long v), .second, .val (.int i)] [(.ref a)])) rfl rfl (hb hby d6_102)
        refine Go.st st_33 ?_
        show Go p e below s _ _ _ T_33 (mkF m 105 #[.val (.ref a), .val (.long k), .second, .val (.long v), .second, .val (.int i)] [(.ref t)])
        refine Go.st (fun _ => XS.iconst X_33.here hx rfl (hb hby d6_105)) ?_
        show Go p e below s _ _ _ T_33 (mkF m 106 #[.val (.ref a), .val (.long k), .second, .val (.long v), .second, .val (.int i)] [(.int (2 : Int32)), (.ref t)])
        refine Go.st (fun _ => XS.iload X_33.here hx rfl (hb hby d6_106) rfl) ?_
        show Go p e below s _ _ _ T_33 (mkF m 108 #[.val (.ref a), .val (.long k), .second, .val (.long v), .second, .val (.int i)] [(.int i), (.int (2 : Int32)), (.ref t)])
        refine Go.st (fun _ => XS.imul X_33.here hx rfl (hb hby d6_108) rfl) ?_
        show Go p e below s _ _ _ T_33 (mkF m 109 #[.val (.ref a), .val (.long k), .second, .val (.long v), .second, .val (.int i)] [(.int ((2 : Int32) * i)), (.ref t)])
        refine Go.st (fun _ => XS.lloadN X_33.here hx rfl (hb hby d6_109) rfl) ?_
        show Go p e below s _ _ _ T_33 (mkF m 110 #[.val (.ref a), .val (.long k), .second, .val (.long v), .second, .val (.int i)] [(.long k), (.int ((2 : Int32) * i)), (.ref t)])
        obtain ⟨cl_34, Ar_34, q_34, S_34, M_34, H_34, G_34⟩ := id V_t
        have hin_34 : ¬ (((2 : Int32) * i) < 0 ∨ cl_34.slots.size ≤ (((2 : Int32) * i)).toNatClampNeg) := inb_of S_34 (own_2i hi)
        obtain ⟨T_34, h_34, X_34, e_34, W_34, st_34⟩ := stJ X_33 hx hZ e_33 Ar_34 (j := ((2 : Int32) * i)) hin_34 (g := (mkF m 110 #[.val (.ref a), .val (.long k), .second, .val (.long v), .second, .val (.int i)] [(.long k), (.int ((2 : Int32) * i)), (.ref t)])) rfl rfl (hb hby d6_110)
        refine Go.st st_34 ?_
        have V_34 : Arv Z h_34 t kt .long (16 : Int32) ((ks.map Value.long).set (((2 : Int32) * i)).toNatClampNeg (.long k)) (.long (0 : Int64)) := Arv.set Ar_34 q_34 S_34 M_34 H_34 G_34 rfl W_34 (((2 : Int32) * i)).toNatClampNeg rfl (own_lt2 hi (by simp [hinv.1]))
        have N_34 := Fr.snoc X_34 NL g_t
        have K_34 : Keep h0 h_34 [a, t] := (Keep.refl h0 [a, t]).wr W_34 (Or.inl (List.mem_of_getElem? (i := 1) rfl))
        have z_34 : n0 ≤ h_34.size := Nat.le_trans Z0 (Nat.le_of_eq W_34.size.symm)
        show Go p e below s _ _ _ T_34 (mkF m 111 #[.val (.ref a), .val (.long k), .second, .val (.long v), .second, .val (.int i)] [])
        have vm_35 : Arv Z h_34 t kt .long (16 : Int32) ((ks.set (((2 : Int32) * i)).toNatClampNeg k).map Value.long) (.long (0 : Int64)) := by rw [own_ms]; exact V_34
        refine Go.st (fun _ => XS.aloadN X_34.here hx rfl (hb hby d6_111) rfl rfl) ?_
        show Go p e below s _ _ _ T_34 (mkF m 112 #[.val (.ref a), .val (.long k), .second, .val (.long v), .second, .val (.int i)] [(.ref a)])
        have f_36 := (F_places_a.other W_34 (Or.inl ne_a_t))
        obtain ⟨T_37, X_37, e_37, st_37⟩ := getF X_34 hx hZ hown (host := "") (Or.inl (hw _ (List.mem_of_getElem? (i := 14) rfl))) Via.refl e_34 f_36 (g := (mkF m 112 #[.val (.ref a), .val (.long k), .second, .val (.long v), .second, .val (.int i)] [(.ref a)])) rfl rfl (hb hby d6_112)
        refine Go.st st_37 ?_
        show Go p e below s _ _ _ T_37 (mkF m 115 #[.val (.ref a), .val (.long k), .second, .val (.long v), .second, .val (.int i)] [(.ref t)])
        refine Go.st (fun _ => XS.iconst X_37.here hx rfl (hb hby d6_115)) ?_
        show Go p e below s _ _ _ T_37 (mkF m 116 #[.val (.ref a), .val (.long k), .second, .val (.long v), .second, .val (.int i)] [(.int (2 : Int32)), (.ref t)])
        refine Go.st (fun _ => XS.iload X_37.here hx rfl (hb hby d6_116) rfl) ?_
        show Go p e below s _ _ _ T_37 (mkF m 118 #[.val (.ref a), .val (.long k), .second, .val (.long v), .second, .val (.int i)] [(.int i), (.int (2 : Int32)), (.ref t)])
        refine Go.st (fun _ => XS.imul X_37.here hx rfl (hb hby d6_118) rfl) ?_
        show Go p e below s _ _ _ T_37 (mkF m 119 #[.val (.ref a), .val (.long k), .second, .val (.long v), .second, .val (.int i)] [(.int ((2 : Int32) * i)), (.ref t)])
        refine Go.st (fun _ => XS.iconst X_37.here hx rfl (hb hby d6_119)) ?_
        show Go p e below s _ _ _ T_37 (mkF m 120 #[.val (.ref a), .val (.long k), .second, .val (.long v), .second, .val (.int i)] [(.int (1 : Int32)), (.int ((2 : Int32) * i)), (.ref t)])
        refine Go.st (fun _ => XS.iadd X_37.here hx rfl (hb hby d6_120) rfl) ?_
        show Go p e below s _ _ _ T_37 (mkF m 121 #[.val (.ref a), .val (.long k), .second, .val (.long v), .second, .val (.int i)] [(.int (((2 : Int32) * i) + (1 : Int32))), (.ref t)])
        refine Go.st (fun _ => XS.lloadN X_37.here hx rfl (hb hby d6_121) rfl) ?_
        show Go p e below s _ _ _ T_37 (mkF m 122 #[.val (.ref a), .val (.long k), .second, .val (.long v), .second, .val (.int i)] [(.long v), (.int (((2 : Int32) * i) + (1 : Int32))), (.ref t)])
        obtain ⟨cl_38, Ar_38, q_38, S_38, M_38, H_38, G_38⟩ := id vm_35
        have hin_38 : ¬ ((((2 : Int32) * i) + (1 : Int32)) < 0 ∨ cl_38.slots.size ≤ ((((2 : Int32) * i) + (1 : Int32))).toNatClampNeg) := inb_of S_38 (own_2i1 hi)
        obtain ⟨T_38, h_38, X_38, e_38, W_38, st_38⟩ := stJ X_37 hx hZ e_37 Ar_38 (j := (((2 : Int32) * i) + (1 : Int32))) hin_38 (g := (mkF m 122 #[.val (.ref a), .val (.long k), .second, .val (.long v), .second, .val (.int i)] [(.long v), (.int (((2 : Int32) * i) + (1 : Int32))), (.ref t)])) rfl rfl (hb hby d6_122)
        refine Go.st st_38 ?_
        have V_38 : Arv Z h_38 t kt .long (16 : Int32) (((ks.set (((2 : Int32) * i)).toNatClampNeg k).map Value.long).set ((((2 : Int32) * i) + (1 : Int32))).toNatClampNeg (.long v)) (.long (0 : Int64)) := Arv.set Ar_38 q_38 S_38 M_38 H_38 G_38 rfl W_38 ((((2 : Int32) * i) + (1 : Int32))).toNatClampNeg rfl (own_lt21 hi (by simp [hinv.1]))
        have N_38 := Fr.snoc X_38 N_34 g_t
        have K_38 : Keep h0 h_38 [a, t] := K_34.wr W_38 (Or.inl (List.mem_of_getElem? (i := 1) rfl))
        have z_38 : n0 ≤ h_38.size := Nat.le_trans z_34 (Nat.le_of_eq W_38.size.symm)
        show Go p e below s _ _ _ T_38 (mkF m 123 #[.val (.ref a), .val (.long k), .second, .val (.long v), .second, .val (.int i)] [])
        have vm_39 : Arv Z h_38 t kt .long (16 : Int32) (((ks.set (((2 : Int32) * i)).toNatClampNeg k).set ((((2 : Int32) * i) + (1 : Int32))).toNatClampNeg v).map Value.long) (.long (0 : Int64)) := by rw [own_ms]; exact V_38
        refine Go.st (fun _ => XS.aloadN X_38.here hx rfl (hb hby d6_123) rfl rfl) ?_
        show Go p e below s _ _ _ T_38 (mkF m 124 #[.val (.ref a), .val (.long k), .second, .val (.long v), .second, .val (.int i)] [(.ref a)])
        refine Go.st (fun _ => XS.dup X_38.here hx rfl (hb hby d6_124) rfl rfl) ?_
        show Go p e below s _ _ _ T_38 (mkF m 125 #[.val (.ref a), .val (.long k), .second, .val (.long v), .second, .val (.int i)] [(.ref a), (.ref a)])
        have f_40 := ((F_size_a.other W_34 (Or.inl ne_a_t)).other W_38 (Or.inl ne_a_t))
        obtain ⟨T_41, X_41, e_41, st_41⟩ := getF X_38 hx hZ hown (host := "") (Or.inl (hw _ (List.mem_of_getElem? (i := 21) rfl))) Via.refl e_38 f_40 (g := (mkF m 125 #[.val (.ref a), .val (.long k), .second, .val (.long v), .second, .val (.int i)] [(.ref a), (.ref a)])) rfl rfl (hb hby d6_125)
        refine Go.st st_41 ?_
        show Go p e below s _ _ _ T_41 (mkF m 128 #[.val (.ref a), .val (.long k), .second, .val (.long v), .second, .val (.int i)] [(.int n), (.ref a)])
        refine Go.st (fun _ => XS.iconst X_41.here hx rfl (hb hby d6_128)) ?_
        show Go p e below s _ _ _ T_41 (mkF m 129 #[.val (.ref a), .val (.long k), .second, .val (.long v), .second, .val (.int i)] [(.int (1 : Int32)), (.int n), (.ref a)])
        refine Go.st (fun _ => XS.iadd X_41.here hx rfl (hb hby d6_129) rfl) ?_
        show Go p e below s _ _ _ T_41 (mkF m 130 #[.val (.ref a), .val (.long k), .second, .val (.long v), .second, .val (.int i)] [(.int (n + (1 : Int32))), (.ref a)])
        have f_42 := ((E_a.wr W_34).wr W_38)
        obtain ⟨T_43, h_43, X_43, e_43, W_43, st_43⟩ := putF X_41 hx hZ hown (host := "") (Or.inl (hw _ (List.mem_of_getElem? (i := 21) rfl))) Via.refl e_41 f_40 f_42 (Or.inl (hw _ (List.mem_of_getElem? (i := 22) rfl))) (hw _ (List.mem_of_getElem? (i := 1) rfl)) (ty := .int) (by decide) rfl rfl (g := (mkF m 130 #[.val (.ref a), .val (.long k), .second, .val (.long v), .second, .val (.int i)] [(.int (n + (1 : Int32))), (.ref a)])) rfl rfl (hb hby d6_130)
        refine Go.st st_43 ?_
        have N_43 := Fr.snoc X_43 N_38 g_a
        have K_43 : Keep h0 h_43 [a, t] := K_38.wr W_43 (Or.inl (List.mem_of_getElem? (i := 0) rfl))
        have z_43 : n0 ≤ h_43.size := Nat.le_trans z_38 (Nat.le_of_eq W_43.size.symm)
        have Fw_43 := f_40.same W_43
        show Go p e below s _ _ _ T_43 (mkF m 133 #[.val (.ref a), .val (.long k), .second, .val (.long v), .second, .val (.int i)] [])
        refine Go.st (fun _ => XS.iconst X_43.here hx rfl (hb hby d6_133)) ?_
        show Go p e below s _ _ _ T_43 (mkF m 134 #[.val (.ref a), .val (.long k), .second, .val (.long v), .second, .val (.int i)] [(.int (2 : Int32))])
        refine Go.st (fun _ => XS.aloadN X_43.here hx rfl (hb hby d6_134) rfl rfl) ?_
        show Go p e below s _ _ _ T_43 (mkF m 135 #[.val (.ref a), .val (.long k), .second, .val (.long v), .second, .val (.int i)] [(.ref a), (.int (2 : Int32))])
        obtain ⟨T_44, X_44, e_44, st_44⟩ := getF X_43 hx hZ hown (host := "") (Or.inl (hw _ (List.mem_of_getElem? (i := 21) rfl))) Via.refl e_43 Fw_43 (g := (mkF m 135 #[.val (.ref a), .val (.long k), .second, .val (.long v), .second, .val (.int i)] [(.ref a), (.int (2 : Int32))])) rfl rfl (hb hby d6_135)
        refine Go.st st_44 ?_
        show Go p e below s _ _ _ T_44 (mkF m 138 #[.val (.ref a), .val (.long k), .second, .val (.long v), .second, .val (.int i)] [(.int (n + (1 : Int32))), (.int (2 : Int32))])
        refine Go.st (fun _ => XS.imul X_44.here hx rfl (hb hby d6_138) rfl) ?_
        show Go p e below s _ _ _ T_44 (mkF m 139 #[.val (.ref a), .val (.long k), .second, .val (.long v), .second, .val (.int i)] [(.int ((2 : Int32) * (n + (1 : Int32))))])
        refine Go.st (fun _ => XS.aloadN X_44.here hx rfl (hb hby d6_139) rfl rfl) ?_
        show Go p e below s _ _ _ T_44 (mkF m 140 #[.val (.ref a), .val (.long k), .second, .val (.long v), .second, .val (.int i)] [(.ref a), (.int ((2 : Int32) * (n + (1 : Int32))))])
        have f_46 := ((f_36.other W_38 (Or.inl ne_a_t)).other W_43 (Or.inr (slot_ne (Or.inl (hw _ (List.mem_of_getElem? (i := 15) rfl))) (Or.inl (hw _ (List.mem_of_getElem? (i := 22) rfl))) (by decide) (t := (.array .long)) (t' := .int) (by decide) (by decide))))
        have f_47 := (vm_39.other W_43 (Ne.symm ne_a_t))
        have f_48 := (f_42.wr W_43)
        obtain ⟨cq_45, q_45, q_45'⟩ := f_48.cell
        obtain ⟨_, _, ⟨T_45, L_45, kc_45, nc_45⟩, -, X_45, ⟨Lc_45, hQ_45, l_45, y_45, z_45⟩, st_45⟩ := X_44.privateBack hx (y := (⟨"kasane/util/LongLongMap", "capacity", "()I"⟩ : MethodName)) hown (mvT hZ (hw _ (List.mem_of_getElem? (i := 42) rfl))) (mvT hZ (hw _ (List.mem_of_getElem? (i := 43) rfl))) (own_selP (y := (⟨"kasane/util/LongLongMap", "capacity", "()I"⟩ : MethodName)) (y' := (⟨"kasane/util/LongLongMap", "isEmpty", "()Z"⟩ : MethodName)) (mvT hZ (hw _ (List.mem_of_getElem? (i := 19) rfl))) rfl (Cond.privateMethod_at (mvP hZ (hw _ (List.mem_of_getElem? (i := 44) rfl)) (args := #[]))) (mvT hZ (hw _ (List.mem_of_getElem? (i := 43) rfl))) (by decide)) (Cond.privateMethod_at (mvP hZ (hw _ (List.mem_of_getElem? (i := 44) rfl)) (args := #[]))) (mvT hZ (hw _ (List.mem_of_getElem? (i := 45) rfl))) (by decide) (backOf (W := 1) (rmCa l Z a0 hw [] a t kt ((ks.set (((2 : Int32) * i)).toNatClampNeg k).set ((((2 : Int32) * i) + (1 : Int32))).toNatClampNeg v) h_43 n0 z_43 f_46 f_47) hZ (hw _ (List.mem_of_getElem? (i := 45) rfl)) (hw _ (List.mem_of_getElem? (i := 2) rfl)) (by decide) (by decide)) (g := (mkF m 140 #[.val (.ref a), .val (.long k), .second, .val (.long v), .second, .val (.int i)] [(.ref a), (.int ((2 : Int32) * (n + (1 : Int32))))])) rfl (by rw [hml]; rfl) (Steps.refl _) (a := a) (by rw [e_44]; exact q_45) q_45' (argsL := []) (rest := [(.int ((2 : Int32) * (n + (1 : Int32))))]) (lenOf pd_2 rfl) rfl (by show 2 * 0 + _ ≤ _; exact Nat.le_of_eq rfl) (hb hby d6_140) (fun _ _ => ⟨rfl, e_44, (by decide : 0 + 0 ≤ _), (by decide : 0 + 0 ≤ _)⟩)
        dsimp only [Pt.U, Pt.locs, Pt.cells, Pt.slots] at X_45 l_45 y_45 z_45 st_45 hQ_45
        subst l_45 y_45 z_45
        obtain ⟨h_45, e_45⟩ : ∃ hh, T_45.heap = hh := ⟨_, rfl⟩
        rw [e_45] at hQ_45
        obtain ⟨rfl, N_45q, sm_45⟩ := hQ_45
        have N_45 := Fr.app N_43 N_45q
        refine Go.st (fun _ kk => st_45.trans kk) ?_
        rw [sm_45] at e_45
        show Go p e below s _ _ _ T_45 (mkF m 143 #[.val (.ref a), .val (.long k), .second, .val (.long v), .second, .val (.int i)] [(.int (8 : Int32)), (.int ((2 : Int32) * (n + (1 : Int32))))])
        refine Go.st (fun _ => XS.icmpYes X_45.here hx rfl (pc0 := 143) (pc' := 161) rfl (hb hby d6_143) rfl (flt (own_small hinv hn2 : ¬ ((8 : Int32) < ((2 : Int32) * (n + (1 : Int32)))))).2.2.2 (by decide) (by decide)) ?_
        show Go p e below s _ _ _ T_45 (mkF m 161 #[.val (.ref a), .val (.long k), .second, .val (.long v), .second, .val (.int i)] [])
        have f_49 := (((F_holdsFree_a.other W_34 (Or.inl ne_a_t)).other W_38 (Or.inl ne_a_t)).other W_43 (Or.inr (slot_ne (Or.inl (hw _ (List.mem_of_getElem? (i := 35) rfl))) (Or.inl (hw _ (List.mem_of_getElem? (i := 22) rfl))) (by decide) (t := .boolean) (t' := .int) (by decide) (by decide))))
        have f_50 := (((F_freeValue_a.other W_34 (Or.inl ne_a_t)).other W_38 (Or.inl ne_a_t)).other W_43 (Or.inr (slot_ne (Or.inl (hw _ (List.mem_of_getElem? (i := 37) rfl))) (Or.inl (hw _ (List.mem_of_getElem? (i := 22) rfl))) (by decide) (t := .long) (t' := .int) (by decide) (by decide))))
        exact Go.ret0 X_45 hx hlk Bd.returns (hb hby d6_161) (by rw [e_45]; exact ⟨((ks.set (((2 : Int32) * i)).toNatClampNeg k).set ((((2 : Int32) * i) + (1 : Int32))).toNatClampNeg v), (n + (1 : Int32)), f, r, rfl, N_45, K_43, f_48, f_46, Fw_43, f_49, f_50, f_47, (own_tA hinv hn2 hi hk_30 hc_1), (own_tB hinv hn2)⟩) (by decide) (by decide)
      | succ d ih =>
        intro TL locsL XL eL NL i hi hd
        show Go p e below s _ _ _ TL (mkF m 47 #[.val (.ref a), .val (.long k), .second, .val (.long v), .second, .val (.int i)] [])
        refine Go.st (fun _ => XS.aloadN XL.here hx rfl (hb hby d6_47) rfl rfl) ?_
        show Go p e below s _ _ _ TL (mkF m 48 #[.val (.ref a), .val (.long k), .second, .val (.long v), .second, .val (.int i)] [(.ref a)])
        obtain ⟨T_51, X_51, e_51, st_51⟩ := getF XL hx hZ hown (host := "") (Or.inl (hw _ (List.mem_of_getElem? (i := 14) rfl))) Via.refl eL F_places_a (g := (mkF m 48 #[.val (.ref a), .val (.long k), .second, .val (.long v), .second, .val (.int i)] [(.ref a)])) rfl rfl (hb hby d6_48)
        refine Go.st st_51 ?_
        show Go p e below s _ _ _ T_51 (mkF m 51 #[.val (.ref a), .val (.long k), .second, .val (.long v), .second, .val (.int i)] [(.ref t)])
        refine Go.st (fun _ => XS.iconst X_51.here hx rfl (hb hby d6_51)) ?_
        show Go p e below s _ _ _ T_51 (mkF m 52 #[.val (.ref a), .val (.long k), .second, .val (.long v), .second, .val (.int i)] [(.int (2 : Int32)), (.ref t)])
        refine Go.st (fun _ => XS.iload X_51.here hx rfl (hb hby d6_52) rfl) ?_
        show Go p e below s _ _ _ T_51 (mkF m 54 #[.val (.ref a), .val (.long k), .second, .val (.long v), .second, .val (.int i)] [(.int i), (.int (2 : Int32)), (.ref t)])
        refine Go.st (fun _ => XS.imul X_51.here hx rfl (hb hby d6_54) rfl) ?_
        show Go p e below s _ _ _ T_51 (mkF m 55 #[.val (.ref a), .val (.long k), .second, .val (.long v), .second, .val (.int i)] [(.int ((2 : Int32) * i)), (.ref t)])
        obtain ⟨cl_52, Ar_52, q_52, S_52, M_52, H_52, G_52⟩ := id V_t
        have hin_52 : ¬ (((2 : Int32) * i) < 0 ∨ cl_52.slots.size ≤ (((2 : Int32) * i)).toNatClampNeg) := inb_of S_52 (own_2i hi)
        have hat_52 : cl_52.slots[(((2 : Int32) * i)).toNatClampNeg]? = some (.long (ks.getD (2 * i.toInt.toNat) (0 : Int64))) := H_52.at hin_52 (own_get hi)
        refine Go.st (fun tG => X_51.laload hx (j := ((2 : Int32) * i)) (v := (.long (ks.getD (2 * i.toInt.toNat) (0 : Int64)))) (by rw [e_51]; exact Ar_52.1) (State.isArrayOf_alike hZ.alike Ar_52.2.1) Ar_52.2.2 hin_52 hat_52 (g := (mkF m 55 #[.val (.ref a), .val (.long k), .second, .val (.long v), .second, .val (.int i)] [(.int ((2 : Int32) * i)), (.ref t)])) rfl rfl (hb hby d6_55) tG) ?_
        show Go p e below s _ _ _ T_51 (mkF m 56 #[.val (.ref a), .val (.long k), .second, .val (.long v), .second, .val (.int i)] [(.long (ks.getD (2 * i.toInt.toNat) (0 : Int64)))])
        refine Go.st (fun tG => X_51.ldc2Long hx hown (mvT hZ (hw _ (List.mem_of_getElem? (i := 13) rfl))) (g := (mkF m 56 #[.val (.ref a), .val (.long k), .second, .val (.long v), .second, .val (.int i)] [(.long (ks.getD (2 * i.toInt.toNat) (0 : Int64)))])) rfl (hb hby d6_56) tG) ?_
        show Go p e below s _ _ _ T_51 (mkF m 59 #[.val (.ref a), .val (.long k), .second, .val (.long v), .second, .val (.int i)] [(.long (-9223372036854775808 : Int64)), (.long (ks.getD (2 * i.toInt.toNat) (0 : Int64)))])
        refine Go.st (fun _ => XS.lcmp X_51.here hx rfl (hb hby d6_59) rfl) ?_
        show Go p e below s _ _ _ T_51 (mkF m 60 #[.val (.ref a), .val (.long k), .second, .val (.long v), .second, .val (.int i)] [(.int (lcmpW (ks.getD (2 * i.toInt.toNat) (0 : Int64)) (-9223372036854775808 : Int64)))])
        by_cases hc_53 : (ks.getD (2 * i.toInt.toNat) (0 : Int64)) = (-9223372036854775808 : Int64)
        · refine Go.st (fun _ => XS.ifYes X_51.here hx rfl (pc0 := 60) (pc' := 101) rfl (hb hby d6_60) rfl ((if0 _ _).trans (teq ((lw_eq (ks.getD (2 * i.toInt.toNat) (0 : Int64)) (-9223372036854775808 : Int64)).mpr hc_53)).1) (by decide) (by decide)) ?_
          show Go p e below s _ _ _ T_51 (mkF m 101 #[.val (.ref a), .val (.long k), .second, .val (.long v), .second, .val (.int i)] [])
          refine Go.st (fun _ => XS.aloadN X_51.here hx rfl (hb hby d6_101) rfl rfl) ?_
          show Go p e below s _ _ _ T_51 (mkF m 102 #[.val (.ref a), .val (.long k), .second, .val (.long v), .second, .val (.int i)] [(.ref a)])
          obtain ⟨T_54, X_54, e_54, st_54⟩ := getF X_51 hx hZ hown (host := "") (Or.inl (hw _ (List.mem_of_getElem? (i := 14) rfl))) Via.refl e_51 F_places_a (g := (mkF m 102 #[.val (.ref a), .val (.long k), .second, .val (.long v), .second, .val (.int i)] [(.ref a)])) rfl rfl (hb hby d6_102)
          refine Go.st st_54 ?_
          show Go p e below s _ _ _ T_54 (mkF m 105 #[.val (.ref a), .val (.long k), .second, .val (.long v), .second, .val (.int i)] [(.ref t)])
          refine Go.st (fun _ => XS.iconst X_54.here hx rfl (hb hby d6_105)) ?_
          show Go p e below s _ _ _ T_54 (mkF m 106 #[.val (.ref a), .val (.long k), .second, .val (.long v), .second, .val (.int i)] [(.int (2 : Int32)), (.ref t)])
          refine Go.st (fun _ => XS.iload X_54.here hx rfl (hb hby d6_106) rfl) ?_
          show Go p e below s _ _ _ T_54 (mkF m 108 #[.val (.ref a), .val (.long k), .second, .val (.long v), .second, .val (.int i)] [(.int i), (.int (2 : Int32)), (.ref t)])
          refine Go.st (fun _ => XS.imul X_54.here hx rfl (hb hby d6_108) rfl) ?_
          show Go p e below s _ _ _ T_54 (mkF m 109 #[.val (.ref a), .val (.long k), .second, .val (.long v), .second, .val (.int i)] [(.int ((2 : Int32) * i)), (.ref t)])
          refine Go.st (fun _ => XS.lloadN X_54.here hx rfl (hb hby d6_109) rfl) ?_
          show Go p e below s _ _ _ T_54 (mkF m 110 #[.val (.ref a), .val (.long k), .second, .val (.long v), .second, .val (.int i)] [(.long k), (.int ((2 : Int32) * i)), (.ref t)])
          obtain ⟨cl_55, Ar_55, q_55, S_55, M_55, H_55, G_55⟩ := id V_t
          have hin_55 : ¬ (((2 : Int32) * i) < 0 ∨ cl_55.slots.size ≤ (((2 : Int32) * i)).toNatClampNeg) := inb_of S_55 (own_2i hi)
          obtain ⟨T_55, h_55, X_55, e_55, W_55, st_55⟩ := stJ X_54 hx hZ e_54 Ar_55 (j := ((2 : Int32) * i)) hin_55 (g := (mkF m 110 #[.val (.ref a), .val (.long k), .second, .val (.long v), .second, .val (.int i)] [(.long k), (.int ((2 : Int32) * i)), (.ref t)])) rfl rfl (hb hby d6_110)
          refine Go.st st_55 ?_
          have V_55 : Arv Z h_55 t kt .long (16 : Int32) ((ks.map Value.long).set (((2 : Int32) * i)).toNatClampNeg (.long k)) (.long (0 : Int64)) := Arv.set Ar_55 q_55 S_55 M_55 H_55 G_55 rfl W_55 (((2 : Int32) * i)).toNatClampNeg rfl (own_lt2 hi (by simp [hinv.1]))
          have N_55 := Fr.snoc X_55 NL g_t
          have K_55 : Keep h0 h_55 [a, t] := (Keep.refl h0 [a, t]).wr W_55 (Or.inl (List.mem_of_getElem? (i := 1) rfl))
          have z_55 : n0 ≤ h_55.size := Nat.le_trans Z0 (Nat.le_of_eq W_55.size.symm)
          show Go p e below s _ _ _ T_55 (mkF m 111 #[.val (.ref a), .val (.long k), .second, .val (.long v), .second, .val (.int i)] [])
          have vm_56 : Arv Z h_55 t kt .long (16 : Int32) ((ks.set (((2 : Int32) * i)).toNatClampNeg k).map Value.long) (.long (0 : Int64)) := by rw [own_ms]; exact V_55
          refine Go.st (fun _ => XS.aloadN X_55.here hx rfl (hb hby d6_111) rfl rfl) ?_
          show Go p e below s _ _ _ T_55 (mkF m 112 #[.val (.ref a), .val (.long k), .second, .val (.long v), .second, .val (.int i)] [(.ref a)])
          have f_57 := (F_places_a.other W_55 (Or.inl ne_a_t))
          obtain ⟨T_58, X_58, e_58, st_58⟩ := getF X_55 hx hZ hown (host := "") (Or.inl (hw _ (List.mem_of_getElem? (i := 14) rfl))) Via.refl e_55 f_57 (g := (mkF m 112 #[.val (.ref a), .val (.long k), .second, .val (.long v), .second, .val (.int i)] [(.ref a)])) rfl rfl (hb hby d6_112)
          refine Go.st st_58 ?_
          show Go p e below s _ _ _ T_58 (mkF m 115 #[.val (.ref a), .val (.long k), .second, .val (.long v), .second, .val (.int i)] [(.ref t)])
          refine Go.st (fun _ => XS.iconst X_58.here hx rfl (hb hby d6_115)) ?_
          show Go p e below s _ _ _ T_58 (mkF m 116 #[.val (.ref a), .val (.long k), .second, .val (.long v), .second, .val (.int i)] [(.int (2 : Int32)), (.ref t)])
          refine Go.st (fun _ => XS.iload X_58.here hx rfl (hb hby d6_116) rfl) ?_
          show Go p e below s _ _ _ T_58 (mkF m 118 #[.val (.ref a), .val (.long k), .second, .val (.long v), .second, .val (.int i)] [(.int i), (.int (2 : Int32)), (.ref t)])
          refine Go.st (fun _ => XS.imul X_58.here hx rfl (hb hby d6_118) rfl) ?_
          show Go p e below s _ _ _ T_58 (mkF m 119 #[.val (.ref a), .val (.long k), .second, .val (.long v), .second, .val (.int i)] [(.int ((2 : Int32) * i)), (.ref t)])
          refine Go.st (fun _ => XS.iconst X_58.here hx rfl (hb hby d6_119)) ?_
          show Go p e below s _ _ _ T_58 (mkF m 120 #[.val (.ref a), .val (.long k), .second, .val (.long v), .second, .val (.int i)] [(.int (1 : Int32)), (.int ((2 : Int32) * i)), (.ref t)])
          refine Go.st (fun _ => XS.iadd X_58.here hx rfl (hb hby d6_120) rfl) ?_
          show Go p e below s _ _ _ T_58 (mkF m 121 #[.val (.ref a), .val (.long k), .second, .val (.long v), .second, .val (.int i)] [(.int (((2 : Int32) * i) + (1 : Int32))), (.ref t)])
          refine Go.st (fun _ => XS.lloadN X_58.here hx rfl (hb hby d6_121) rfl) ?_
          show Go p e below s _ _ _ T_58 (mkF m 122 #[.val (.ref a), .val (.long k), .second, .val (.long v), .second, .val (.int i)] [(.long v), (.int (((2 : Int32) * i) + (1 : Int32))), (.ref t)])
          obtain ⟨cl_59, Ar_59, q_59, S_59, M_59, H_59, G_59⟩ := id vm_56
          have hin_59 : ¬ ((((2 : Int32) * i) + (1 : Int32)) < 0 ∨ cl_59.slots.size ≤ ((((2 : Int32) * i) + (1 : Int32))).toNatClampNeg) := inb_of S_59 (own_2i1 hi)
          obtain ⟨T_59, h_59, X_59, e_59, W_59, st_59⟩ := stJ X_58 hx hZ e_58 Ar_59 (j := (((2 : Int32) * i) + (1 : Int32))) hin_59 (g := (mkF m 122 #[.val (.ref a), .val (.long k), .second, .val (.long v), .second, .val (.int i)] [(.long v), (.int (((2 : Int32) * i) + (1 : Int32))), (.ref t)])) rfl rfl (hb hby d6_122)
          refine Go.st st_59 ?_
          have V_59 : Arv Z h_59 t kt .long (16 : Int32) (((ks.set (((2 : Int32) * i)).toNatClampNeg k).map Value.long).set ((((2 : Int32) * i) + (1 : Int32))).toNatClampNeg (.long v)) (.long (0 : Int64)) := Arv.set Ar_59 q_59 S_59 M_59 H_59 G_59 rfl W_59 ((((2 : Int32) * i) + (1 : Int32))).toNatClampNeg rfl (own_lt21 hi (by simp [hinv.1]))
          have N_59 := Fr.snoc X_59 N_55 g_t
          have K_59 : Keep h0 h_59 [a, t] := K_55.wr W_59 (Or.inl (List.mem_of_getElem? (i := 1) rfl))
          have z_59 : n0 ≤ h_59.size := Nat.le_trans z_55 (Nat.le_of_eq W_59.size.symm)
          show Go p e below s _ _ _ T_59 (mkF m 123 #[.val (.ref a), .val (.long k), .second, .val (.long v), .second, .val (.int i)] [])
          have vm_60 : Arv Z h_59 t kt .long (16 : Int32) (((ks.set (((2 : Int32) * i)).toNatClampNeg k).set ((((2 : Int32) * i) + (1 : Int32))).toNatClampNeg v).map Value.long) (.long (0 : Int64)) := by rw [own_ms]; exact V_59
          refine Go.st (fun _ => XS.aloadN X_59.here hx rfl (hb hby d6_123) rfl rfl) ?_
          show Go p e below s _ _ _ T_59 (mkF m 124 #[.val (.ref a), .val (.long k), .second, .val (.long v), .second, .val (.int i)] [(.ref a)])
          refine Go.st (fun _ => XS.dup X_59.here hx rfl (hb hby d6_124) rfl rfl) ?_
          show Go p e below s _ _ _ T_59 (mkF m 125 #[.val (.ref a), .val (.long k), .second, .val (.long v), .second, .val (.int i)] [(.ref a), (.ref a)])
          have f_61 := ((F_size_a.other W_55 (Or.inl ne_a_t)).other W_59 (Or.inl ne_a_t))
          obtain ⟨T_62, X_62, e_62, st_62⟩ := getF X_59 hx hZ hown (host := "") (Or.inl (hw _ (List.mem_of_getElem? (i := 21) rfl))) Via.refl e_59 f_61 (g := (mkF m 125 #[.val (.ref a), .val (.long k), .second, .val (.long v), .second, .val (.int i)] [(.ref a), (.ref a)])) rfl rfl (hb hby d6_125)
          refine Go.st st_62 ?_
          show Go p e below s _ _ _ T_62 (mkF m 128 #[.val (.ref a), .val (.long k), .second, .val (.long v), .second, .val (.int i)] [(.int n), (.ref a)])
          refine Go.st (fun _ => XS.iconst X_62.here hx rfl (hb hby d6_128)) ?_
          show Go p e below s _ _ _ T_62 (mkF m 129 #[.val (.ref a), .val (.long k), .second, .val (.long v), .second, .val (.int i)] [(.int (1 : Int32)), (.int n), (.ref a)])
          refine Go.st (fun _ => XS.iadd X_62.here hx rfl (hb hby d6_129) rfl) ?_
          show Go p e below s _ _ _ T_62 (mkF m 130 #[.val (.ref a), .val (.long k), .second, .val (.long v), .second, .val (.int i)] [(.int (n + (1 : Int32))), (.ref a)])
          have f_63 := ((E_a.wr W_55).wr W_59)
          obtain ⟨T_64, h_64, X_64, e_64, W_64, st_64⟩ := putF X_62 hx hZ hown (host := "") (Or.inl (hw _ (List.mem_of_getElem? (i := 21) rfl))) Via.refl e_62 f_61 f_63 (Or.inl (hw _ (List.mem_of_getElem? (i := 22) rfl))) (hw _ (List.mem_of_getElem? (i := 1) rfl)) (ty := .int) (by decide) rfl rfl (g := (mkF m 130 #[.val (.ref a), .val (.long k), .second, .val (.long v), .second, .val (.int i)] [(.int (n + (1 : Int32))), (.ref a)])) rfl rfl (hb hby d6_130)
          refine Go.st st_64 ?_
          have N_64 := Fr.snoc X_64 N_59 g_a
          have K_64 : Keep h0 h_64 [a, t] := K_59.wr W_64 (Or.inl (List.mem_of_getElem? (i := 0) rfl))
          have z_64 : n0 ≤ h_64.size := Nat.le_trans z_59 (Nat.le_of_eq W_64.size.symm)
          have Fw_64 := f_61.same W_64
          show Go p e below s _ _ _ T_64 (mkF m 133 #[.val (.ref a), .val (.long k), .second, .val (.long v), .second, .val (.int i)] [])
          refine Go.st (fun _ => XS.iconst X_64.here hx rfl (hb hby d6_133)) ?_
          show Go p e below s _ _ _ T_64 (mkF m 134 #[.val (.ref a), .val (.long k), .second, .val (.long v), .second, .val (.int i)] [(.int (2 : Int32))])
          refine Go.st (fun _ => XS.aloadN X_64.here hx rfl (hb hby d6_134) rfl rfl) ?_
          show Go p e below s _ _ _ T_64 (mkF m 135 #[.val (.ref a), .val (.long k), .second, .val (.long v), .second, .val (.int i)] [(.ref a), (.int (2 : Int32))])
          obtain ⟨T_65, X_65, e_65, st_65⟩ := getF X_64 hx hZ hown (host := "") (Or.inl (hw _ (List.mem_of_getElem? (i := 21) rfl))) Via.refl e_64 Fw_64 (g := (mkF m 135 #[.val (.ref a), .val (.long k), .second, .val (.long v), .second, .val (.int i)] [(.ref a), (.int (2 : Int32))])) rfl rfl (hb hby d6_135)
          refine Go.st st_65 ?_
          show Go p e below s _ _ _ T_65 (mkF m 138 #[.val (.ref a), .val (.long k), .second, .val (.long v), .second, .val (.int i)] [(.int (n + (1 : Int32))), (.int (2 : Int32))])
          refine Go.st (fun _ => XS.imul X_65.here hx rfl (hb hby d6_138) rfl) ?_
          show Go p e below s _ _ _ T_65 (mkF m 139 #[.val (.ref a), .val (.long k), .second, .val (.long v), .second, .val (.int i)] [(.int ((2 : Int32) * (n + (1 : Int32))))])
          refine Go.st (fun _ => XS.aloadN X_65.here hx rfl (hb hby d6_139) rfl rfl) ?_
          show Go p e below s _ _ _ T_65 (mkF m 140 #[.val (.ref a), .val (.long k), .second, .val (.long v), .second, .val (.int i)] [(.ref a), (.int ((2 : Int32) * (n + (1 : Int32))))])
          have f_67 := ((f_57.other W_59 (Or.inl ne_a_t)).other W_64 (Or.inr (slot_ne (Or.inl (hw _ (List.mem_of_getElem? (i := 15) rfl))) (Or.inl (hw _ (List.mem_of_getElem? (i := 22) rfl))) (by decide) (t := (.array .long)) (t' := .int) (by decide) (by decide))))
          have f_68 := (vm_60.other W_64 (Ne.symm ne_a_t))
          have f_69 := (f_63.wr W_64)
          obtain ⟨cq_66, q_66, q_66'⟩ := f_69.cell
          obtain ⟨_, _, ⟨T_66, L_66, kc_66, nc_66⟩, -, X_66, ⟨Lc_66, hQ_66, l_66, y_66, z_66⟩, st_66⟩ := X_65.privateBack hx (y := (⟨"kasane/util/LongLongMap", "capacity", "()I"⟩ : MethodName)) hown (mvT hZ (hw _ (List.mem_of_getElem? (i := 42) rfl))) (mvT hZ (hw _ (List.mem_of_getElem? (i := 43) rfl))) (own_selP (y := (⟨"kasane/util/LongLongMap", "capacity", "()I"⟩ : MethodName)) (y' := (⟨"kasane/util/LongLongMap", "isEmpty", "()Z"⟩ : MethodName)) (mvT hZ (hw _ (List.mem_of_getElem? (i := 19) rfl))) rfl (Cond.privateMethod_at (mvP hZ (hw _ (List.mem_of_getElem? (i := 44) rfl)) (args := #[]))) (mvT hZ (hw _ (List.mem_of_getElem? (i := 43) rfl))) (by decide)) (Cond.privateMethod_at (mvP hZ (hw _ (List.mem_of_getElem? (i := 44) rfl)) (args := #[]))) (mvT hZ (hw _ (List.mem_of_getElem? (i := 45) rfl))) (by decide) (backOf (W := 1) (rmCa l Z a0 hw [] a t kt ((ks.set (((2 : Int32) * i)).toNatClampNeg k).set ((((2 : Int32) * i) + (1 : Int32))).toNatClampNeg v) h_64 n0 z_64 f_67 f_68) hZ (hw _ (List.mem_of_getElem? (i := 45) rfl)) (hw _ (List.mem_of_getElem? (i := 2) rfl)) (by decide) (by decide)) (g := (mkF m 140 #[.val (.ref a), .val (.long k), .second, .val (.long v), .second, .val (.int i)] [(.ref a), (.int ((2 : Int32) * (n + (1 : Int32))))])) rfl (by rw [hml]; rfl) (Steps.refl _) (a := a) (by rw [e_65]; exact q_66) q_66' (argsL := []) (rest := [(.int ((2 : Int32) * (n + (1 : Int32))))]) (lenOf pd_2 rfl) rfl (by show 2 * 0 + _ ≤ _; exact Nat.le_of_eq rfl) (hb hby d6_140) (fun _ _ => ⟨rfl, e_65, (by decide : 0 + 0 ≤ _), (by decide : 0 + 0 ≤ _)⟩)
          dsimp only [Pt.U, Pt.locs, Pt.cells, Pt.slots] at X_66 l_66 y_66 z_66 st_66 hQ_66
          subst l_66 y_66 z_66
          obtain ⟨h_66, e_66⟩ : ∃ hh, T_66.heap = hh := ⟨_, rfl⟩
          rw [e_66] at hQ_66
          obtain ⟨rfl, N_66q, sm_66⟩ := hQ_66
          have N_66 := Fr.app N_64 N_66q
          refine Go.st (fun _ kk => st_66.trans kk) ?_
          rw [sm_66] at e_66
          show Go p e below s _ _ _ T_66 (mkF m 143 #[.val (.ref a), .val (.long k), .second, .val (.long v), .second, .val (.int i)] [(.int (8 : Int32)), (.int ((2 : Int32) * (n + (1 : Int32))))])
          refine Go.st (fun _ => XS.icmpYes X_66.here hx rfl (pc0 := 143) (pc' := 161) rfl (hb hby d6_143) rfl (flt (own_small hinv hn2 : ¬ ((8 : Int32) < ((2 : Int32) * (n + (1 : Int32)))))).2.2.2 (by decide) (by decide)) ?_
          show Go p e below s _ _ _ T_66 (mkF m 161 #[.val (.ref a), .val (.long k), .second, .val (.long v), .second, .val (.int i)] [])
          have f_70 := (((F_holdsFree_a.other W_55 (Or.inl ne_a_t)).other W_59 (Or.inl ne_a_t)).other W_64 (Or.inr (slot_ne (Or.inl (hw _ (List.mem_of_getElem? (i := 35) rfl))) (Or.inl (hw _ (List.mem_of_getElem? (i := 22) rfl))) (by decide) (t := .boolean) (t' := .int) (by decide) (by decide))))
          have f_71 := (((F_freeValue_a.other W_55 (Or.inl ne_a_t)).other W_59 (Or.inl ne_a_t)).other W_64 (Or.inr (slot_ne (Or.inl (hw _ (List.mem_of_getElem? (i := 37) rfl))) (Or.inl (hw _ (List.mem_of_getElem? (i := 22) rfl))) (by decide) (t := .long) (t' := .int) (by decide) (by decide))))
          exact Go.ret0 X_66 hx hlk Bd.returns (hb hby d6_161) (by rw [e_66]; exact ⟨((ks.set (((2 : Int32) * i)).toNatClampNeg k).set ((((2 : Int32) * i) + (1 : Int32))).toNatClampNeg v), (n + (1 : Int32)), f, r, rfl, N_66, K_64, f_69, f_67, Fw_64, f_70, f_71, f_68, (own_tA hinv hn2 hi hc_53 hc_1), (own_tB hinv hn2)⟩) (by decide) (by decide)
        · refine Go.st (fun _ => XS.ifNo X_51.here hx rfl (hb hby d6_60) rfl ((if0 _ _).trans (feq (fun qq => hc_53 ((lw_eq (ks.getD (2 * i.toInt.toNat) (0 : Int64)) (-9223372036854775808 : Int64)).mp qq))).1)) ?_
          show Go p e below s _ _ _ T_51 (mkF m 63 #[.val (.ref a), .val (.long k), .second, .val (.long v), .second, .val (.int i)] [])
          refine Go.st (fun _ => XS.aloadN X_51.here hx rfl (hb hby d6_63) rfl rfl) ?_
          show Go p e below s _ _ _ T_51 (mkF m 64 #[.val (.ref a), .val (.long k), .second, .val (.long v), .second, .val (.int i)] [(.ref a)])
          obtain ⟨T_72, X_72, e_72, st_72⟩ := getF X_51 hx hZ hown (host := "") (Or.inl (hw _ (List.mem_of_getElem? (i := 14) rfl))) Via.refl e_51 F_places_a (g := (mkF m 64 #[.val (.ref a), .val (.long k), .second, .val (.long v), .second, .val (.int i)] [(.ref a)])) rfl rfl (hb hby d6_64)
          refine Go.st st_72 ?_
          show Go p e below s _ _ _ T_72 (mkF m 67 #[.val (.ref a), .val (.long k), .second, .val (.long v), .second, .val (.int i)] [(.ref t)])
          refine Go.st (fun _ => XS.iconst X_72.here hx rfl (hb hby d6_67)) ?_
          show Go p e below s _ _ _ T_72 (mkF m 68 #[.val (.ref a), .val (.long k), .second, .val (.long v), .second, .val (.int i)] [(.int (2 : Int32)), (.ref t)])
          refine Go.st (fun _ => XS.iload X_72.here hx rfl (hb hby d6_68) rfl) ?_
          show Go p e below s _ _ _ T_72 (mkF m 70 #[.val (.ref a), .val (.long k), .second, .val (.long v), .second, .val (.int i)] [(.int i), (.int (2 : Int32)), (.ref t)])
          refine Go.st (fun _ => XS.imul X_72.here hx rfl (hb hby d6_70) rfl) ?_
          show Go p e below s _ _ _ T_72 (mkF m 71 #[.val (.ref a), .val (.long k), .second, .val (.long v), .second, .val (.int i)] [(.int ((2 : Int32) * i)), (.ref t)])
          obtain ⟨cl_73, Ar_73, q_73, S_73, M_73, H_73, G_73⟩ := id V_t
          have hin_73 : ¬ (((2 : Int32) * i) < 0 ∨ cl_73.slots.size ≤ (((2 : Int32) * i)).toNatClampNeg) := inb_of S_73 (own_2i hi)
          have hat_73 : cl_73.slots[(((2 : Int32) * i)).toNatClampNeg]? = some (.long (ks.getD (2 * i.toInt.toNat) (0 : Int64))) := H_73.at hin_73 (own_get hi)
          refine Go.st (fun tG => X_72.laload hx (j := ((2 : Int32) * i)) (v := (.long (ks.getD (2 * i.toInt.toNat) (0 : Int64)))) (by rw [e_72]; exact Ar_73.1) (State.isArrayOf_alike hZ.alike Ar_73.2.1) Ar_73.2.2 hin_73 hat_73 (g := (mkF m 71 #[.val (.ref a), .val (.long k), .second, .val (.long v), .second, .val (.int i)] [(.int ((2 : Int32) * i)), (.ref t)])) rfl rfl (hb hby d6_71) tG) ?_
          show Go p e below s _ _ _ T_72 (mkF m 72 #[.val (.ref a), .val (.long k), .second, .val (.long v), .second, .val (.int i)] [(.long (ks.getD (2 * i.toInt.toNat) (0 : Int64)))])
          refine Go.st (fun _ => XS.lloadN X_72.here hx rfl (hb hby d6_72) rfl) ?_
          show Go p e below s _ _ _ T_72 (mkF m 73 #[.val (.ref a), .val (.long k), .second, .val (.long v), .second, .val (.int i)] [(.long k), (.long (ks.getD (2 * i.toInt.toNat) (0 : Int64)))])
          refine Go.st (fun _ => XS.lcmp X_72.here hx rfl (hb hby d6_73) rfl) ?_
          show Go p e below s _ _ _ T_72 (mkF m 74 #[.val (.ref a), .val (.long k), .second, .val (.long v), .second, .val (.int i)] [(.int (lcmpW (ks.getD (2 * i.toInt.toNat) (0 : Int64)) k))])
          by_cases hc_74 : (ks.getD (2 * i.toInt.toNat) (0 : Int64)) = k
          · refine Go.st (fun _ => XS.ifNo X_72.here hx rfl (hb hby d6_74) rfl ((if0 _ _).trans (teq ((lw_eq (ks.getD (2 * i.toInt.toNat) (0 : Int64)) k).mpr hc_74)).2)) ?_
            show Go p e below s _ _ _ T_72 (mkF m 77 #[.val (.ref a), .val (.long k), .second, .val (.long v), .second, .val (.int i)] [])
            refine Go.st (fun _ => XS.aloadN X_72.here hx rfl (hb hby d6_77) rfl rfl) ?_
            show Go p e below s _ _ _ T_72 (mkF m 78 #[.val (.ref a), .val (.long k), .second, .val (.long v), .second, .val (.int i)] [(.ref a)])
            obtain ⟨T_75, X_75, e_75, st_75⟩ := getF X_72 hx hZ hown (host := "") (Or.inl (hw _ (List.mem_of_getElem? (i := 14) rfl))) Via.refl e_72 F_places_a (g := (mkF m 78 #[.val (.ref a), .val (.long k), .second, .val (.long v), .second, .val (.int i)] [(.ref a)])) rfl rfl (hb hby d6_78)
            refine Go.st st_75 ?_
            show Go p e below s _ _ _ T_75 (mkF m 81 #[.val (.ref a), .val (.long k), .second, .val (.long v), .second, .val (.int i)] [(.ref t)])
            refine Go.st (fun _ => XS.iconst X_75.here hx rfl (hb hby d6_81)) ?_
            show Go p e below s _ _ _ T_75 (mkF m 82 #[.val (.ref a), .val (.long k), .second, .val (.long v), .second, .val (.int i)] [(.int (2 : Int32)), (.ref t)])
            refine Go.st (fun _ => XS.iload X_75.here hx rfl (hb hby d6_82) rfl) ?_
            show Go p e below s _ _ _ T_75 (mkF m 84 #[.val (.ref a), .val (.long k), .second, .val (.long v), .second, .val (.int i)] [(.int i), (.int (2 : Int32)), (.ref t)])
            refine Go.st (fun _ => XS.imul X_75.here hx rfl (hb hby d6_84) rfl) ?_
            show Go p e below s _ _ _ T_75 (mkF m 85 #[.val (.ref a), .val (.long k), .second, .val (.long v), .second, .val (.int i)] [(.int ((2 : Int32) * i)), (.ref t)])
            refine Go.st (fun _ => XS.iconst X_75.here hx rfl (hb hby d6_85)) ?_
            show Go p e below s _ _ _ T_75 (mkF m 86 #[.val (.ref a), .val (.long k), .second, .val (.long v), .second, .val (.int i)] [(.int (1 : Int32)), (.int ((2 : Int32) * i)), (.ref t)])
            refine Go.st (fun _ => XS.iadd X_75.here hx rfl (hb hby d6_86) rfl) ?_
            show Go p e below s _ _ _ T_75 (mkF m 87 #[.val (.ref a), .val (.long k), .second, .val (.long v), .second, .val (.int i)] [(.int (((2 : Int32) * i) + (1 : Int32))), (.ref t)])
            refine Go.st (fun _ => XS.lloadN X_75.here hx rfl (hb hby d6_87) rfl) ?_
            show Go p e below s _ _ _ T_75 (mkF m 88 #[.val (.ref a), .val (.long k), .second, .val (.long v), .second, .val (.int i)] [(.long v), (.int (((2 : Int32) * i) + (1 : Int32))), (.ref t)])
            obtain ⟨cl_76, Ar_76, q_76, S_76, M_76, H_76, G_76⟩ := id V_t
            have hin_76 : ¬ ((((2 : Int32) * i) + (1 : Int32)) < 0 ∨ cl_76.slots.size ≤ ((((2 : Int32) * i) + (1 : Int32))).toNatClampNeg) := inb_of S_76 (own_2i1 hi)
            obtain ⟨T_76, h_76, X_76, e_76, W_76, st_76⟩ := stJ X_75 hx hZ e_75 Ar_76 (j := (((2 : Int32) * i) + (1 : Int32))) hin_76 (g := (mkF m 88 #[.val (.ref a), .val (.long k), .second, .val (.long v), .second, .val (.int i)] [(.long v), (.int (((2 : Int32) * i) + (1 : Int32))), (.ref t)])) rfl rfl (hb hby d6_88)
            refine Go.st st_76 ?_
            have V_76 : Arv Z h_76 t kt .long (16 : Int32) ((ks.map Value.long).set ((((2 : Int32) * i) + (1 : Int32))).toNatClampNeg (.long v)) (.long (0 : Int64)) := Arv.set Ar_76 q_76 S_76 M_76 H_76 G_76 rfl W_76 ((((2 : Int32) * i) + (1 : Int32))).toNatClampNeg rfl (own_lt21 hi (by simp [hinv.1]))
            have N_76 := Fr.snoc X_76 NL g_t
            have K_76 : Keep h0 h_76 [a, t] := (Keep.refl h0 [a, t]).wr W_76 (Or.inl (List.mem_of_getElem? (i := 1) rfl))
            have z_76 : n0 ≤ h_76.size := Nat.le_trans Z0 (Nat.le_of_eq W_76.size.symm)
            show Go p e below s _ _ _ T_76 (mkF m 89 #[.val (.ref a), .val (.long k), .second, .val (.long v), .second, .val (.int i)] [])
            have vm_77 : Arv Z h_76 t kt .long (16 : Int32) ((ks.set ((((2 : Int32) * i) + (1 : Int32))).toNatClampNeg v).map Value.long) (.long (0 : Int64)) := by rw [own_ms]; exact V_76
            have f_78 := (E_a.wr W_76)
            have f_79 := (F_places_a.other W_76 (Or.inl ne_a_t))
            have f_80 := (F_size_a.other W_76 (Or.inl ne_a_t))
            have f_81 := (F_holdsFree_a.other W_76 (Or.inl ne_a_t))
            have f_82 := (F_freeValue_a.other W_76 (Or.inl ne_a_t))
            exact Go.ret0 X_76 hx hlk Bd.returns (hb hby d6_89) (by rw [e_76]; exact ⟨(ks.set ((((2 : Int32) * i) + (1 : Int32))).toNatClampNeg v), n, f, r, rfl, N_76, K_76, f_78, f_79, f_80, f_81, f_82, vm_77, (own_sA hinv hi), (own_sB hinv hi hc_53)⟩) (by decide) (by decide)
          · refine Go.st (fun _ => XS.ifYes X_72.here hx rfl (pc0 := 74) (pc' := 90) rfl (hb hby d6_74) rfl ((if0 _ _).trans (feq (fun qq => hc_74 ((lw_eq (ks.getD (2 * i.toInt.toNat) (0 : Int64)) k).mp qq))).2) (by decide) (by decide)) ?_
            show Go p e below s _ _ _ T_72 (mkF m 90 #[.val (.ref a), .val (.long k), .second, .val (.long v), .second, .val (.int i)] [])
            refine Go.st (fun _ => XS.aloadN X_72.here hx rfl (hb hby d6_90) rfl rfl) ?_
            show Go p e below s _ _ _ T_72 (mkF m 91 #[.val (.ref a), .val (.long k), .second, .val (.long v), .second, .val (.int i)] [(.ref a)])
            refine Go.st (fun _ => XS.iload X_72.here hx rfl (hb hby d6_91) rfl) ?_
            show Go p e below s _ _ _ T_72 (mkF m 93 #[.val (.ref a), .val (.long k), .second, .val (.long v), .second, .val (.int i)] [(.int i), (.ref a)])
            obtain ⟨cq_83, q_83, q_83'⟩ := E_a.cell
            obtain ⟨_, _, ⟨T_83, L_83, kc_83, nc_83⟩, -, X_83, ⟨Lc_83, hQ_83, l_83, y_83, z_83⟩, st_83⟩ := X_72.privateBack hx (y := (⟨"kasane/util/LongLongMap", "next", "(I)I"⟩ : MethodName)) hown (mvT hZ (hw _ (List.mem_of_getElem? (i := 56) rfl))) (mvT hZ (hw _ (List.mem_of_getElem? (i := 57) rfl))) (own_selP (y := (⟨"kasane/util/LongLongMap", "next", "(I)I"⟩ : MethodName)) (y' := (⟨"kasane/util/LongLongMap", "isEmpty", "()Z"⟩ : MethodName)) (mvT hZ (hw _ (List.mem_of_getElem? (i := 19) rfl))) rfl (Cond.privateMethod_at (mvP hZ (hw _ (List.mem_of_getElem? (i := 58) rfl)) (args := #[]))) (mvT hZ (hw _ (List.mem_of_getElem? (i := 57) rfl))) (by decide)) (Cond.privateMethod_at (mvP hZ (hw _ (List.mem_of_getElem? (i := 58) rfl)) (args := #[]))) (mvT hZ (hw _ (List.mem_of_getElem? (i := 59) rfl))) (by decide) (backOf (W := 0) (rmNx l Z a0 hw [] a i t kt ks h0 n0 Z0 E_a F_places_a V_t) hZ (hw _ (List.mem_of_getElem? (i := 59) rfl)) (hw _ (List.mem_of_getElem? (i := 2) rfl)) (by decide) (by decide)) (g := (mkF m 93 #[.val (.ref a), .val (.long k), .second, .val (.long v), .second, .val (.int i)] [(.int i), (.ref a)])) rfl (by rw [hml]; rfl) (Steps.refl _) (a := a) (by rw [e_72]; exact q_83) q_83' (argsL := [(.int i)]) (rest := []) (lenOf pd_1 rfl) rfl (by show 2 * 0 + _ ≤ _; exact Nat.le_of_eq rfl) (hb hby d6_93) (fun _ _ => ⟨rfl, e_72, (by decide : 0 + 0 ≤ _), (by decide : 0 + 0 ≤ _)⟩)
            dsimp only [Pt.U, Pt.locs, Pt.cells, Pt.slots] at X_83 l_83 y_83 z_83 st_83 hQ_83
            subst l_83 y_83 z_83
            obtain ⟨h_83, e_83⟩ : ∃ hh, T_83.heap = hh := ⟨_, rfl⟩
            rw [e_83] at hQ_83
            obtain ⟨rfl, N_83q, sm_83⟩ := hQ_83
            have N_83 := Fr.app NL N_83q
            refine Go.st (fun _ kk => st_83.trans kk) ?_
            rw [sm_83] at e_83
            show Go p e below s _ _ _ T_83 (mkF m 96 #[.val (.ref a), .val (.long k), .second, .val (.long v), .second, .val (.int i)] [(.int ((i + (1 : Int32)) &&& (7 : Int32)))])
            refine Go.st (fun _ => XS.istore X_83.here hx rfl (hb hby d6_96) rfl (l' := #[.val (.ref a), .val (.long k), .second, .val (.long v), .second, .val (.int ((i + (1 : Int32)) &&& (7 : Int32)))]) rfl) ?_
            show Go p e below s _ _ _ T_83 (mkF m 98 #[.val (.ref a), .val (.long k), .second, .val (.long v), .second, .val (.int ((i + (1 : Int32)) &&& (7 : Int32)))] [])
            refine Go.st (fun _ => XS.goto X_83.here hx rfl (pc0 := 98) (pc' := 47) rfl (hb hby d6_98) (by decide) (by decide)) ?_
            show Go p e below s _ _ _ T_83 (mkF m 47 #[.val (.ref a), .val (.long k), .second, .val (.long v), .second, .val (.int ((i + (1 : Int32)) &&& (7 : Int32)))] [])
            exact ih T_83 _ X_83 e_83 N_83 _ (own_nx hi) (own_nxd hi hd)
    obtain ⟨d, hd⟩ := own_free hinv hn2 (own_slot k)
    exact loop d T_29 _ X_29 e_29 N_29 _ (own_slr k) hd
theorem pd_5 : parseMethodDescriptor "()V" = some ⟨[], none⟩ := by decide +kernel
theorem pd_6 : parseMethodDescriptor "()Z" = some ⟨[], some .boolean⟩ := by decide +kernel
theorem pd_7 : parseMethodDescriptor "(JJ)V" = some ⟨[.long, .long], none⟩ := by decide +kernel
theorem pn_3 : plainName "kasane/util/LongLongMapIsEmptyPinLaw" = true := by first | (simp [plainName, overriddenIn]; done) | decide +kernel
theorem ef_rm0 (m : MethodId) (nx : Int32) (fx : Int32) (k1 : Int64) (v1 : Int64) (k2 : Int64) (v2 : Int64) : entryFrame m #[(.int nx), (.int fx), (.long k1), (.long v1), (.long k2), (.long v2)] maxLocals = mkF m 0 #[.val (.int nx), .val (.int fx), .val (.long k1), .second, .val (.long v1), .second, .val (.long k2), .second, .val (.long v2), .second, .unset, .unset, .unset, .unset, .unset, .unset, .unset, .unset] [] := by first | (simp [entryFrame, mkF, argsToLocals, Value.category, maxLocals]; done) | rfl
def Qrm0 (Z : State) (nx : Int32) (fx : Int32) (k1 : Int64) (v1 : Int64) (k2 : Int64) (v2 : Int64) (h0 : Heap) (n0 : Nat) (rV : Option Value) (hE : Heap) (LE : List Loc) : Prop := rV = some (.int (1 : Int32)) ∧ Fr n0 LE
set_option maxRecDepth 65536 in
set_option maxHeartbeats 40000000 in
theorem rm0 (l : Launch) (Z : State) (a0 : Array Value) (hw : ∀ d ∈ tables_1, d.before a0 Z = true) (ws : List Jvm.Cond) (nx : Int32) (fx : Int32) (k1 : Int64) (v1 : Int64) (k2 : Int64) (v2 : Int64) (h0 : Heap) (n0 : Nat) (Z0 : n0 ≤ h0.size) :
    MetFree l x (head1 (Jvm.Cond.code x code maxLocals ret :: ws) room_1) (fun aA UA => aA = #[(.int nx), (.int fx), (.long k1), (.long v1), (.long k2), (.long v2)] ∧ Z.Warmed39 UA.vm ∧ UA.heap = h0) (fun _ _ _ _ _ => True) (fun _ UA oA UB => ∃ rV LE, oA = .returned rV ∧ Qrm0 Z nx fx k1 v1 k2 v2 h0 n0 rV UB.heap LE ∧ FrameEnd UA oA UB LE room_1.cells room_1.slots) := by
  refine MetFree.of_bodySF (plainFor_of_name pn_3) hisR ?_
  intro p e s m args below meth c s₁ Bd hml0 hP hK
  obtain ⟨rfl, hZ, hh⟩ := hP
  have hx := Bd.exec
  have hby := Bd.bytes
  have hml : c.maxLocals = 18 := hml0
  have hown : s.vm.findClass "kasane/util/LongLongMapIsEmptyPinLaw" = some m.cls := findClass_of_methodNamed Bd.named
  have hnm := (name_of_methodNamed Bd.named Bd.method).1
  have hlk := Bd.notSynchronized
  have X0 : Stand p l e room_1 s m #[(.int nx), (.int fx), (.long k1), (.long v1), (.long k2), (.long v2)] below meth c s₁ [] 0 0 := Stand.of_body Bd
  have e0 : s₁.heap = h0 := by rw [← hh, Bd.state]; rfl
  have N0 := Fr.nil n0
  show Go p e below s (Qrm0 Z nx fx k1 v1 k2 v2 h0 n0) room_1.cells room_1.slots s₁ (entryFrame m #[(.int nx), (.int fx), (.long k1), (.long v1), (.long k2), (.long v2)] maxLocals)
  refine Go.eq (ef_rm0 m nx fx k1 v1 k2 v2) ?_
  show Go p e below s _ _ _ s₁ (mkF m 0 #[.val (.int nx), .val (.int fx), .val (.long k1), .second, .val (.long v1), .second, .val (.long k2), .second, .val (.long v2), .second, .unset, .unset, .unset, .unset, .unset, .unset, .unset, .unset] [])
  obtain ⟨T_1, h_1, X_1, e_1, E_1, A_1, D_1, -, st_1⟩ := newO X0 hx hZ hown (hw _ (List.mem_of_getElem? (i := 0) rfl)) (hw _ (List.mem_of_getElem? (i := 1) rfl)) (hw _ (List.mem_of_getElem? (i := 2) rfl)) e0 (g := (mkF m 0 #[.val (.int nx), .val (.int fx), .val (.long k1), .second, .val (.long v1), .second, .val (.long k2), .second, .val (.long v2), .second, .unset, .unset, .unset, .unset, .unset, .unset, .unset, .unset] [])) rfl (hb hby at_0) (by decide) (by decide)
  obtain ⟨b_1, g_1⟩ : ∃ z, z = h0.size := ⟨_, rfl⟩
  rw [← g_1] at A_1 D_1 st_1
  refine Go.st st_1 ?_
  have gg_1 : n0 ≤ b_1 := Nat.le_trans Z0 (Nat.le_of_eq g_1.symm)
  have z_1 : n0 ≤ h_1.size := Nat.le_trans Z0 E_1.1
  have F_places_b_1 : Fld Z h_1 b_1 "kasane/util/LongLongMap" "places" "[J" .null := D_1 (Or.inl (hw _ (List.mem_of_getElem? (i := 15) rfl))) (ty := (.array .long)) (by decide)
  have F_size_b_1 : Fld Z h_1 b_1 "kasane/util/LongLongMap" "size" "I" (.int (0 : Int32)) := D_1 (Or.inl (hw _ (List.mem_of_getElem? (i := 22) rfl))) (ty := .int) (by decide)
  have F_holdsFree_b_1 : Fld Z h_1 b_1 "kasane/util/LongLongMap" "holdsFree" "Z" (.int (0 : Int32)) := D_1 (Or.inl (hw _ (List.mem_of_getElem? (i := 35) rfl))) (ty := .boolean) (by decide)
  have F_freeValue_b_1 : Fld Z h_1 b_1 "kasane/util/LongLongMap" "freeValue" "J" (.long (0 : Int64)) := D_1 (Or.inl (hw _ (List.mem_of_getElem? (i := 37) rfl))) (ty := .long) (by decide)
  show Go p e below s _ _ _ T_1 (mkF m 3 #[.val (.int nx), .val (.int fx), .val (.long k1), .second, .val (.long v1), .second, .val (.long k2), .second, .val (.long v2), .second, .unset, .unset, .unset, .unset, .unset, .unset, .unset, .unset] [(.ref b_1)])
  refine Go.st (fun _ => XS.dup X_1.here hx rfl (hb hby at_3) rfl rfl) ?_
  show Go p e below s _ _ _ T_1 (mkF m 4 #[.val (.int nx), .val (.int fx), .val (.long k1), .second, .val (.long v1), .second, .val (.long k2), .second, .val (.long v2), .second, .unset, .unset, .unset, .unset, .unset, .unset, .unset, .unset] [(.ref b_1), (.ref b_1)])
  obtain ⟨_, _, ⟨T_2, L_2, kc_2, nc_2⟩, -, X_2, ⟨Lc_2, hQ_2, l_2, y_2, z_2⟩, st_2⟩ := X_1.specialBack hx (y := (⟨"kasane/util/LongLongMap", "<init>", "()V"⟩ : MethodName)) rfl hown (mvT hZ (hw _ (List.mem_of_getElem? (i := 3) rfl))) (mvT hZ (hw _ (List.mem_of_getElem? (i := 4) rfl))) (mvT hZ (hw _ (List.mem_of_getElem? (i := 5) rfl))) (by decide) (backOf (W := 1) (rmIn l Z a0 hw [] b_1 h_1 n0 z_1 A_1 F_places_b_1 F_size_b_1 F_holdsFree_b_1 F_freeValue_b_1 gg_1) hZ (hw _ (List.mem_of_getElem? (i := 5) rfl)) (hw _ (List.mem_of_getElem? (i := 2) rfl)) (by decide) (by decide)) (g := (mkF m 4 #[.val (.int nx), .val (.int fx), .val (.long k1), .second, .val (.long v1), .second, .val (.long k2), .second, .val (.long v2), .second, .unset, .unset, .unset, .unset, .unset, .unset, .unset, .unset] [(.ref b_1), (.ref b_1)])) rfl (by rw [hml]; rfl) (Steps.refl _) (a := b_1) (argsL := []) (rest := [(.ref b_1)]) (lenOf pd_5 rfl) rfl (by show 2 * 0 + _ ≤ _; exact Nat.le_of_eq rfl) (hb hby at_4) (fun _ _ => ⟨rfl, e_1, (by decide : 1 + 1 ≤ _), (by decide : 4 + 16 ≤ _)⟩)
  dsimp only [Pt.U, Pt.locs, Pt.cells, Pt.slots] at X_2 l_2 y_2 z_2 st_2 hQ_2
  subst l_2 y_2 z_2
  obtain ⟨h_2, e_2⟩ : ∃ hh, T_2.heap = hh := ⟨_, rfl⟩
  rw [e_2] at hQ_2
  obtain ⟨t__2, kt__2, rfl, N_2q, K_2, p_2_0, p_2_1, p_2_2, p_2_3, p_2_4, p_2_5, p_2_6, p_2_7⟩ := hQ_2
  have N_2 := Fr.app N0 N_2q
  refine Go.st (fun _ kk => st_2.trans kk) ?_
  have ne_b_1_t__2 : b_1 ≠ t__2 := Nat.ne_of_lt (Nat.lt_of_lt_of_le A_1.lt p_2_0)
  have z_2q : n0 ≤ h_2.size := Nat.le_trans z_1 K_2.1
  show Go p e below s _ _ _ T_2 (mkF m 7 #[.val (.int nx), .val (.int fx), .val (.long k1), .second, .val (.long v1), .second, .val (.long k2), .second, .val (.long v2), .second, .unset, .unset, .unset, .unset, .unset, .unset, .unset, .unset] [(.ref b_1)])
  have vm0 : Arv Z h_2 t__2 kt__2 .long (16 : Int32) ([(-9223372036854775808 : Int64), (0 : Int64), (-9223372036854775808 : Int64), (0 : Int64), (-9223372036854775808 : Int64), (0 : Int64), (-9223372036854775808 : Int64), (0 : Int64), (-9223372036854775808 : Int64), (0 : Int64), (-9223372036854775808 : Int64), (0 : Int64), (-9223372036854775808 : Int64), (0 : Int64), (-9223372036854775808 : Int64), (0 : Int64)].map Value.long) (.long (0 : Int64)) := p_2_7
  refine Go.st (fun _ => XS.astore X_2.here hx rfl (hb hby at_7) rfl rfl (l' := #[.val (.int nx), .val (.int fx), .val (.long k1), .second, .val (.long v1), .second, .val (.long k2), .second, .val (.long v2), .second, .val (.ref b_1), .unset, .unset, .unset, .unset, .unset, .unset, .unset]) rfl) ?_
  show Go p e below s _ _ _ T_2 (mkF m 9 #[.val (.int nx), .val (.int fx), .val (.long k1), .second, .val (.long v1), .second, .val (.long k2), .second, .val (.long v2), .second, .val (.ref b_1), .unset, .unset, .unset, .unset, .unset, .unset, .unset] [])
  refine Go.st (fun _ => XS.aload X_2.here hx rfl (hb hby at_9) rfl rfl) ?_
  show Go p e below s _ _ _ T_2 (mkF m 11 #[.val (.int nx), .val (.int fx), .val (.long k1), .second, .val (.long v1), .second, .val (.long k2), .second, .val (.long v2), .second, .val (.ref b_1), .unset, .unset, .unset, .unset, .unset, .unset, .unset] [(.ref b_1)])
  obtain ⟨cq_3, kq_3, q_3a, q_3b, q_3c⟩ := isOf hZ e_2 p_2_2
  obtain ⟨_, _, ⟨T_3, L_3, kc_3, nc_3⟩, -, X_3, ⟨Lc_3, hQ_3, l_3, y_3, z_3⟩, st_3⟩ := X_2.virtualBack hx (y := (⟨"kasane/util/LongLongMap", "isEmpty", "()Z"⟩ : MethodName)) (z := (⟨"kasane/util/LongLongMap", "isEmpty", "()Z"⟩ : MethodName)) hown (mvT hZ (hw _ (List.mem_of_getElem? (i := 16) rfl))) (mvT hZ (hw _ (List.mem_of_getElem? (i := 17) rfl))) (notFace_of_selects (args := #[]) (mvT hZ (hw _ (List.mem_of_getElem? (i := 19) rfl)))) (mvT hZ (hw _ (List.mem_of_getElem? (i := 19) rfl))) (mvT hZ (hw _ (List.mem_of_getElem? (i := 18) rfl))) (by decide) (backOf (W := 0) (rmEm l Z a0 hw [] b_1 (0 : Int32) h_2 n0 z_2q p_2_4) hZ (hw _ (List.mem_of_getElem? (i := 20) rfl)) (hw _ (List.mem_of_getElem? (i := 2) rfl)) (by decide) (by decide)) q_3a q_3c (g := (mkF m 11 #[.val (.int nx), .val (.int fx), .val (.long k1), .second, .val (.long v1), .second, .val (.long k2), .second, .val (.long v2), .second, .val (.ref b_1), .unset, .unset, .unset, .unset, .unset, .unset, .unset] [(.ref b_1)])) rfl (by rw [hml]; rfl) (Steps.refl _) (argsL := []) (rest := []) (lenOf pd_6 rfl) rfl (by show 2 * 0 + _ ≤ _; exact Nat.le_of_eq rfl) (hb hby at_11) (fun _ _ => ⟨rfl, e_2, (by decide : 2 + 0 ≤ _), (by decide : 20 + 0 ≤ _)⟩)
  dsimp only [Pt.U, Pt.locs, Pt.cells, Pt.slots] at X_3 l_3 y_3 z_3 st_3 hQ_3
  subst l_3 y_3 z_3
  obtain ⟨h_3, e_3⟩ : ∃ hh, T_3.heap = hh := ⟨_, rfl⟩
  rw [e_3] at hQ_3
  obtain ⟨rfl, N_3q, sm_3⟩ := hQ_3
  have N_3 := Fr.app N_2 N_3q
  refine Go.st (fun _ kk => st_3.trans kk) ?_
  rw [sm_3] at e_3
  show Go p e below s _ _ _ T_3 (mkF m 14 #[.val (.int nx), .val (.int fx), .val (.long k1), .second, .val (.long v1), .second, .val (.long k2), .second, .val (.long v2), .second, .val (.ref b_1), .unset, .unset, .unset, .unset, .unset, .unset, .unset] [(.int (b2i ((0 : Int32) = (0 : Int32))))])
  rw [show (b2i ((0 : Int32) = (0 : Int32))) = (1 : Int32) from b2i_pos (by decide : (0 : Int32) = (0 : Int32))]
  show Go p e below s _ _ _ T_3 (mkF m 14 #[.val (.int nx), .val (.int fx), .val (.long k1), .second, .val (.long v1), .second, .val (.long k2), .second, .val (.long v2), .second, .val (.ref b_1), .unset, .unset, .unset, .unset, .unset, .unset, .unset] [(.int (1 : Int32))])
  refine Go.st (fun _ => XS.istore X_3.here hx rfl (hb hby at_14) rfl (l' := #[.val (.int nx), .val (.int fx), .val (.long k1), .second, .val (.long v1), .second, .val (.long k2), .second, .val (.long v2), .second, .val (.ref b_1), .val (.int (1 : Int32)), .unset, .unset, .unset, .unset, .unset, .unset]) rfl) ?_
  show Go p e below s _ _ _ T_3 (mkF m 16 #[.val (.int nx), .val (.int fx), .val (.long k1), .second, .val (.long v1), .second, .val (.long k2), .second, .val (.long v2), .second, .val (.ref b_1), .val (.int (1 : Int32)), .unset, .unset, .unset, .unset, .unset, .unset] [])
  refine Go.st (fun _ => XS.iloadN X_3.here hx rfl (hb hby at_16) rfl) ?_
  show Go p e below s _ _ _ T_3 (mkF m 17 #[.val (.int nx), .val (.int fx), .val (.long k1), .second, .val (.long v1), .second, .val (.long k2), .second, .val (.long v2), .second, .val (.ref b_1), .val (.int (1 : Int32)), .unset, .unset, .unset, .unset, .unset, .unset] [(.int fx)])
  refine Go.st (fun _ => XS.iconst X_3.here hx rfl (hb hby at_17)) ?_
  show Go p e below s _ _ _ T_3 (mkF m 18 #[.val (.int nx), .val (.int fx), .val (.long k1), .second, .val (.long v1), .second, .val (.long k2), .second, .val (.long v2), .second, .val (.ref b_1), .val (.int (1 : Int32)), .unset, .unset, .unset, .unset, .unset, .unset] [(.int (1 : Int32)), (.int fx)])
  refine Go.st (fun _ => XS.iand X_3.here hx rfl (hb hby at_18) rfl) ?_
  show Go p e below s _ _ _ T_3 (mkF m 19 #[.val (.int nx), .val (.int fx), .val (.long k1), .second, .val (.long v1), .second, .val (.long k2), .second, .val (.long v2), .second, .val (.ref b_1), .val (.int (1 : Int32)), .unset, .unset, .unset, .unset, .unset, .unset] [(.int (fx &&& (1 : Int32)))])
  by_cases hc_4 : (fx &&& (1 : Int32)) = (0 : Int32)
  · refine Go.st (fun _ => XS.ifYes X_3.here hx rfl (pc0 := 19) (pc' := 28) rfl (hb hby at_19) rfl ((if0 _ _).trans (teq hc_4).1) (by decide) (by decide)) ?_
    show Go p e below s _ _ _ T_3 (mkF m 28 #[.val (.int nx), .val (.int fx), .val (.long k1), .second, .val (.long v1), .second, .val (.long k2), .second, .val (.long v2), .second, .val (.ref b_1), .val (.int (1 : Int32)), .unset, .unset, .unset, .unset, .unset, .unset] [])
    refine Go.st (fun _ => XS.lloadN X_3.here hx rfl (hb hby at_28) rfl) ?_
    show Go p e below s _ _ _ T_3 (mkF m 29 #[.val (.int nx), .val (.int fx), .val (.long k1), .second, .val (.long v1), .second, .val (.long k2), .second, .val (.long v2), .second, .val (.ref b_1), .val (.int (1 : Int32)), .unset, .unset, .unset, .unset, .unset, .unset] [(.long k1)])
    refine Go.st (fun _ => XS.lstore X_3.here hx rfl (hb hby at_29) rfl (l' := #[.val (.int nx), .val (.int fx), .val (.long k1), .second, .val (.long v1), .second, .val (.long k2), .second, .val (.long v2), .second, .val (.ref b_1), .val (.int (1 : Int32)), .val (.long k1), .second, .unset, .unset, .unset, .unset]) rfl) ?_
    show Go p e below s _ _ _ T_3 (mkF m 31 #[.val (.int nx), .val (.int fx), .val (.long k1), .second, .val (.long v1), .second, .val (.long k2), .second, .val (.long v2), .second, .val (.ref b_1), .val (.int (1 : Int32)), .val (.long k1), .second, .unset, .unset, .unset, .unset] [])
    refine Go.st (fun _ => XS.iloadN X_3.here hx rfl (hb hby at_31) rfl) ?_
    show Go p e below s _ _ _ T_3 (mkF m 32 #[.val (.int nx), .val (.int fx), .val (.long k1), .second, .val (.long v1), .second, .val (.long k2), .second, .val (.long v2), .second, .val (.ref b_1), .val (.int (1 : Int32)), .val (.long k1), .second, .unset, .unset, .unset, .unset] [(.int fx)])
    refine Go.st (fun _ => XS.iconst X_3.here hx rfl (hb hby at_32)) ?_
    show Go p e below s _ _ _ T_3 (mkF m 33 #[.val (.int nx), .val (.int fx), .val (.long k1), .second, .val (.long v1), .second, .val (.long k2), .second, .val (.long v2), .second, .val (.ref b_1), .val (.int (1 : Int32)), .val (.long k1), .second, .unset, .unset, .unset, .unset] [(.int (2 : Int32)), (.int fx)])
    refine Go.st (fun _ => XS.iand X_3.here hx rfl (hb hby at_33) rfl) ?_
    show Go p e below s _ _ _ T_3 (mkF m 34 #[.val (.int nx), .val (.int fx), .val (.long k1), .second, .val (.long v1), .second, .val (.long k2), .second, .val (.long v2), .second, .val (.ref b_1), .val (.int (1 : Int32)), .val (.long k1), .second, .unset, .unset, .unset, .unset] [(.int (fx &&& (2 : Int32)))])
    by_cases hc_5 : (fx &&& (2 : Int32)) = (0 : Int32)
    · refine Go.st (fun _ => XS.ifYes X_3.here hx rfl (pc0 := 34) (pc' := 42) rfl (hb hby at_34) rfl ((if0 _ _).trans (teq hc_5).1) (by decide) (by decide)) ?_
      show Go p e below s _ _ _ T_3 (mkF m 42 #[.val (.int nx), .val (.int fx), .val (.long k1), .second, .val (.long v1), .second, .val (.long k2), .second, .val (.long v2), .second, .val (.ref b_1), .val (.int (1 : Int32)), .val (.long k1), .second, .unset, .unset, .unset, .unset] [])
      refine Go.st (fun _ => XS.lload X_3.here hx rfl (hb hby at_42) rfl) ?_
      show Go p e below s _ _ _ T_3 (mkF m 44 #[.val (.int nx), .val (.int fx), .val (.long k1), .second, .val (.long v1), .second, .val (.long k2), .second, .val (.long v2), .second, .val (.ref b_1), .val (.int (1 : Int32)), .val (.long k1), .second, .unset, .unset, .unset, .unset] [(.long k2)])
      refine Go.st (fun _ => XS.lstore X_3.here hx rfl (hb hby at_44) rfl (l' := #[.val (.int nx), .val (.int fx), .val (.long k1), .second, .val (.long v1), .second, .val (.long k2), .second, .val (.long v2), .second, .val (.ref b_1), .val (.int (1 : Int32)), .val (.long k1), .second, .val (.long k2), .second, .unset, .unset]) rfl) ?_
      show Go p e below s _ _ _ T_3 (mkF m 46 #[.val (.int nx), .val (.int fx), .val (.long k1), .second, .val (.long v1), .second, .val (.long k2), .second, .val (.long v2), .second, .val (.ref b_1), .val (.int (1 : Int32)), .val (.long k1), .second, .val (.long k2), .second, .unset, .unset] [])
      refine Go.st (fun _ => XS.iloadN X_3.here hx rfl (hb hby at_46) rfl) ?_
      show Go p e below s _ _ _ T_3 (mkF m 47 #[.val (.int nx), .val (.int fx), .val (.long k1), .second, .val (.long v1), .second, .val (.long k2), .second, .val (.long v2), .second, .val (.ref b_1), .val (.int (1 : Int32)), .val (.long k1), .second, .val (.long k2), .second, .unset, .unset] [(.int nx)])
      refine Go.st (fun _ => XS.iconst X_3.here hx rfl (hb hby at_47)) ?_
      show Go p e below s _ _ _ T_3 (mkF m 48 #[.val (.int nx), .val (.int fx), .val (.long k1), .second, .val (.long v1), .second, .val (.long k2), .second, .val (.long v2), .second, .val (.ref b_1), .val (.int (1 : Int32)), .val (.long k1), .second, .val (.long k2), .second, .unset, .unset] [(.int (3 : Int32)), (.int nx)])
      refine Go.st (fun _ => XS.iand X_3.here hx rfl (hb hby at_48) rfl) ?_
      show Go p e below s _ _ _ T_3 (mkF m 49 #[.val (.int nx), .val (.int fx), .val (.long k1), .second, .val (.long v1), .second, .val (.long k2), .second, .val (.long v2), .second, .val (.ref b_1), .val (.int (1 : Int32)), .val (.long k1), .second, .val (.long k2), .second, .unset, .unset] [(.int (nx &&& (3 : Int32)))])
      rcases own_and3 nx with hd_6 | hd_6 | hd_6 | hd_6
      · rw [show (nx &&& (3 : Int32)) = (0 : Int32) from hd_6]
        show Go p e below s _ _ _ T_3 (mkF m 49 #[.val (.int nx), .val (.int fx), .val (.long k1), .second, .val (.long v1), .second, .val (.long k2), .second, .val (.long v2), .second, .val (.ref b_1), .val (.int (1 : Int32)), .val (.long k1), .second, .val (.long k2), .second, .unset, .unset] [(.int (0 : Int32))])
        refine Go.st (fun _ => XS.istore X_3.here hx rfl (hb hby at_49) rfl (l' := #[.val (.int nx), .val (.int fx), .val (.long k1), .second, .val (.long v1), .second, .val (.long k2), .second, .val (.long v2), .second, .val (.ref b_1), .val (.int (1 : Int32)), .val (.long k1), .second, .val (.long k2), .second, .val (.int (0 : Int32)), .unset]) rfl) ?_
        show Go p e below s _ _ _ T_3 (mkF m 51 #[.val (.int nx), .val (.int fx), .val (.long k1), .second, .val (.long v1), .second, .val (.long k2), .second, .val (.long v2), .second, .val (.ref b_1), .val (.int (1 : Int32)), .val (.long k1), .second, .val (.long k2), .second, .val (.int (0 : Int32)), .unset] [])
        refine Go.st (fun _ => XS.iload X_3.here hx rfl (hb hby at_51) rfl) ?_
        show Go p e below s _ _ _ T_3 (mkF m 53 #[.val (.int nx), .val (.int fx), .val (.long k1), .second, .val (.long v1), .second, .val (.long k2), .second, .val (.long v2), .second, .val (.ref b_1), .val (.int (1 : Int32)), .val (.long k1), .second, .val (.long k2), .second, .val (.int (0 : Int32)), .unset] [(.int (0 : Int32))])
        refine Go.st (fun _ => XS.iconst X_3.here hx rfl (hb hby at_53)) ?_
        show Go p e below s _ _ _ T_3 (mkF m 54 #[.val (.int nx), .val (.int fx), .val (.long k1), .second, .val (.long v1), .second, .val (.long k2), .second, .val (.long v2), .second, .val (.ref b_1), .val (.int (1 : Int32)), .val (.long k1), .second, .val (.long k2), .second, .val (.int (0 : Int32)), .unset] [(.int (1 : Int32)), (.int (0 : Int32))])
        refine Go.st (fun _ => XS.icmpYes X_3.here hx rfl (pc0 := 54) (pc' := 66) rfl (hb hby at_54) rfl (tlt (by decide : (0 : Int32) < (1 : Int32))).1 (by decide) (by decide)) ?_
        show Go p e below s _ _ _ T_3 (mkF m 66 #[.val (.int nx), .val (.int fx), .val (.long k1), .second, .val (.long v1), .second, .val (.long k2), .second, .val (.long v2), .second, .val (.ref b_1), .val (.int (1 : Int32)), .val (.long k1), .second, .val (.long k2), .second, .val (.int (0 : Int32)), .unset] [])
        refine Go.st (fun _ => XS.iload X_3.here hx rfl (hb hby at_66) rfl) ?_
        show Go p e below s _ _ _ T_3 (mkF m 68 #[.val (.int nx), .val (.int fx), .val (.long k1), .second, .val (.long v1), .second, .val (.long k2), .second, .val (.long v2), .second, .val (.ref b_1), .val (.int (1 : Int32)), .val (.long k1), .second, .val (.long k2), .second, .val (.int (0 : Int32)), .unset] [(.int (0 : Int32))])
        refine Go.st (fun _ => XS.iconst X_3.here hx rfl (hb hby at_68)) ?_
        show Go p e below s _ _ _ T_3 (mkF m 69 #[.val (.int nx), .val (.int fx), .val (.long k1), .second, .val (.long v1), .second, .val (.long k2), .second, .val (.long v2), .second, .val (.ref b_1), .val (.int (1 : Int32)), .val (.long k1), .second, .val (.long k2), .second, .val (.int (0 : Int32)), .unset] [(.int (2 : Int32)), (.int (0 : Int32))])
        refine Go.st (fun _ => XS.icmpYes X_3.here hx rfl (pc0 := 69) (pc' := 81) rfl (hb hby at_69) rfl (tlt (by decide : (0 : Int32) < (2 : Int32))).1 (by decide) (by decide)) ?_
        show Go p e below s _ _ _ T_3 (mkF m 81 #[.val (.int nx), .val (.int fx), .val (.long k1), .second, .val (.long v1), .second, .val (.long k2), .second, .val (.long v2), .second, .val (.ref b_1), .val (.int (1 : Int32)), .val (.long k1), .second, .val (.long k2), .second, .val (.int (0 : Int32)), .unset] [])
        refine Go.st (fun _ => XS.iload X_3.here hx rfl (hb hby at_81) rfl) ?_
        show Go p e below s _ _ _ T_3 (mkF m 83 #[.val (.int nx), .val (.int fx), .val (.long k1), .second, .val (.long v1), .second, .val (.long k2), .second, .val (.long v2), .second, .val (.ref b_1), .val (.int (1 : Int32)), .val (.long k1), .second, .val (.long k2), .second, .val (.int (0 : Int32)), .unset] [(.int (0 : Int32))])
        refine Go.st (fun _ => XS.iconst X_3.here hx rfl (hb hby at_83)) ?_
        show Go p e below s _ _ _ T_3 (mkF m 84 #[.val (.int nx), .val (.int fx), .val (.long k1), .second, .val (.long v1), .second, .val (.long k2), .second, .val (.long v2), .second, .val (.ref b_1), .val (.int (1 : Int32)), .val (.long k1), .second, .val (.long k2), .second, .val (.int (0 : Int32)), .unset] [(.int (3 : Int32)), (.int (0 : Int32))])
        refine Go.st (fun _ => XS.icmpYes X_3.here hx rfl (pc0 := 84) (pc' := 96) rfl (hb hby at_84) rfl (tlt (by decide : (0 : Int32) < (3 : Int32))).1 (by decide) (by decide)) ?_
        show Go p e below s _ _ _ T_3 (mkF m 96 #[.val (.int nx), .val (.int fx), .val (.long k1), .second, .val (.long v1), .second, .val (.long k2), .second, .val (.long v2), .second, .val (.ref b_1), .val (.int (1 : Int32)), .val (.long k1), .second, .val (.long k2), .second, .val (.int (0 : Int32)), .unset] [])
        refine Go.st (fun _ => XS.aload X_3.here hx rfl (hb hby at_96) rfl rfl) ?_
        show Go p e below s _ _ _ T_3 (mkF m 98 #[.val (.int nx), .val (.int fx), .val (.long k1), .second, .val (.long v1), .second, .val (.long k2), .second, .val (.long v2), .second, .val (.ref b_1), .val (.int (1 : Int32)), .val (.long k1), .second, .val (.long k2), .second, .val (.int (0 : Int32)), .unset] [(.ref b_1)])
        obtain ⟨cq_7, kq_7, q_7a, q_7b, q_7c⟩ := isOf hZ e_3 p_2_2
        obtain ⟨_, _, ⟨T_7, L_7, kc_7, nc_7⟩, -, X_7, ⟨Lc_7, hQ_7, l_7, y_7, z_7⟩, st_7⟩ := X_3.virtualBack hx (y := (⟨"kasane/util/LongLongMap", "isEmpty", "()Z"⟩ : MethodName)) (z := (⟨"kasane/util/LongLongMap", "isEmpty", "()Z"⟩ : MethodName)) hown (mvT hZ (hw _ (List.mem_of_getElem? (i := 16) rfl))) (mvT hZ (hw _ (List.mem_of_getElem? (i := 17) rfl))) (notFace_of_selects (args := #[]) (mvT hZ (hw _ (List.mem_of_getElem? (i := 19) rfl)))) (mvT hZ (hw _ (List.mem_of_getElem? (i := 19) rfl))) (mvT hZ (hw _ (List.mem_of_getElem? (i := 18) rfl))) (by decide) (backOf (W := 0) (rmEm l Z a0 hw [] b_1 (0 : Int32) h_2 n0 z_2q p_2_4) hZ (hw _ (List.mem_of_getElem? (i := 20) rfl)) (hw _ (List.mem_of_getElem? (i := 2) rfl)) (by decide) (by decide)) q_7a q_7c (g := (mkF m 98 #[.val (.int nx), .val (.int fx), .val (.long k1), .second, .val (.long v1), .second, .val (.long k2), .second, .val (.long v2), .second, .val (.ref b_1), .val (.int (1 : Int32)), .val (.long k1), .second, .val (.long k2), .second, .val (.int (0 : Int32)), .unset] [(.ref b_1)])) rfl (by rw [hml]; rfl) (Steps.refl _) (argsL := []) (rest := []) (lenOf pd_6 rfl) rfl (by show 2 * 0 + _ ≤ _; exact Nat.le_of_eq rfl) (hb hby at_98) (fun _ _ => ⟨rfl, e_3, (by decide : 2 + 0 ≤ _), (by decide : 20 + 0 ≤ _)⟩)
        dsimp only [Pt.U, Pt.locs, Pt.cells, Pt.slots] at X_7 l_7 y_7 z_7 st_7 hQ_7
        subst l_7 y_7 z_7
        obtain ⟨h_7, e_7⟩ : ∃ hh, T_7.heap = hh := ⟨_, rfl⟩
        rw [e_7] at hQ_7
        obtain ⟨rfl, N_7q, sm_7⟩ := hQ_7
        have N_7 := Fr.app N_3 N_7q
        refine Go.st (fun _ kk => st_7.trans kk) ?_
        rw [sm_7] at e_7
        show Go p e below s _ _ _ T_7 (mkF m 101 #[.val (.int nx), .val (.int fx), .val (.long k1), .second, .val (.long v1), .second, .val (.long k2), .second, .val (.long v2), .second, .val (.ref b_1), .val (.int (1 : Int32)), .val (.long k1), .second, .val (.long k2), .second, .val (.int (0 : Int32)), .unset] [(.int (b2i ((0 : Int32) = (0 : Int32))))])
        rw [show (b2i ((0 : Int32) = (0 : Int32))) = (1 : Int32) from b2i_pos (by decide : (0 : Int32) = (0 : Int32))]
        show Go p e below s _ _ _ T_7 (mkF m 101 #[.val (.int nx), .val (.int fx), .val (.long k1), .second, .val (.long v1), .second, .val (.long k2), .second, .val (.long v2), .second, .val (.ref b_1), .val (.int (1 : Int32)), .val (.long k1), .second, .val (.long k2), .second, .val (.int (0 : Int32)), .unset] [(.int (1 : Int32))])
        refine Go.st (fun _ => XS.istore X_7.here hx rfl (hb hby at_101) rfl (l' := #[.val (.int nx), .val (.int fx), .val (.long k1), .second, .val (.long v1), .second, .val (.long k2), .second, .val (.long v2), .second, .val (.ref b_1), .val (.int (1 : Int32)), .val (.long k1), .second, .val (.long k2), .second, .val (.int (0 : Int32)), .val (.int (1 : Int32))]) rfl) ?_
        show Go p e below s _ _ _ T_7 (mkF m 103 #[.val (.int nx), .val (.int fx), .val (.long k1), .second, .val (.long v1), .second, .val (.long k2), .second, .val (.long v2), .second, .val (.ref b_1), .val (.int (1 : Int32)), .val (.long k1), .second, .val (.long k2), .second, .val (.int (0 : Int32)), .val (.int (1 : Int32))] [])
        refine Go.st (fun _ => XS.iload X_7.here hx rfl (hb hby at_103) rfl) ?_
        show Go p e below s _ _ _ T_7 (mkF m 105 #[.val (.int nx), .val (.int fx), .val (.long k1), .second, .val (.long v1), .second, .val (.long k2), .second, .val (.long v2), .second, .val (.ref b_1), .val (.int (1 : Int32)), .val (.long k1), .second, .val (.long k2), .second, .val (.int (0 : Int32)), .val (.int (1 : Int32))] [(.int (1 : Int32))])
        refine Go.st (fun _ => XS.ifNo X_7.here hx rfl (hb hby at_105) rfl ((if0 _ _).trans (feq (by decide : ¬ ((1 : Int32) = (0 : Int32)))).1)) ?_
        show Go p e below s _ _ _ T_7 (mkF m 108 #[.val (.int nx), .val (.int fx), .val (.long k1), .second, .val (.long v1), .second, .val (.long k2), .second, .val (.long v2), .second, .val (.ref b_1), .val (.int (1 : Int32)), .val (.long k1), .second, .val (.long k2), .second, .val (.int (0 : Int32)), .val (.int (1 : Int32))] [])
        refine Go.st (fun _ => XS.iload X_7.here hx rfl (hb hby at_108) rfl) ?_
        show Go p e below s _ _ _ T_7 (mkF m 110 #[.val (.int nx), .val (.int fx), .val (.long k1), .second, .val (.long v1), .second, .val (.long k2), .second, .val (.long v2), .second, .val (.ref b_1), .val (.int (1 : Int32)), .val (.long k1), .second, .val (.long k2), .second, .val (.int (0 : Int32)), .val (.int (1 : Int32))] [(.int (1 : Int32))])
        refine Go.st (fun _ => XS.iload X_7.here hx rfl (hb hby at_110) rfl) ?_
        show Go p e below s _ _ _ T_7 (mkF m 112 #[.val (.int nx), .val (.int fx), .val (.long k1), .second, .val (.long v1), .second, .val (.long k2), .second, .val (.long v2), .second, .val (.ref b_1), .val (.int (1 : Int32)), .val (.long k1), .second, .val (.long k2), .second, .val (.int (0 : Int32)), .val (.int (1 : Int32))] [(.int (0 : Int32)), (.int (1 : Int32))])
        refine Go.st (fun _ => XS.ifNo X_7.here hx rfl (hb hby at_112) rfl ((if0 _ _).trans (teq (by decide : (0 : Int32) = (0 : Int32))).2)) ?_
        show Go p e below s _ _ _ T_7 (mkF m 115 #[.val (.int nx), .val (.int fx), .val (.long k1), .second, .val (.long v1), .second, .val (.long k2), .second, .val (.long v2), .second, .val (.ref b_1), .val (.int (1 : Int32)), .val (.long k1), .second, .val (.long k2), .second, .val (.int (0 : Int32)), .val (.int (1 : Int32))] [(.int (1 : Int32))])
        refine Go.st (fun _ => XS.iconst X_7.here hx rfl (hb hby at_115)) ?_
        show Go p e below s _ _ _ T_7 (mkF m 116 #[.val (.int nx), .val (.int fx), .val (.long k1), .second, .val (.long v1), .second, .val (.long k2), .second, .val (.long v2), .second, .val (.ref b_1), .val (.int (1 : Int32)), .val (.long k1), .second, .val (.long k2), .second, .val (.int (0 : Int32)), .val (.int (1 : Int32))] [(.int (1 : Int32)), (.int (1 : Int32))])
        refine Go.st (fun _ => XS.goto X_7.here hx rfl (pc0 := 116) (pc' := 120) rfl (hb hby at_116) (by decide) (by decide)) ?_
        show Go p e below s _ _ _ T_7 (mkF m 120 #[.val (.int nx), .val (.int fx), .val (.long k1), .second, .val (.long v1), .second, .val (.long k2), .second, .val (.long v2), .second, .val (.ref b_1), .val (.int (1 : Int32)), .val (.long k1), .second, .val (.long k2), .second, .val (.int (0 : Int32)), .val (.int (1 : Int32))] [(.int (1 : Int32)), (.int (1 : Int32))])
        refine Go.st (fun _ => XS.icmpNo X_7.here hx rfl (hb hby at_120) rfl (teq (by decide : (1 : Int32) = (1 : Int32))).2) ?_
        show Go p e below s _ _ _ T_7 (mkF m 123 #[.val (.int nx), .val (.int fx), .val (.long k1), .second, .val (.long v1), .second, .val (.long k2), .second, .val (.long v2), .second, .val (.ref b_1), .val (.int (1 : Int32)), .val (.long k1), .second, .val (.long k2), .second, .val (.int (0 : Int32)), .val (.int (1 : Int32))] [])
        refine Go.st (fun _ => XS.iload X_7.here hx rfl (hb hby at_123) rfl) ?_
        show Go p e below s _ _ _ T_7 (mkF m 125 #[.val (.int nx), .val (.int fx), .val (.long k1), .second, .val (.long v1), .second, .val (.long k2), .second, .val (.long v2), .second, .val (.ref b_1), .val (.int (1 : Int32)), .val (.long k1), .second, .val (.long k2), .second, .val (.int (0 : Int32)), .val (.int (1 : Int32))] [(.int (1 : Int32))])
        refine Go.st (fun _ => XS.aload X_7.here hx rfl (hb hby at_125) rfl rfl) ?_
        show Go p e below s _ _ _ T_7 (mkF m 127 #[.val (.int nx), .val (.int fx), .val (.long k1), .second, .val (.long v1), .second, .val (.long k2), .second, .val (.long v2), .second, .val (.ref b_1), .val (.int (1 : Int32)), .val (.long k1), .second, .val (.long k2), .second, .val (.int (0 : Int32)), .val (.int (1 : Int32))] [(.ref b_1), (.int (1 : Int32))])
        obtain ⟨cq_8, kq_8, q_8a, q_8b, q_8c⟩ := isOf hZ e_7 p_2_2
        obtain ⟨_, _, ⟨T_8, L_8, kc_8, nc_8⟩, -, X_8, ⟨Lc_8, hQ_8, l_8, y_8, z_8⟩, st_8⟩ := X_7.virtualBack hx (y := (⟨"kasane/util/LongLongMap", "size", "()I"⟩ : MethodName)) (z := (⟨"kasane/util/LongLongMap", "size", "()I"⟩ : MethodName)) hown (mvT hZ (hw _ (List.mem_of_getElem? (i := 24) rfl))) (mvT hZ (hw _ (List.mem_of_getElem? (i := 25) rfl))) (notFace_of_selects (args := #[]) (mvT hZ (hw _ (List.mem_of_getElem? (i := 27) rfl)))) (mvT hZ (hw _ (List.mem_of_getElem? (i := 27) rfl))) (mvT hZ (hw _ (List.mem_of_getElem? (i := 26) rfl))) (by decide) (backOf (W := 1) (rmSz l Z a0 hw [] b_1 (0 : Int32) h_2 n0 z_2q p_2_4) hZ (hw _ (List.mem_of_getElem? (i := 28) rfl)) (hw _ (List.mem_of_getElem? (i := 2) rfl)) (by decide) (by decide)) q_8a q_8c (g := (mkF m 127 #[.val (.int nx), .val (.int fx), .val (.long k1), .second, .val (.long v1), .second, .val (.long k2), .second, .val (.long v2), .second, .val (.ref b_1), .val (.int (1 : Int32)), .val (.long k1), .second, .val (.long k2), .second, .val (.int (0 : Int32)), .val (.int (1 : Int32))] [(.ref b_1), (.int (1 : Int32))])) rfl (by rw [hml]; rfl) (Steps.refl _) (argsL := []) (rest := [(.int (1 : Int32))]) (lenOf pd_2 rfl) rfl (by show 2 * 0 + _ ≤ _; exact Nat.le_of_eq rfl) (hb hby at_127) (fun _ _ => ⟨rfl, e_7, (by decide : 2 + 0 ≤ _), (by decide : 20 + 0 ≤ _)⟩)
        dsimp only [Pt.U, Pt.locs, Pt.cells, Pt.slots] at X_8 l_8 y_8 z_8 st_8 hQ_8
        subst l_8 y_8 z_8
        obtain ⟨h_8, e_8⟩ : ∃ hh, T_8.heap = hh := ⟨_, rfl⟩
        rw [e_8] at hQ_8
        obtain ⟨rfl, N_8q, sm_8⟩ := hQ_8
        have N_8 := Fr.app N_7 N_8q
        refine Go.st (fun _ kk => st_8.trans kk) ?_
        rw [sm_8] at e_8
        show Go p e below s _ _ _ T_8 (mkF m 130 #[.val (.int nx), .val (.int fx), .val (.long k1), .second, .val (.long v1), .second, .val (.long k2), .second, .val (.long v2), .second, .val (.ref b_1), .val (.int (1 : Int32)), .val (.long k1), .second, .val (.long k2), .second, .val (.int (0 : Int32)), .val (.int (1 : Int32))] [(.int (0 : Int32)), (.int (1 : Int32))])
        refine Go.st (fun _ => XS.ifNo X_8.here hx rfl (hb hby at_130) rfl ((if0 _ _).trans (teq (by decide : (0 : Int32) = (0 : Int32))).2)) ?_
        show Go p e below s _ _ _ T_8 (mkF m 133 #[.val (.int nx), .val (.int fx), .val (.long k1), .second, .val (.long v1), .second, .val (.long k2), .second, .val (.long v2), .second, .val (.ref b_1), .val (.int (1 : Int32)), .val (.long k1), .second, .val (.long k2), .second, .val (.int (0 : Int32)), .val (.int (1 : Int32))] [(.int (1 : Int32))])
        refine Go.st (fun _ => XS.iconst X_8.here hx rfl (hb hby at_133)) ?_
        show Go p e below s _ _ _ T_8 (mkF m 134 #[.val (.int nx), .val (.int fx), .val (.long k1), .second, .val (.long v1), .second, .val (.long k2), .second, .val (.long v2), .second, .val (.ref b_1), .val (.int (1 : Int32)), .val (.long k1), .second, .val (.long k2), .second, .val (.int (0 : Int32)), .val (.int (1 : Int32))] [(.int (1 : Int32)), (.int (1 : Int32))])
        refine Go.st (fun _ => XS.goto X_8.here hx rfl (pc0 := 134) (pc' := 138) rfl (hb hby at_134) (by decide) (by decide)) ?_
        show Go p e below s _ _ _ T_8 (mkF m 138 #[.val (.int nx), .val (.int fx), .val (.long k1), .second, .val (.long v1), .second, .val (.long k2), .second, .val (.long v2), .second, .val (.ref b_1), .val (.int (1 : Int32)), .val (.long k1), .second, .val (.long k2), .second, .val (.int (0 : Int32)), .val (.int (1 : Int32))] [(.int (1 : Int32)), (.int (1 : Int32))])
        refine Go.st (fun _ => XS.icmpNo X_8.here hx rfl (hb hby at_138) rfl (teq (by decide : (1 : Int32) = (1 : Int32))).2) ?_
        show Go p e below s _ _ _ T_8 (mkF m 141 #[.val (.int nx), .val (.int fx), .val (.long k1), .second, .val (.long v1), .second, .val (.long k2), .second, .val (.long v2), .second, .val (.ref b_1), .val (.int (1 : Int32)), .val (.long k1), .second, .val (.long k2), .second, .val (.int (0 : Int32)), .val (.int (1 : Int32))] [])
        refine Go.st (fun _ => XS.iconst X_8.here hx rfl (hb hby at_141)) ?_
        show Go p e below s _ _ _ T_8 (mkF m 142 #[.val (.int nx), .val (.int fx), .val (.long k1), .second, .val (.long v1), .second, .val (.long k2), .second, .val (.long v2), .second, .val (.ref b_1), .val (.int (1 : Int32)), .val (.long k1), .second, .val (.long k2), .second, .val (.int (0 : Int32)), .val (.int (1 : Int32))] [(.int (1 : Int32))])
        refine Go.st (fun _ => XS.goto X_8.here hx rfl (pc0 := 142) (pc' := 146) rfl (hb hby at_142) (by decide) (by decide)) ?_
        show Go p e below s _ _ _ T_8 (mkF m 146 #[.val (.int nx), .val (.int fx), .val (.long k1), .second, .val (.long v1), .second, .val (.long k2), .second, .val (.long v2), .second, .val (.ref b_1), .val (.int (1 : Int32)), .val (.long k1), .second, .val (.long k2), .second, .val (.int (0 : Int32)), .val (.int (1 : Int32))] [(.int (1 : Int32))])
        exact Go.retZ X_8 hx hlk Bd.returns (hb hby at_146) rfl (by rw [e_8]; exact ⟨rfl, N_8⟩) (by decide) (by decide)
      · rw [show (nx &&& (3 : Int32)) = (1 : Int32) from hd_6]
        show Go p e below s _ _ _ T_3 (mkF m 49 #[.val (.int nx), .val (.int fx), .val (.long k1), .second, .val (.long v1), .second, .val (.long k2), .second, .val (.long v2), .second, .val (.ref b_1), .val (.int (1 : Int32)), .val (.long k1), .second, .val (.long k2), .second, .unset, .unset] [(.int (1 : Int32))])
        refine Go.st (fun _ => XS.istore X_3.here hx rfl (hb hby at_49) rfl (l' := #[.val (.int nx), .val (.int fx), .val (.long k1), .second, .val (.long v1), .second, .val (.long k2), .second, .val (.long v2), .second, .val (.ref b_1), .val (.int (1 : Int32)), .val (.long k1), .second, .val (.long k2), .second, .val (.int (1 : Int32)), .unset]) rfl) ?_
        show Go p e below s _ _ _ T_3 (mkF m 51 #[.val (.int nx), .val (.int fx), .val (.long k1), .second, .val (.long v1), .second, .val (.long k2), .second, .val (.long v2), .second, .val (.ref b_1), .val (.int (1 : Int32)), .val (.long k1), .second, .val (.long k2), .second, .val (.int (1 : Int32)), .unset] [])
        refine Go.st (fun _ => XS.iload X_3.here hx rfl (hb hby at_51) rfl) ?_
        show Go p e below s _ _ _ T_3 (mkF m 53 #[.val (.int nx), .val (.int fx), .val (.long k1), .second, .val (.long v1), .second, .val (.long k2), .second, .val (.long v2), .second, .val (.ref b_1), .val (.int (1 : Int32)), .val (.long k1), .second, .val (.long k2), .second, .val (.int (1 : Int32)), .unset] [(.int (1 : Int32))])
        refine Go.st (fun _ => XS.iconst X_3.here hx rfl (hb hby at_53)) ?_
        show Go p e below s _ _ _ T_3 (mkF m 54 #[.val (.int nx), .val (.int fx), .val (.long k1), .second, .val (.long v1), .second, .val (.long k2), .second, .val (.long v2), .second, .val (.ref b_1), .val (.int (1 : Int32)), .val (.long k1), .second, .val (.long k2), .second, .val (.int (1 : Int32)), .unset] [(.int (1 : Int32)), (.int (1 : Int32))])
        refine Go.st (fun _ => XS.icmpNo X_3.here hx rfl (hb hby at_54) rfl (flt (by decide : ¬ ((1 : Int32) < (1 : Int32)))).1) ?_
        show Go p e below s _ _ _ T_3 (mkF m 57 #[.val (.int nx), .val (.int fx), .val (.long k1), .second, .val (.long v1), .second, .val (.long k2), .second, .val (.long v2), .second, .val (.ref b_1), .val (.int (1 : Int32)), .val (.long k1), .second, .val (.long k2), .second, .val (.int (1 : Int32)), .unset] [])
        refine Go.st (fun _ => XS.aload X_3.here hx rfl (hb hby at_57) rfl rfl) ?_
        show Go p e below s _ _ _ T_3 (mkF m 59 #[.val (.int nx), .val (.int fx), .val (.long k1), .second, .val (.long v1), .second, .val (.long k2), .second, .val (.long v2), .second, .val (.ref b_1), .val (.int (1 : Int32)), .val (.long k1), .second, .val (.long k2), .second, .val (.int (1 : Int32)), .unset] [(.ref b_1)])
        refine Go.st (fun _ => XS.lload X_3.here hx rfl (hb hby at_59) rfl) ?_
        show Go p e below s _ _ _ T_3 (mkF m 61 #[.val (.int nx), .val (.int fx), .val (.long k1), .second, .val (.long v1), .second, .val (.long k2), .second, .val (.long v2), .second, .val (.ref b_1), .val (.int (1 : Int32)), .val (.long k1), .second, .val (.long k2), .second, .val (.int (1 : Int32)), .unset] [(.long k1), (.ref b_1)])
        refine Go.st (fun _ => XS.lload X_3.here hx rfl (hb hby at_61) rfl) ?_
        show Go p e below s _ _ _ T_3 (mkF m 63 #[.val (.int nx), .val (.int fx), .val (.long k1), .second, .val (.long v1), .second, .val (.long k2), .second, .val (.long v2), .second, .val (.ref b_1), .val (.int (1 : Int32)), .val (.long k1), .second, .val (.long k2), .second, .val (.int (1 : Int32)), .unset] [(.long v1), (.long k1), (.ref b_1)])
        obtain ⟨cq_9, kq_9, q_9a, q_9b, q_9c⟩ := isOf hZ e_3 p_2_2
        obtain ⟨_, _, ⟨T_9, L_9, kc_9, nc_9⟩, -, X_9, ⟨Lc_9, hQ_9, l_9, y_9, z_9⟩, st_9⟩ := X_3.virtualBack hx (y := (⟨"kasane/util/LongLongMap", "put", "(JJ)V"⟩ : MethodName)) (z := (⟨"kasane/util/LongLongMap", "put", "(JJ)V"⟩ : MethodName)) hown (mvT hZ (hw _ (List.mem_of_getElem? (i := 29) rfl))) (mvT hZ (hw _ (List.mem_of_getElem? (i := 30) rfl))) (notFace_of_selects (args := #[]) (mvT hZ (hw _ (List.mem_of_getElem? (i := 32) rfl)))) (mvT hZ (hw _ (List.mem_of_getElem? (i := 32) rfl))) (mvT hZ (hw _ (List.mem_of_getElem? (i := 31) rfl))) (by decide) (backOf (W := 0) (rmPu l Z a0 hw [] b_1 k1 v1 t__2 kt__2 [(-9223372036854775808 : Int64), (0 : Int64), (-9223372036854775808 : Int64), (0 : Int64), (-9223372036854775808 : Int64), (0 : Int64), (-9223372036854775808 : Int64), (0 : Int64), (-9223372036854775808 : Int64), (0 : Int64), (-9223372036854775808 : Int64), (0 : Int64), (-9223372036854775808 : Int64), (0 : Int64), (-9223372036854775808 : Int64), (0 : Int64)] (0 : Int32) (0 : Int32) (0 : Int64) h_2 n0 z_2q p_2_2 p_2_3 p_2_4 p_2_5 p_2_6 vm0 gg_1 p_2_1 ne_b_1_t__2 own_inv0 (by decide)) hZ (hw _ (List.mem_of_getElem? (i := 33) rfl)) (hw _ (List.mem_of_getElem? (i := 2) rfl)) (by decide) (by decide)) q_9a q_9c (g := (mkF m 63 #[.val (.int nx), .val (.int fx), .val (.long k1), .second, .val (.long v1), .second, .val (.long k2), .second, .val (.long v2), .second, .val (.ref b_1), .val (.int (1 : Int32)), .val (.long k1), .second, .val (.long k2), .second, .val (.int (1 : Int32)), .unset] [(.long v1), (.long k1), (.ref b_1)])) rfl (by rw [hml]; rfl) (Steps.refl _) (argsL := [(.long k1), (.long v1)]) (rest := []) (lenOf pd_7 rfl) rfl (by show 2 * 0 + _ ≤ _; exact Nat.le_of_eq rfl) (hb hby at_63) (fun _ _ => ⟨rfl, e_3, (by decide : 2 + 0 ≤ _), (by decide : 20 + 0 ≤ _)⟩)
        dsimp only [Pt.U, Pt.locs, Pt.cells, Pt.slots] at X_9 l_9 y_9 z_9 st_9 hQ_9
        subst l_9 y_9 z_9
        obtain ⟨h_9, e_9⟩ : ∃ hh, T_9.heap = hh := ⟨_, rfl⟩
        rw [e_9] at hQ_9
        obtain ⟨ks2__9, n2__9, f2__9, r2__9, rfl, N_9q, K_9, p_9_0, p_9_1, p_9_2, p_9_3, p_9_4, p_9_5, p_9_6, p_9_7⟩ := hQ_9
        have N_9 := Fr.app N_3 N_9q
        refine Go.st (fun _ kk => st_9.trans kk) ?_
        have z_9q : n0 ≤ h_9.size := Nat.le_trans z_2q K_9.1
        show Go p e below s _ _ _ T_9 (mkF m 66 #[.val (.int nx), .val (.int fx), .val (.long k1), .second, .val (.long v1), .second, .val (.long k2), .second, .val (.long v2), .second, .val (.ref b_1), .val (.int (1 : Int32)), .val (.long k1), .second, .val (.long k2), .second, .val (.int (1 : Int32)), .unset] [])
        have hle_10 : 1 ≤ n2__9.toInt ∧ n2__9.toInt ≤ 1 := by have q1 := p_9_7; have q2 := (trivial : True); have q3 : (0 : Int32).toInt = 0 := (by decide); omega
        have hk_11 : ¬ (n2__9 = (0 : Int32)) := own_pos hle_10.1
        refine Go.st (fun _ => XS.iload X_9.here hx rfl (hb hby at_66) rfl) ?_
        show Go p e below s _ _ _ T_9 (mkF m 68 #[.val (.int nx), .val (.int fx), .val (.long k1), .second, .val (.long v1), .second, .val (.long k2), .second, .val (.long v2), .second, .val (.ref b_1), .val (.int (1 : Int32)), .val (.long k1), .second, .val (.long k2), .second, .val (.int (1 : Int32)), .unset] [(.int (1 : Int32))])
        refine Go.st (fun _ => XS.iconst X_9.here hx rfl (hb hby at_68)) ?_
        show Go p e below s _ _ _ T_9 (mkF m 69 #[.val (.int nx), .val (.int fx), .val (.long k1), .second, .val (.long v1), .second, .val (.long k2), .second, .val (.long v2), .second, .val (.ref b_1), .val (.int (1 : Int32)), .val (.long k1), .second, .val (.long k2), .second, .val (.int (1 : Int32)), .unset] [(.int (2 : Int32)), (.int (1 : Int32))])
        refine Go.st (fun _ => XS.icmpYes X_9.here hx rfl (pc0 := 69) (pc' := 81) rfl (hb hby at_69) rfl (tlt (by decide : (1 : Int32) < (2 : Int32))).1 (by decide) (by decide)) ?_
        show Go p e below s _ _ _ T_9 (mkF m 81 #[.val (.int nx), .val (.int fx), .val (.long k1), .second, .val (.long v1), .second, .val (.long k2), .second, .val (.long v2), .second, .val (.ref b_1), .val (.int (1 : Int32)), .val (.long k1), .second, .val (.long k2), .second, .val (.int (1 : Int32)), .unset] [])
        refine Go.st (fun _ => XS.iload X_9.here hx rfl (hb hby at_81) rfl) ?_
        show Go p e below s _ _ _ T_9 (mkF m 83 #[.val (.int nx), .val (.int fx), .val (.long k1), .second, .val (.long v1), .second, .val (.long k2), .second, .val (.long v2), .second, .val (.ref b_1), .val (.int (1 : Int32)), .val (.long k1), .second, .val (.long k2), .second, .val (.int (1 : Int32)), .unset] [(.int (1 : Int32))])
        refine Go.st (fun _ => XS.iconst X_9.here hx rfl (hb hby at_83)) ?_
        show Go p e below s _ _ _ T_9 (mkF m 84 #[.val (.int nx), .val (.int fx), .val (.long k1), .second, .val (.long v1), .second, .val (.long k2), .second, .val (.long v2), .second, .val (.ref b_1), .val (.int (1 : Int32)), .val (.long k1), .second, .val (.long k2), .second, .val (.int (1 : Int32)), .unset] [(.int (3 : Int32)), (.int (1 : Int32))])
        refine Go.st (fun _ => XS.icmpYes X_9.here hx rfl (pc0 := 84) (pc' := 96) rfl (hb hby at_84) rfl (tlt (by decide : (1 : Int32) < (3 : Int32))).1 (by decide) (by decide)) ?_
        show Go p e below s _ _ _ T_9 (mkF m 96 #[.val (.int nx), .val (.int fx), .val (.long k1), .second, .val (.long v1), .second, .val (.long k2), .second, .val (.long v2), .second, .val (.ref b_1), .val (.int (1 : Int32)), .val (.long k1), .second, .val (.long k2), .second, .val (.int (1 : Int32)), .unset] [])
        refine Go.st (fun _ => XS.aload X_9.here hx rfl (hb hby at_96) rfl rfl) ?_
        show Go p e below s _ _ _ T_9 (mkF m 98 #[.val (.int nx), .val (.int fx), .val (.long k1), .second, .val (.long v1), .second, .val (.long k2), .second, .val (.long v2), .second, .val (.ref b_1), .val (.int (1 : Int32)), .val (.long k1), .second, .val (.long k2), .second, .val (.int (1 : Int32)), .unset] [(.ref b_1)])
        obtain ⟨cq_12, kq_12, q_12a, q_12b, q_12c⟩ := isOf hZ e_9 p_9_0
        obtain ⟨_, _, ⟨T_12, L_12, kc_12, nc_12⟩, -, X_12, ⟨Lc_12, hQ_12, l_12, y_12, z_12⟩, st_12⟩ := X_9.virtualBack hx (y := (⟨"kasane/util/LongLongMap", "isEmpty", "()Z"⟩ : MethodName)) (z := (⟨"kasane/util/LongLongMap", "isEmpty", "()Z"⟩ : MethodName)) hown (mvT hZ (hw _ (List.mem_of_getElem? (i := 16) rfl))) (mvT hZ (hw _ (List.mem_of_getElem? (i := 17) rfl))) (notFace_of_selects (args := #[]) (mvT hZ (hw _ (List.mem_of_getElem? (i := 19) rfl)))) (mvT hZ (hw _ (List.mem_of_getElem? (i := 19) rfl))) (mvT hZ (hw _ (List.mem_of_getElem? (i := 18) rfl))) (by decide) (backOf (W := 0) (rmEm l Z a0 hw [] b_1 n2__9 h_9 n0 z_9q p_9_2) hZ (hw _ (List.mem_of_getElem? (i := 20) rfl)) (hw _ (List.mem_of_getElem? (i := 2) rfl)) (by decide) (by decide)) q_12a q_12c (g := (mkF m 98 #[.val (.int nx), .val (.int fx), .val (.long k1), .second, .val (.long v1), .second, .val (.long k2), .second, .val (.long v2), .second, .val (.ref b_1), .val (.int (1 : Int32)), .val (.long k1), .second, .val (.long k2), .second, .val (.int (1 : Int32)), .unset] [(.ref b_1)])) rfl (by rw [hml]; rfl) (Steps.refl _) (argsL := []) (rest := []) (lenOf pd_6 rfl) rfl (by show 2 * 0 + _ ≤ _; exact Nat.le_of_eq rfl) (hb hby at_98) (fun _ _ => ⟨rfl, e_9, (by decide : 2 + 0 ≤ _), (by decide : 20 + 0 ≤ _)⟩)
        dsimp only [Pt.U, Pt.locs, Pt.cells, Pt.slots] at X_12 l_12 y_12 z_12 st_12 hQ_12
        subst l_12 y_12 z_12
        obtain ⟨h_12, e_12⟩ : ∃ hh, T_12.heap = hh := ⟨_, rfl⟩
        rw [e_12] at hQ_12
        obtain ⟨rfl, N_12q, sm_12⟩ := hQ_12
        have N_12 := Fr.app N_9 N_12q
        refine Go.st (fun _ kk => st_12.trans kk) ?_
        rw [sm_12] at e_12
        show Go p e below s _ _ _ T_12 (mkF m 101 #[.val (.int nx), .val (.int fx), .val (.long k1), .second, .val (.long v1), .second, .val (.long k2), .second, .val (.long v2), .second, .val (.ref b_1), .val (.int (1 : Int32)), .val (.long k1), .second, .val (.long k2), .second, .val (.int (1 : Int32)), .unset] [(.int (b2i (n2__9 = (0 : Int32))))])
        rw [show (b2i (n2__9 = (0 : Int32))) = (0 : Int32) from b2i_neg hk_11]
        show Go p e below s _ _ _ T_12 (mkF m 101 #[.val (.int nx), .val (.int fx), .val (.long k1), .second, .val (.long v1), .second, .val (.long k2), .second, .val (.long v2), .second, .val (.ref b_1), .val (.int (1 : Int32)), .val (.long k1), .second, .val (.long k2), .second, .val (.int (1 : Int32)), .unset] [(.int (0 : Int32))])
        refine Go.st (fun _ => XS.istore X_12.here hx rfl (hb hby at_101) rfl (l' := #[.val (.int nx), .val (.int fx), .val (.long k1), .second, .val (.long v1), .second, .val (.long k2), .second, .val (.long v2), .second, .val (.ref b_1), .val (.int (1 : Int32)), .val (.long k1), .second, .val (.long k2), .second, .val (.int (1 : Int32)), .val (.int (0 : Int32))]) rfl) ?_
        show Go p e below s _ _ _ T_12 (mkF m 103 #[.val (.int nx), .val (.int fx), .val (.long k1), .second, .val (.long v1), .second, .val (.long k2), .second, .val (.long v2), .second, .val (.ref b_1), .val (.int (1 : Int32)), .val (.long k1), .second, .val (.long k2), .second, .val (.int (1 : Int32)), .val (.int (0 : Int32))] [])
        refine Go.st (fun _ => XS.iload X_12.here hx rfl (hb hby at_103) rfl) ?_
        show Go p e below s _ _ _ T_12 (mkF m 105 #[.val (.int nx), .val (.int fx), .val (.long k1), .second, .val (.long v1), .second, .val (.long k2), .second, .val (.long v2), .second, .val (.ref b_1), .val (.int (1 : Int32)), .val (.long k1), .second, .val (.long k2), .second, .val (.int (1 : Int32)), .val (.int (0 : Int32))] [(.int (1 : Int32))])
        refine Go.st (fun _ => XS.ifNo X_12.here hx rfl (hb hby at_105) rfl ((if0 _ _).trans (feq (by decide : ¬ ((1 : Int32) = (0 : Int32)))).1)) ?_
        show Go p e below s _ _ _ T_12 (mkF m 108 #[.val (.int nx), .val (.int fx), .val (.long k1), .second, .val (.long v1), .second, .val (.long k2), .second, .val (.long v2), .second, .val (.ref b_1), .val (.int (1 : Int32)), .val (.long k1), .second, .val (.long k2), .second, .val (.int (1 : Int32)), .val (.int (0 : Int32))] [])
        refine Go.st (fun _ => XS.iload X_12.here hx rfl (hb hby at_108) rfl) ?_
        show Go p e below s _ _ _ T_12 (mkF m 110 #[.val (.int nx), .val (.int fx), .val (.long k1), .second, .val (.long v1), .second, .val (.long k2), .second, .val (.long v2), .second, .val (.ref b_1), .val (.int (1 : Int32)), .val (.long k1), .second, .val (.long k2), .second, .val (.int (1 : Int32)), .val (.int (0 : Int32))] [(.int (0 : Int32))])
        refine Go.st (fun _ => XS.iload X_12.here hx rfl (hb hby at_110) rfl) ?_
        show Go p e below s _ _ _ T_12 (mkF m 112 #[.val (.int nx), .val (.int fx), .val (.long k1), .second, .val (.long v1), .second, .val (.long k2), .second, .val (.long v2), .second, .val (.ref b_1), .val (.int (1 : Int32)), .val (.long k1), .second, .val (.long k2), .second, .val (.int (1 : Int32)), .val (.int (0 : Int32))] [(.int (1 : Int32)), (.int (0 : Int32))])
        refine Go.st (fun _ => XS.ifYes X_12.here hx rfl (pc0 := 112) (pc' := 119) rfl (hb hby at_112) rfl ((if0 _ _).trans (feq (by decide : ¬ ((1 : Int32) = (0 : Int32)))).2) (by decide) (by decide)) ?_
        show Go p e below s _ _ _ T_12 (mkF m 119 #[.val (.int nx), .val (.int fx), .val (.long k1), .second, .val (.long v1), .second, .val (.long k2), .second, .val (.long v2), .second, .val (.ref b_1), .val (.int (1 : Int32)), .val (.long k1), .second, .val (.long k2), .second, .val (.int (1 : Int32)), .val (.int (0 : Int32))] [(.int (0 : Int32))])
        refine Go.st (fun _ => XS.iconst X_12.here hx rfl (hb hby at_119)) ?_
        show Go p e below s _ _ _ T_12 (mkF m 120 #[.val (.int nx), .val (.int fx), .val (.long k1), .second, .val (.long v1), .second, .val (.long k2), .second, .val (.long v2), .second, .val (.ref b_1), .val (.int (1 : Int32)), .val (.long k1), .second, .val (.long k2), .second, .val (.int (1 : Int32)), .val (.int (0 : Int32))] [(.int (0 : Int32)), (.int (0 : Int32))])
        refine Go.st (fun _ => XS.icmpNo X_12.here hx rfl (hb hby at_120) rfl (teq (by decide : (0 : Int32) = (0 : Int32))).2) ?_
        show Go p e below s _ _ _ T_12 (mkF m 123 #[.val (.int nx), .val (.int fx), .val (.long k1), .second, .val (.long v1), .second, .val (.long k2), .second, .val (.long v2), .second, .val (.ref b_1), .val (.int (1 : Int32)), .val (.long k1), .second, .val (.long k2), .second, .val (.int (1 : Int32)), .val (.int (0 : Int32))] [])
        refine Go.st (fun _ => XS.iload X_12.here hx rfl (hb hby at_123) rfl) ?_
        show Go p e below s _ _ _ T_12 (mkF m 125 #[.val (.int nx), .val (.int fx), .val (.long k1), .second, .val (.long v1), .second, .val (.long k2), .second, .val (.long v2), .second, .val (.ref b_1), .val (.int (1 : Int32)), .val (.long k1), .second, .val (.long k2), .second, .val (.int (1 : Int32)), .val (.int (0 : Int32))] [(.int (0 : Int32))])
        refine Go.st (fun _ => XS.aload X_12.here hx rfl (hb hby at_125) rfl rfl) ?_
        show Go p e below s _ _ _ T_12 (mkF m 127 #[.val (.int nx), .val (.int fx), .val (.long k1), .second, .val (.long v1), .second, .val (.long k2), .second, .val (.long v2), .second, .val (.ref b_1), .val (.int (1 : Int32)), .val (.long k1), .second, .val (.long k2), .second, .val (.int (1 : Int32)), .val (.int (0 : Int32))] [(.ref b_1), (.int (0 : Int32))])
        obtain ⟨cq_13, kq_13, q_13a, q_13b, q_13c⟩ := isOf hZ e_12 p_9_0
        obtain ⟨_, _, ⟨T_13, L_13, kc_13, nc_13⟩, -, X_13, ⟨Lc_13, hQ_13, l_13, y_13, z_13⟩, st_13⟩ := X_12.virtualBack hx (y := (⟨"kasane/util/LongLongMap", "size", "()I"⟩ : MethodName)) (z := (⟨"kasane/util/LongLongMap", "size", "()I"⟩ : MethodName)) hown (mvT hZ (hw _ (List.mem_of_getElem? (i := 24) rfl))) (mvT hZ (hw _ (List.mem_of_getElem? (i := 25) rfl))) (notFace_of_selects (args := #[]) (mvT hZ (hw _ (List.mem_of_getElem? (i := 27) rfl)))) (mvT hZ (hw _ (List.mem_of_getElem? (i := 27) rfl))) (mvT hZ (hw _ (List.mem_of_getElem? (i := 26) rfl))) (by decide) (backOf (W := 1) (rmSz l Z a0 hw [] b_1 n2__9 h_9 n0 z_9q p_9_2) hZ (hw _ (List.mem_of_getElem? (i := 28) rfl)) (hw _ (List.mem_of_getElem? (i := 2) rfl)) (by decide) (by decide)) q_13a q_13c (g := (mkF m 127 #[.val (.int nx), .val (.int fx), .val (.long k1), .second, .val (.long v1), .second, .val (.long k2), .second, .val (.long v2), .second, .val (.ref b_1), .val (.int (1 : Int32)), .val (.long k1), .second, .val (.long k2), .second, .val (.int (1 : Int32)), .val (.int (0 : Int32))] [(.ref b_1), (.int (0 : Int32))])) rfl (by rw [hml]; rfl) (Steps.refl _) (argsL := []) (rest := [(.int (0 : Int32))]) (lenOf pd_2 rfl) rfl (by show 2 * 0 + _ ≤ _; exact Nat.le_of_eq rfl) (hb hby at_127) (fun _ _ => ⟨rfl, e_12, (by decide : 2 + 0 ≤ _), (by decide : 20 + 0 ≤ _)⟩)
        dsimp only [Pt.U, Pt.locs, Pt.cells, Pt.slots] at X_13 l_13 y_13 z_13 st_13 hQ_13
        subst l_13 y_13 z_13
        obtain ⟨h_13, e_13⟩ : ∃ hh, T_13.heap = hh := ⟨_, rfl⟩
        rw [e_13] at hQ_13
        obtain ⟨rfl, N_13q, sm_13⟩ := hQ_13
        have N_13 := Fr.app N_12 N_13q
        refine Go.st (fun _ kk => st_13.trans kk) ?_
        rw [sm_13] at e_13
        show Go p e below s _ _ _ T_13 (mkF m 130 #[.val (.int nx), .val (.int fx), .val (.long k1), .second, .val (.long v1), .second, .val (.long k2), .second, .val (.long v2), .second, .val (.ref b_1), .val (.int (1 : Int32)), .val (.long k1), .second, .val (.long k2), .second, .val (.int (1 : Int32)), .val (.int (0 : Int32))] [(.int n2__9), (.int (0 : Int32))])
        refine Go.st (fun _ => XS.ifYes X_13.here hx rfl (pc0 := 130) (pc' := 137) rfl (hb hby at_130) rfl ((if0 _ _).trans (feq hk_11).2) (by decide) (by decide)) ?_
        show Go p e below s _ _ _ T_13 (mkF m 137 #[.val (.int nx), .val (.int fx), .val (.long k1), .second, .val (.long v1), .second, .val (.long k2), .second, .val (.long v2), .second, .val (.ref b_1), .val (.int (1 : Int32)), .val (.long k1), .second, .val (.long k2), .second, .val (.int (1 : Int32)), .val (.int (0 : Int32))] [(.int (0 : Int32))])
        refine Go.st (fun _ => XS.iconst X_13.here hx rfl (hb hby at_137)) ?_
        show Go p e below s _ _ _ T_13 (mkF m 138 #[.val (.int nx), .val (.int fx), .val (.long k1), .second, .val (.long v1), .second, .val (.long k2), .second, .val (.long v2), .second, .val (.ref b_1), .val (.int (1 : Int32)), .val (.long k1), .second, .val (.long k2), .second, .val (.int (1 : Int32)), .val (.int (0 : Int32))] [(.int (0 : Int32)), (.int (0 : Int32))])
        refine Go.st (fun _ => XS.icmpNo X_13.here hx rfl (hb hby at_138) rfl (teq (by decide : (0 : Int32) = (0 : Int32))).2) ?_
        show Go p e below s _ _ _ T_13 (mkF m 141 #[.val (.int nx), .val (.int fx), .val (.long k1), .second, .val (.long v1), .second, .val (.long k2), .second, .val (.long v2), .second, .val (.ref b_1), .val (.int (1 : Int32)), .val (.long k1), .second, .val (.long k2), .second, .val (.int (1 : Int32)), .val (.int (0 : Int32))] [])
        refine Go.st (fun _ => XS.iconst X_13.here hx rfl (hb hby at_141)) ?_
        show Go p e below s _ _ _ T_13 (mkF m 142 #[.val (.int nx), .val (.int fx), .val (.long k1), .second, .val (.long v1), .second, .val (.long k2), .second, .val (.long v2), .second, .val (.ref b_1), .val (.int (1 : Int32)), .val (.long k1), .second, .val (.long k2), .second, .val (.int (1 : Int32)), .val (.int (0 : Int32))] [(.int (1 : Int32))])
        refine Go.st (fun _ => XS.goto X_13.here hx rfl (pc0 := 142) (pc' := 146) rfl (hb hby at_142) (by decide) (by decide)) ?_
        show Go p e below s _ _ _ T_13 (mkF m 146 #[.val (.int nx), .val (.int fx), .val (.long k1), .second, .val (.long v1), .second, .val (.long k2), .second, .val (.long v2), .second, .val (.ref b_1), .val (.int (1 : Int32)), .val (.long k1), .second, .val (.long k2), .second, .val (.int (1 : Int32)), .val (.int (0 : Int32))] [(.int (1 : Int32))])
        exact Go.retZ X_13 hx hlk Bd.returns (hb hby at_146) rfl (by rw [e_13]; exact ⟨rfl, N_13⟩) (by decide) (by decide)
      · rw [show (nx &&& (3 : Int32)) = (2 : Int32) from hd_6]
        show Go p e below s _ _ _ T_3 (mkF m 49 #[.val (.int nx), .val (.int fx), .val (.long k1), .second, .val (.long v1), .second, .val (.long k2), .second, .val (.long v2), .second, .val (.ref b_1), .val (.int (1 : Int32)), .val (.long k1), .second, .val (.long k2), .second, .unset, .unset] [(.int (2 : Int32))])
        refine Go.st (fun _ => XS.istore X_3.here hx rfl (hb hby at_49) rfl (l' := #[.val (.int nx), .val (.int fx), .val (.long k1), .second, .val (.long v1), .second, .val (.long k2), .second, .val (.long v2), .second, .val (.ref b_1), .val (.int (1 : Int32)), .val (.long k1), .second, .val (.long k2), .second, .val (.int (2 : Int32)), .unset]) rfl) ?_
        show Go p e below s _ _ _ T_3 (mkF m 51 #[.val (.int nx), .val (.int fx), .val (.long k1), .second, .val (.long v1), .second, .val (.long k2), .second, .val (.long v2), .second, .val (.ref b_1), .val (.int (1 : Int32)), .val (.long k1), .second, .val (.long k2), .second, .val (.int (2 : Int32)), .unset] [])
        refine Go.st (fun _ => XS.iload X_3.here hx rfl (hb hby at_51) rfl) ?_
        show Go p e below s _ _ _ T_3 (mkF m 53 #[.val (.int nx), .val (.int fx), .val (.long k1), .second, .val (.long v1), .second, .val (.long k2), .second, .val (.long v2), .second, .val (.ref b_1), .val (.int (1 : Int32)), .val (.long k1), .second, .val (.long k2), .second, .val (.int (2 : Int32)), .unset] [(.int (2 : Int32))])
        refine Go.st (fun _ => XS.iconst X_3.here hx rfl (hb hby at_53)) ?_
        show Go p e below s _ _ _ T_3 (mkF m 54 #[.val (.int nx), .val (.int fx), .val (.long k1), .second, .val (.long v1), .second, .val (.long k2), .second, .val (.long v2), .second, .val (.ref b_1), .val (.int (1 : Int32)), .val (.long k1), .second, .val (.long k2), .second, .val (.int (2 : Int32)), .unset] [(.int (1 : Int32)), (.int (2 : Int32))])
        refine Go.st (fun _ => XS.icmpNo X_3.here hx rfl (hb hby at_54) rfl (flt (by decide : ¬ ((2 : Int32) < (1 : Int32)))).1) ?_
        show Go p e below s _ _ _ T_3 (mkF m 57 #[.val (.int nx), .val (.int fx), .val (.long k1), .second, .val (.long v1), .second, .val (.long k2), .second, .val (.long v2), .second, .val (.ref b_1), .val (.int (1 : Int32)), .val (.long k1), .second, .val (.long k2), .second, .val (.int (2 : Int32)), .unset] [])
        refine Go.st (fun _ => XS.aload X_3.here hx rfl (hb hby at_57) rfl rfl) ?_
        show Go p e below s _ _ _ T_3 (mkF m 59 #[.val (.int nx), .val (.int fx), .val (.long k1), .second, .val (.long v1), .second, .val (.long k2), .second, .val (.long v2), .second, .val (.ref b_1), .val (.int (1 : Int32)), .val (.long k1), .second, .val (.long k2), .second, .val (.int (2 : Int32)), .unset] [(.ref b_1)])
        refine Go.st (fun _ => XS.lload X_3.here hx rfl (hb hby at_59) rfl) ?_
        show Go p e below s _ _ _ T_3 (mkF m 61 #[.val (.int nx), .val (.int fx), .val (.long k1), .second, .val (.long v1), .second, .val (.long k2), .second, .val (.long v2), .second, .val (.ref b_1), .val (.int (1 : Int32)), .val (.long k1), .second, .val (.long k2), .second, .val (.int (2 : Int32)), .unset] [(.long k1), (.ref b_1)])
        refine Go.st (fun _ => XS.lload X_3.here hx rfl (hb hby at_61) rfl) ?_
        show Go p e below s _ _ _ T_3 (mkF m 63 #[.val (.int nx), .val (.int fx), .val (.long k1), .second, .val (.long v1), .second, .val (.long k2), .second, .val (.long v2), .second, .val (.ref b_1), .val (.int (1 : Int32)), .val (.long k1), .second, .val (.long k2), .second, .val (.int (2 : Int32)), .unset] [(.long v1), (.long k1), (.ref b_1)])
        obtain ⟨cq_14, kq_14, q_14a, q_14b, q_14c⟩ := isOf hZ e_3 p_2_2
        obtain ⟨_, _, ⟨T_14, L_14, kc_14, nc_14⟩, -, X_14, ⟨Lc_14, hQ_14, l_14, y_14, z_14⟩, st_14⟩ := X_3.virtualBack hx (y := (⟨"kasane/util/LongLongMap", "put", "(JJ)V"⟩ : MethodName)) (z := (⟨"kasane/util/LongLongMap", "put", "(JJ)V"⟩ : MethodName)) hown (mvT hZ (hw _ (List.mem_of_getElem? (i := 29) rfl))) (mvT hZ (hw _ (List.mem_of_getElem? (i := 30) rfl))) (notFace_of_selects (args := #[]) (mvT hZ (hw _ (List.mem_of_getElem? (i := 32) rfl)))) (mvT hZ (hw _ (List.mem_of_getElem? (i := 32) rfl))) (mvT hZ (hw _ (List.mem_of_getElem? (i := 31) rfl))) (by decide) (backOf (W := 0) (rmPu l Z a0 hw [] b_1 k1 v1 t__2 kt__2 [(-9223372036854775808 : Int64), (0 : Int64), (-9223372036854775808 : Int64), (0 : Int64), (-9223372036854775808 : Int64), (0 : Int64), (-9223372036854775808 : Int64), (0 : Int64), (-9223372036854775808 : Int64), (0 : Int64), (-9223372036854775808 : Int64), (0 : Int64), (-9223372036854775808 : Int64), (0 : Int64), (-9223372036854775808 : Int64), (0 : Int64)] (0 : Int32) (0 : Int32) (0 : Int64) h_2 n0 z_2q p_2_2 p_2_3 p_2_4 p_2_5 p_2_6 vm0 gg_1 p_2_1 ne_b_1_t__2 own_inv0 (by decide)) hZ (hw _ (List.mem_of_getElem? (i := 33) rfl)) (hw _ (List.mem_of_getElem? (i := 2) rfl)) (by decide) (by decide)) q_14a q_14c (g := (mkF m 63 #[.val (.int nx), .val (.int fx), .val (.long k1), .second, .val (.long v1), .second, .val (.long k2), .second, .val (.long v2), .second, .val (.ref b_1), .val (.int (1 : Int32)), .val (.long k1), .second, .val (.long k2), .second, .val (.int (2 : Int32)), .unset] [(.long v1), (.long k1), (.ref b_1)])) rfl (by rw [hml]; rfl) (Steps.refl _) (argsL := [(.long k1), (.long v1)]) (rest := []) (lenOf pd_7 rfl) rfl (by show 2 * 0 + _ ≤ _; exact Nat.le_of_eq rfl) (hb hby at_63) (fun _ _ => ⟨rfl, e_3, (by decide : 2 + 0 ≤ _), (by decide : 20 + 0 ≤ _)⟩)
        dsimp only [Pt.U, Pt.locs, Pt.cells, Pt.slots] at X_14 l_14 y_14 z_14 st_14 hQ_14
        subst l_14 y_14 z_14
        obtain ⟨h_14, e_14⟩ : ∃ hh, T_14.heap = hh := ⟨_, rfl⟩
        rw [e_14] at hQ_14
        obtain ⟨ks2__14, n2__14, f2__14, r2__14, rfl, N_14q, K_14, p_14_0, p_14_1, p_14_2, p_14_3, p_14_4, p_14_5, p_14_6, p_14_7⟩ := hQ_14
        have N_14 := Fr.app N_3 N_14q
        refine Go.st (fun _ kk => st_14.trans kk) ?_
        have z_14q : n0 ≤ h_14.size := Nat.le_trans z_2q K_14.1
        show Go p e below s _ _ _ T_14 (mkF m 66 #[.val (.int nx), .val (.int fx), .val (.long k1), .second, .val (.long v1), .second, .val (.long k2), .second, .val (.long v2), .second, .val (.ref b_1), .val (.int (1 : Int32)), .val (.long k1), .second, .val (.long k2), .second, .val (.int (2 : Int32)), .unset] [])
        have hle_15 : 1 ≤ n2__14.toInt ∧ n2__14.toInt ≤ 1 := by have q1 := p_14_7; have q2 := (trivial : True); have q3 : (0 : Int32).toInt = 0 := (by decide); omega
        have hk_16 : ¬ (n2__14 = (0 : Int32)) := own_pos hle_15.1
        refine Go.st (fun _ => XS.iload X_14.here hx rfl (hb hby at_66) rfl) ?_
        show Go p e below s _ _ _ T_14 (mkF m 68 #[.val (.int nx), .val (.int fx), .val (.long k1), .second, .val (.long v1), .second, .val (.long k2), .second, .val (.long v2), .second, .val (.ref b_1), .val (.int (1 : Int32)), .val (.long k1), .second, .val (.long k2), .second, .val (.int (2 : Int32)), .unset] [(.int (2 : Int32))])
        refine Go.st (fun _ => XS.iconst X_14.here hx rfl (hb hby at_68)) ?_
        show Go p e below s _ _ _ T_14 (mkF m 69 #[.val (.int nx), .val (.int fx), .val (.long k1), .second, .val (.long v1), .second, .val (.long k2), .second, .val (.long v2), .second, .val (.ref b_1), .val (.int (1 : Int32)), .val (.long k1), .second, .val (.long k2), .second, .val (.int (2 : Int32)), .unset] [(.int (2 : Int32)), (.int (2 : Int32))])
        refine Go.st (fun _ => XS.icmpNo X_14.here hx rfl (hb hby at_69) rfl (flt (by decide : ¬ ((2 : Int32) < (2 : Int32)))).1) ?_
        show Go p e below s _ _ _ T_14 (mkF m 72 #[.val (.int nx), .val (.int fx), .val (.long k1), .second, .val (.long v1), .second, .val (.long k2), .second, .val (.long v2), .second, .val (.ref b_1), .val (.int (1 : Int32)), .val (.long k1), .second, .val (.long k2), .second, .val (.int (2 : Int32)), .unset] [])
        refine Go.st (fun _ => XS.aload X_14.here hx rfl (hb hby at_72) rfl rfl) ?_
        show Go p e below s _ _ _ T_14 (mkF m 74 #[.val (.int nx), .val (.int fx), .val (.long k1), .second, .val (.long v1), .second, .val (.long k2), .second, .val (.long v2), .second, .val (.ref b_1), .val (.int (1 : Int32)), .val (.long k1), .second, .val (.long k2), .second, .val (.int (2 : Int32)), .unset] [(.ref b_1)])
        refine Go.st (fun _ => XS.lload X_14.here hx rfl (hb hby at_74) rfl) ?_
        show Go p e below s _ _ _ T_14 (mkF m 76 #[.val (.int nx), .val (.int fx), .val (.long k1), .second, .val (.long v1), .second, .val (.long k2), .second, .val (.long v2), .second, .val (.ref b_1), .val (.int (1 : Int32)), .val (.long k1), .second, .val (.long k2), .second, .val (.int (2 : Int32)), .unset] [(.long k2), (.ref b_1)])
        refine Go.st (fun _ => XS.lload X_14.here hx rfl (hb hby at_76) rfl) ?_
        show Go p e below s _ _ _ T_14 (mkF m 78 #[.val (.int nx), .val (.int fx), .val (.long k1), .second, .val (.long v1), .second, .val (.long k2), .second, .val (.long v2), .second, .val (.ref b_1), .val (.int (1 : Int32)), .val (.long k1), .second, .val (.long k2), .second, .val (.int (2 : Int32)), .unset] [(.long v2), (.long k2), (.ref b_1)])
        obtain ⟨cq_17, kq_17, q_17a, q_17b, q_17c⟩ := isOf hZ e_14 p_14_0
        obtain ⟨_, _, ⟨T_17, L_17, kc_17, nc_17⟩, -, X_17, ⟨Lc_17, hQ_17, l_17, y_17, z_17⟩, st_17⟩ := X_14.virtualBack hx (y := (⟨"kasane/util/LongLongMap", "put", "(JJ)V"⟩ : MethodName)) (z := (⟨"kasane/util/LongLongMap", "put", "(JJ)V"⟩ : MethodName)) hown (mvT hZ (hw _ (List.mem_of_getElem? (i := 29) rfl))) (mvT hZ (hw _ (List.mem_of_getElem? (i := 30) rfl))) (notFace_of_selects (args := #[]) (mvT hZ (hw _ (List.mem_of_getElem? (i := 32) rfl)))) (mvT hZ (hw _ (List.mem_of_getElem? (i := 32) rfl))) (mvT hZ (hw _ (List.mem_of_getElem? (i := 31) rfl))) (by decide) (backOf (W := 0) (rmPu l Z a0 hw [] b_1 k2 v2 t__2 kt__2 ks2__14 n2__14 f2__14 r2__14 h_14 n0 z_14q p_14_0 p_14_1 p_14_2 p_14_3 p_14_4 p_14_5 gg_1 p_2_1 ne_b_1_t__2 p_14_6 (by have q := hle_15; omega)) hZ (hw _ (List.mem_of_getElem? (i := 33) rfl)) (hw _ (List.mem_of_getElem? (i := 2) rfl)) (by decide) (by decide)) q_17a q_17c (g := (mkF m 78 #[.val (.int nx), .val (.int fx), .val (.long k1), .second, .val (.long v1), .second, .val (.long k2), .second, .val (.long v2), .second, .val (.ref b_1), .val (.int (1 : Int32)), .val (.long k1), .second, .val (.long k2), .second, .val (.int (2 : Int32)), .unset] [(.long v2), (.long k2), (.ref b_1)])) rfl (by rw [hml]; rfl) (Steps.refl _) (argsL := [(.long k2), (.long v2)]) (rest := []) (lenOf pd_7 rfl) rfl (by show 2 * 0 + _ ≤ _; exact Nat.le_of_eq rfl) (hb hby at_78) (fun _ _ => ⟨rfl, e_14, (by decide : 2 + 0 ≤ _), (by decide : 20 + 0 ≤ _)⟩)
        dsimp only [Pt.U, Pt.locs, Pt.cells, Pt.slots] at X_17 l_17 y_17 z_17 st_17 hQ_17
        subst l_17 y_17 z_17
        obtain ⟨h_17, e_17⟩ : ∃ hh, T_17.heap = hh := ⟨_, rfl⟩
        rw [e_17] at hQ_17
        obtain ⟨ks2__17, n2__17, f2__17, r2__17, rfl, N_17q, K_17, p_17_0, p_17_1, p_17_2, p_17_3, p_17_4, p_17_5, p_17_6, p_17_7⟩ := hQ_17
        have N_17 := Fr.app N_14 N_17q
        refine Go.st (fun _ kk => st_17.trans kk) ?_
        have z_17q : n0 ≤ h_17.size := Nat.le_trans z_14q K_17.1
        show Go p e below s _ _ _ T_17 (mkF m 81 #[.val (.int nx), .val (.int fx), .val (.long k1), .second, .val (.long v1), .second, .val (.long k2), .second, .val (.long v2), .second, .val (.ref b_1), .val (.int (1 : Int32)), .val (.long k1), .second, .val (.long k2), .second, .val (.int (2 : Int32)), .unset] [])
        have hle_18 : 1 ≤ n2__17.toInt ∧ n2__17.toInt ≤ 2 := by have q1 := p_17_7; have q2 := hle_15; omega
        have hk_19 : ¬ (n2__17 = (0 : Int32)) := own_pos hle_18.1
        refine Go.st (fun _ => XS.iload X_17.here hx rfl (hb hby at_81) rfl) ?_
        show Go p e below s _ _ _ T_17 (mkF m 83 #[.val (.int nx), .val (.int fx), .val (.long k1), .second, .val (.long v1), .second, .val (.long k2), .second, .val (.long v2), .second, .val (.ref b_1), .val (.int (1 : Int32)), .val (.long k1), .second, .val (.long k2), .second, .val (.int (2 : Int32)), .unset] [(.int (2 : Int32))])
        refine Go.st (fun _ => XS.iconst X_17.here hx rfl (hb hby at_83)) ?_
        show Go p e below s _ _ _ T_17 (mkF m 84 #[.val (.int nx), .val (.int fx), .val (.long k1), .second, .val (.long v1), .second, .val (.long k2), .second, .val (.long v2), .second, .val (.ref b_1), .val (.int (1 : Int32)), .val (.long k1), .second, .val (.long k2), .second, .val (.int (2 : Int32)), .unset] [(.int (3 : Int32)), (.int (2 : Int32))])
        refine Go.st (fun _ => XS.icmpYes X_17.here hx rfl (pc0 := 84) (pc' := 96) rfl (hb hby at_84) rfl (tlt (by decide : (2 : Int32) < (3 : Int32))).1 (by decide) (by decide)) ?_
        show Go p e below s _ _ _ T_17 (mkF m 96 #[.val (.int nx), .val (.int fx), .val (.long k1), .second, .val (.long v1), .second, .val (.long k2), .second, .val (.long v2), .second, .val (.ref b_1), .val (.int (1 : Int32)), .val (.long k1), .second, .val (.long k2), .second, .val (.int (2 : Int32)), .unset] [])
        refine Go.st (fun _ => XS.aload X_17.here hx rfl (hb hby at_96) rfl rfl) ?_
        show Go p e below s _ _ _ T_17 (mkF m 98 #[.val (.int nx), .val (.int fx), .val (.long k1), .second, .val (.long v1), .second, .val (.long k2), .second, .val (.long v2), .second, .val (.ref b_1), .val (.int (1 : Int32)), .val (.long k1), .second, .val (.long k2), .second, .val (.int (2 : Int32)), .unset] [(.ref b_1)])
        obtain ⟨cq_20, kq_20, q_20a, q_20b, q_20c⟩ := isOf hZ e_17 p_17_0
        obtain ⟨_, _, ⟨T_20, L_20, kc_20, nc_20⟩, -, X_20, ⟨Lc_20, hQ_20, l_20, y_20, z_20⟩, st_20⟩ := X_17.virtualBack hx (y := (⟨"kasane/util/LongLongMap", "isEmpty", "()Z"⟩ : MethodName)) (z := (⟨"kasane/util/LongLongMap", "isEmpty", "()Z"⟩ : MethodName)) hown (mvT hZ (hw _ (List.mem_of_getElem? (i := 16) rfl))) (mvT hZ (hw _ (List.mem_of_getElem? (i := 17) rfl))) (notFace_of_selects (args := #[]) (mvT hZ (hw _ (List.mem_of_getElem? (i := 19) rfl)))) (mvT hZ (hw _ (List.mem_of_getElem? (i := 19) rfl))) (mvT hZ (hw _ (List.mem_of_getElem? (i := 18) rfl))) (by decide) (backOf (W := 0) (rmEm l Z a0 hw [] b_1 n2__17 h_17 n0 z_17q p_17_2) hZ (hw _ (List.mem_of_getElem? (i := 20) rfl)) (hw _ (List.mem_of_getElem? (i := 2) rfl)) (by decide) (by decide)) q_20a q_20c (g := (mkF m 98 #[.val (.int nx), .val (.int fx), .val (.long k1), .second, .val (.long v1), .second, .val (.long k2), .second, .val (.long v2), .second, .val (.ref b_1), .val (.int (1 : Int32)), .val (.long k1), .second, .val (.long k2), .second, .val (.int (2 : Int32)), .unset] [(.ref b_1)])) rfl (by rw [hml]; rfl) (Steps.refl _) (argsL := []) (rest := []) (lenOf pd_6 rfl) rfl (by show 2 * 0 + _ ≤ _; exact Nat.le_of_eq rfl) (hb hby at_98) (fun _ _ => ⟨rfl, e_17, (by decide : 2 + 0 ≤ _), (by decide : 20 + 0 ≤ _)⟩)
        dsimp only [Pt.U, Pt.locs, Pt.cells, Pt.slots] at X_20 l_20 y_20 z_20 st_20 hQ_20
        subst l_20 y_20 z_20
        obtain ⟨h_20, e_20⟩ : ∃ hh, T_20.heap = hh := ⟨_, rfl⟩
        rw [e_20] at hQ_20
        obtain ⟨rfl, N_20q, sm_20⟩ := hQ_20
        have N_20 := Fr.app N_17 N_20q
        refine Go.st (fun _ kk => st_20.trans kk) ?_
        rw [sm_20] at e_20
        show Go p e below s _ _ _ T_20 (mkF m 101 #[.val (.int nx), .val (.int fx), .val (.long k1), .second, .val (.long v1), .second, .val (.long k2), .second, .val (.long v2), .second, .val (.ref b_1), .val (.int (1 : Int32)), .val (.long k1), .second, .val (.long k2), .second, .val (.int (2 : Int32)), .unset] [(.int (b2i (n2__17 = (0 : Int32))))])
        rw [show (b2i (n2__17 = (0 : Int32))) = (0 : Int32) from b2i_neg hk_19]
        show Go p e below s _ _ _ T_20 (mkF m 101 #[.val (.int nx), .val (.int fx), .val (.long k1), .second, .val (.long v1), .second, .val (.long k2), .second, .val (.long v2), .second, .val (.ref b_1), .val (.int (1 : Int32)), .val (.long k1), .second, .val (.long k2), .second, .val (.int (2 : Int32)), .unset] [(.int (0 : Int32))])
        refine Go.st (fun _ => XS.istore X_20.here hx rfl (hb hby at_101) rfl (l' := #[.val (.int nx), .val (.int fx), .val (.long k1), .second, .val (.long v1), .second, .val (.long k2), .second, .val (.long v2), .second, .val (.ref b_1), .val (.int (1 : Int32)), .val (.long k1), .second, .val (.long k2), .second, .val (.int (2 : Int32)), .val (.int (0 : Int32))]) rfl) ?_
        show Go p e below s _ _ _ T_20 (mkF m 103 #[.val (.int nx), .val (.int fx), .val (.long k1), .second, .val (.long v1), .second, .val (.long k2), .second, .val (.long v2), .second, .val (.ref b_1), .val (.int (1 : Int32)), .val (.long k1), .second, .val (.long k2), .second, .val (.int (2 : Int32)), .val (.int (0 : Int32))] [])
        refine Go.st (fun _ => XS.iload X_20.here hx rfl (hb hby at_103) rfl) ?_
        show Go p e below s _ _ _ T_20 (mkF m 105 #[.val (.int nx), .val (.int fx), .val (.long k1), .second, .val (.long v1), .second, .val (.long k2), .second, .val (.long v2), .second, .val (.ref b_1), .val (.int (1 : Int32)), .val (.long k1), .second, .val (.long k2), .second, .val (.int (2 : Int32)), .val (.int (0 : Int32))] [(.int (1 : Int32))])
        refine Go.st (fun _ => XS.ifNo X_20.here hx rfl (hb hby at_105) rfl ((if0 _ _).trans (feq (by decide : ¬ ((1 : Int32) = (0 : Int32)))).1)) ?_
        show Go p e below s _ _ _ T_20 (mkF m 108 #[.val (.int nx), .val (.int fx), .val (.long k1), .second, .val (.long v1), .second, .val (.long k2), .second, .val (.long v2), .second, .val (.ref b_1), .val (.int (1 : Int32)), .val (.long k1), .second, .val (.long k2), .second, .val (.int (2 : Int32)), .val (.int (0 : Int32))] [])
        refine Go.st (fun _ => XS.iload X_20.here hx rfl (hb hby at_108) rfl) ?_
        show Go p e below s _ _ _ T_20 (mkF m 110 #[.val (.int nx), .val (.int fx), .val (.long k1), .second, .val (.long v1), .second, .val (.long k2), .second, .val (.long v2), .second, .val (.ref b_1), .val (.int (1 : Int32)), .val (.long k1), .second, .val (.long k2), .second, .val (.int (2 : Int32)), .val (.int (0 : Int32))] [(.int (0 : Int32))])
        refine Go.st (fun _ => XS.iload X_20.here hx rfl (hb hby at_110) rfl) ?_
        show Go p e below s _ _ _ T_20 (mkF m 112 #[.val (.int nx), .val (.int fx), .val (.long k1), .second, .val (.long v1), .second, .val (.long k2), .second, .val (.long v2), .second, .val (.ref b_1), .val (.int (1 : Int32)), .val (.long k1), .second, .val (.long k2), .second, .val (.int (2 : Int32)), .val (.int (0 : Int32))] [(.int (2 : Int32)), (.int (0 : Int32))])
        refine Go.st (fun _ => XS.ifYes X_20.here hx rfl (pc0 := 112) (pc' := 119) rfl (hb hby at_112) rfl ((if0 _ _).trans (feq (by decide : ¬ ((2 : Int32) = (0 : Int32)))).2) (by decide) (by decide)) ?_
        show Go p e below s _ _ _ T_20 (mkF m 119 #[.val (.int nx), .val (.int fx), .val (.long k1), .second, .val (.long v1), .second, .val (.long k2), .second, .val (.long v2), .second, .val (.ref b_1), .val (.int (1 : Int32)), .val (.long k1), .second, .val (.long k2), .second, .val (.int (2 : Int32)), .val (.int (0 : Int32))] [(.int (0 : Int32))])
        refine Go.st (fun _ => XS.iconst X_20.here hx rfl (hb hby at_119)) ?_
        show Go p e below s _ _ _ T_20 (mkF m 120 #[.val (.int nx), .val (.int fx), .val (.long k1), .second, .val (.long v1), .second, .val (.long k2), .second, .val (.long v2), .second, .val (.ref b_1), .val (.int (1 : Int32)), .val (.long k1), .second, .val (.long k2), .second, .val (.int (2 : Int32)), .val (.int (0 : Int32))] [(.int (0 : Int32)), (.int (0 : Int32))])
        refine Go.st (fun _ => XS.icmpNo X_20.here hx rfl (hb hby at_120) rfl (teq (by decide : (0 : Int32) = (0 : Int32))).2) ?_
        show Go p e below s _ _ _ T_20 (mkF m 123 #[.val (.int nx), .val (.int fx), .val (.long k1), .second, .val (.long v1), .second, .val (.long k2), .second, .val (.long v2), .second, .val (.ref b_1), .val (.int (1 : Int32)), .val (.long k1), .second, .val (.long k2), .second, .val (.int (2 : Int32)), .val (.int (0 : Int32))] [])
        refine Go.st (fun _ => XS.iload X_20.here hx rfl (hb hby at_123) rfl) ?_
        show Go p e below s _ _ _ T_20 (mkF m 125 #[.val (.int nx), .val (.int fx), .val (.long k1), .second, .val (.long v1), .second, .val (.long k2), .second, .val (.long v2), .second, .val (.ref b_1), .val (.int (1 : Int32)), .val (.long k1), .second, .val (.long k2), .second, .val (.int (2 : Int32)), .val (.int (0 : Int32))] [(.int (0 : Int32))])
        refine Go.st (fun _ => XS.aload X_20.here hx rfl (hb hby at_125) rfl rfl) ?_
        show Go p e below s _ _ _ T_20 (mkF m 127 #[.val (.int nx), .val (.int fx), .val (.long k1), .second, .val (.long v1), .second, .val (.long k2), .second, .val (.long v2), .second, .val (.ref b_1), .val (.int (1 : Int32)), .val (.long k1), .second, .val (.long k2), .second, .val (.int (2 : Int32)), .val (.int (0 : Int32))] [(.ref b_1), (.int (0 : Int32))])
        obtain ⟨cq_21, kq_21, q_21a, q_21b, q_21c⟩ := isOf hZ e_20 p_17_0
        obtain ⟨_, _, ⟨T_21, L_21, kc_21, nc_21⟩, -, X_21, ⟨Lc_21, hQ_21, l_21, y_21, z_21⟩, st_21⟩ := X_20.virtualBack hx (y := (⟨"kasane/util/LongLongMap", "size", "()I"⟩ : MethodName)) (z := (⟨"kasane/util/LongLongMap", "size", "()I"⟩ : MethodName)) hown (mvT hZ (hw _ (List.mem_of_getElem? (i := 24) rfl))) (mvT hZ (hw _ (List.mem_of_getElem? (i := 25) rfl))) (notFace_of_selects (args := #[]) (mvT hZ (hw _ (List.mem_of_getElem? (i := 27) rfl)))) (mvT hZ (hw _ (List.mem_of_getElem? (i := 27) rfl))) (mvT hZ (hw _ (List.mem_of_getElem? (i := 26) rfl))) (by decide) (backOf (W := 1) (rmSz l Z a0 hw [] b_1 n2__17 h_17 n0 z_17q p_17_2) hZ (hw _ (List.mem_of_getElem? (i := 28) rfl)) (hw _ (List.mem_of_getElem? (i := 2) rfl)) (by decide) (by decide)) q_21a q_21c (g := (mkF m 127 #[.val (.int nx), .val (.int fx), .val (.long k1), .second, .val (.long v1), .second, .val (.long k2), .second, .val (.long v2), .second, .val (.ref b_1), .val (.int (1 : Int32)), .val (.long k1), .second, .val (.long k2), .second, .val (.int (2 : Int32)), .val (.int (0 : Int32))] [(.ref b_1), (.int (0 : Int32))])) rfl (by rw [hml]; rfl) (Steps.refl _) (argsL := []) (rest := [(.int (0 : Int32))]) (lenOf pd_2 rfl) rfl (by show 2 * 0 + _ ≤ _; exact Nat.le_of_eq rfl) (hb hby at_127) (fun _ _ => ⟨rfl, e_20, (by decide : 2 + 0 ≤ _), (by decide : 20 + 0 ≤ _)⟩)
        dsimp only [Pt.U, Pt.locs, Pt.cells, Pt.slots] at X_21 l_21 y_21 z_21 st_21 hQ_21
        subst l_21 y_21 z_21
        obtain ⟨h_21, e_21⟩ : ∃ hh, T_21.heap = hh := ⟨_, rfl⟩
        rw [e_21] at hQ_21
        obtain ⟨rfl, N_21q, sm_21⟩ := hQ_21
        have N_21 := Fr.app N_20 N_21q
        refine Go.st (fun _ kk => st_21.trans kk) ?_
        rw [sm_21] at e_21
        show Go p e below s _ _ _ T_21 (mkF m 130 #[.val (.int nx), .val (.int fx), .val (.long k1), .second, .val (.long v1), .second, .val (.long k2), .second, .val (.long v2), .second, .val (.ref b_1), .val (.int (1 : Int32)), .val (.long k1), .second, .val (.long k2), .second, .val (.int (2 : Int32)), .val (.int (0 : Int32))] [(.int n2__17), (.int (0 : Int32))])
        refine Go.st (fun _ => XS.ifYes X_21.here hx rfl (pc0 := 130) (pc' := 137) rfl (hb hby at_130) rfl ((if0 _ _).trans (feq hk_19).2) (by decide) (by decide)) ?_
        show Go p e below s _ _ _ T_21 (mkF m 137 #[.val (.int nx), .val (.int fx), .val (.long k1), .second, .val (.long v1), .second, .val (.long k2), .second, .val (.long v2), .second, .val (.ref b_1), .val (.int (1 : Int32)), .val (.long k1), .second, .val (.long k2), .second, .val (.int (2 : Int32)), .val (.int (0 : Int32))] [(.int (0 : Int32))])
        refine Go.st (fun _ => XS.iconst X_21.here hx rfl (hb hby at_137)) ?_
        show Go p e below s _ _ _ T_21 (mkF m 138 #[.val (.int nx), .val (.int fx), .val (.long k1), .second, .val (.long v1), .second, .val (.long k2), .second, .val (.long v2), .second, .val (.ref b_1), .val (.int (1 : Int32)), .val (.long k1), .second, .val (.long k2), .second, .val (.int (2 : Int32)), .val (.int (0 : Int32))] [(.int (0 : Int32)), (.int (0 : Int32))])
        refine Go.st (fun _ => XS.icmpNo X_21.here hx rfl (hb hby at_138) rfl (teq (by decide : (0 : Int32) = (0 : Int32))).2) ?_
        show Go p e below s _ _ _ T_21 (mkF m 141 #[.val (.int nx), .val (.int fx), .val (.long k1), .second, .val (.long v1), .second, .val (.long k2), .second, .val (.long v2), .second, .val (.ref b_1), .val (.int (1 : Int32)), .val (.long k1), .second, .val (.long k2), .second, .val (.int (2 : Int32)), .val (.int (0 : Int32))] [])
        refine Go.st (fun _ => XS.iconst X_21.here hx rfl (hb hby at_141)) ?_
        show Go p e below s _ _ _ T_21 (mkF m 142 #[.val (.int nx), .val (.int fx), .val (.long k1), .second, .val (.long v1), .second, .val (.long k2), .second, .val (.long v2), .second, .val (.ref b_1), .val (.int (1 : Int32)), .val (.long k1), .second, .val (.long k2), .second, .val (.int (2 : Int32)), .val (.int (0 : Int32))] [(.int (1 : Int32))])
        refine Go.st (fun _ => XS.goto X_21.here hx rfl (pc0 := 142) (pc' := 146) rfl (hb hby at_142) (by decide) (by decide)) ?_
        show Go p e below s _ _ _ T_21 (mkF m 146 #[.val (.int nx), .val (.int fx), .val (.long k1), .second, .val (.long v1), .second, .val (.long k2), .second, .val (.long v2), .second, .val (.ref b_1), .val (.int (1 : Int32)), .val (.long k1), .second, .val (.long k2), .second, .val (.int (2 : Int32)), .val (.int (0 : Int32))] [(.int (1 : Int32))])
        exact Go.retZ X_21 hx hlk Bd.returns (hb hby at_146) rfl (by rw [e_21]; exact ⟨rfl, N_21⟩) (by decide) (by decide)
      · rw [show (nx &&& (3 : Int32)) = (3 : Int32) from hd_6]
        show Go p e below s _ _ _ T_3 (mkF m 49 #[.val (.int nx), .val (.int fx), .val (.long k1), .second, .val (.long v1), .second, .val (.long k2), .second, .val (.long v2), .second, .val (.ref b_1), .val (.int (1 : Int32)), .val (.long k1), .second, .val (.long k2), .second, .unset, .unset] [(.int (3 : Int32))])
        refine Go.st (fun _ => XS.istore X_3.here hx rfl (hb hby at_49) rfl (l' := #[.val (.int nx), .val (.int fx), .val (.long k1), .second, .val (.long v1), .second, .val (.long k2), .second, .val (.long v2), .second, .val (.ref b_1), .val (.int (1 : Int32)), .val (.long k1), .second, .val (.long k2), .second, .val (.int (3 : Int32)), .unset]) rfl) ?_
        show Go p e below s _ _ _ T_3 (mkF m 51 #[.val (.int nx), .val (.int fx), .val (.long k1), .second, .val (.long v1), .second, .val (.long k2), .second, .val (.long v2), .second, .val (.ref b_1), .val (.int (1 : Int32)), .val (.long k1), .second, .val (.long k2), .second, .val (.int (3 : Int32)), .unset] [])
        refine Go.st (fun _ => XS.iload X_3.here hx rfl (hb hby at_51) rfl) ?_
        show Go p e below s _ _ _ T_3 (mkF m 53 #[.val (.int nx), .val (.int fx), .val (.long k1), .second, .val (.long v1), .second, .val (.long k2), .second, .val (.long v2), .second, .val (.ref b_1), .val (.int (1 : Int32)), .val (.long k1), .second, .val (.long k2), .second, .val (.int (3 : Int32)), .unset] [(.int (3 : Int32))])
        refine Go.st (fun _ => XS.iconst X_3.here hx rfl (hb hby at_53)) ?_
        show Go p e below s _ _ _ T_3 (mkF m 54 #[.val (.int nx), .val (.int fx), .val (.long k1), .second, .val (.long v1), .second, .val (.long k2), .second, .val (.long v2), .second, .val (.ref b_1), .val (.int (1 : Int32)), .val (.long k1), .second, .val (.long k2), .second, .val (.int (3 : Int32)), .unset] [(.int (1 : Int32)), (.int (3 : Int32))])
        refine Go.st (fun _ => XS.icmpNo X_3.here hx rfl (hb hby at_54) rfl (flt (by decide : ¬ ((3 : Int32) < (1 : Int32)))).1) ?_
        show Go p e below s _ _ _ T_3 (mkF m 57 #[.val (.int nx), .val (.int fx), .val (.long k1), .second, .val (.long v1), .second, .val (.long k2), .second, .val (.long v2), .second, .val (.ref b_1), .val (.int (1 : Int32)), .val (.long k1), .second, .val (.long k2), .second, .val (.int (3 : Int32)), .unset] [])
        refine Go.st (fun _ => XS.aload X_3.here hx rfl (hb hby at_57) rfl rfl) ?_
        show Go p e below s _ _ _ T_3 (mkF m 59 #[.val (.int nx), .val (.int fx), .val (.long k1), .second, .val (.long v1), .second, .val (.long k2), .second, .val (.long v2), .second, .val (.ref b_1), .val (.int (1 : Int32)), .val (.long k1), .second, .val (.long k2), .second, .val (.int (3 : Int32)), .unset] [(.ref b_1)])
        refine Go.st (fun _ => XS.lload X_3.here hx rfl (hb hby at_59) rfl) ?_
        show Go p e below s _ _ _ T_3 (mkF m 61 #[.val (.int nx), .val (.int fx), .val (.long k1), .second, .val (.long v1), .second, .val (.long k2), .second, .val (.long v2), .second, .val (.ref b_1), .val (.int (1 : Int32)), .val (.long k1), .second, .val (.long k2), .second, .val (.int (3 : Int32)), .unset] [(.long k1), (.ref b_1)])
        refine Go.st (fun _ => XS.lload X_3.here hx rfl (hb hby at_61) rfl) ?_
        show Go p e below s _ _ _ T_3 (mkF m 63 #[.val (.int nx), .val (.int fx), .val (.long k1), .second, .val (.long v1), .second, .val (.long k2), .second, .val (.long v2), .second, .val (.ref b_1), .val (.int (1 : Int32)), .val (.long k1), .second, .val (.long k2), .second, .val (.int (3 : Int32)), .unset] [(.long v1), (.long k1), (.ref b_1)])
        obtain ⟨cq_22, kq_22, q_22a, q_22b, q_22c⟩ := isOf hZ e_3 p_2_2
        obtain ⟨_, _, ⟨T_22, L_22, kc_22, nc_22⟩, -, X_22, ⟨Lc_22, hQ_22, l_22, y_22, z_22⟩, st_22⟩ := X_3.virtualBack hx (y := (⟨"kasane/util/LongLongMap", "put", "(JJ)V"⟩ : MethodName)) (z := (⟨"kasane/util/LongLongMap", "put", "(JJ)V"⟩ : MethodName)) hown (mvT hZ (hw _ (List.mem_of_getElem? (i := 29) rfl))) (mvT hZ (hw _ (List.mem_of_getElem? (i := 30) rfl))) (notFace_of_selects (args := #[]) (mvT hZ (hw _ (List.mem_of_getElem? (i := 32) rfl)))) (mvT hZ (hw _ (List.mem_of_getElem? (i := 32) rfl))) (mvT hZ (hw _ (List.mem_of_getElem? (i := 31) rfl))) (by decide) (backOf (W := 0) (rmPu l Z a0 hw [] b_1 k1 v1 t__2 kt__2 [(-9223372036854775808 : Int64), (0 : Int64), (-9223372036854775808 : Int64), (0 : Int64), (-9223372036854775808 : Int64), (0 : Int64), (-9223372036854775808 : Int64), (0 : Int64), (-9223372036854775808 : Int64), (0 : Int64), (-9223372036854775808 : Int64), (0 : Int64), (-9223372036854775808 : Int64), (0 : Int64), (-9223372036854775808 : Int64), (0 : Int64)] (0 : Int32) (0 : Int32) (0 : Int64) h_2 n0 z_2q p_2_2 p_2_3 p_2_4 p_2_5 p_2_6 vm0 gg_1 p_2_1 ne_b_1_t__2 own_inv0 (by decide)) hZ (hw _ (List.mem_of_getElem? (i := 33) rfl)) (hw _ (List.mem_of_getElem? (i := 2) rfl)) (by decide) (by decide)) q_22a q_22c (g := (mkF m 63 #[.val (.int nx), .val (.int fx), .val (.long k1), .second, .val (.long v1), .second, .val (.long k2), .second, .val (.long v2), .second, .val (.ref b_1), .val (.int (1 : Int32)), .val (.long k1), .second, .val (.long k2), .second, .val (.int (3 : Int32)), .unset] [(.long v1), (.long k1), (.ref b_1)])) rfl (by rw [hml]; rfl) (Steps.refl _) (argsL := [(.long k1), (.long v1)]) (rest := []) (lenOf pd_7 rfl) rfl (by show 2 * 0 + _ ≤ _; exact Nat.le_of_eq rfl) (hb hby at_63) (fun _ _ => ⟨rfl, e_3, (by decide : 2 + 0 ≤ _), (by decide : 20 + 0 ≤ _)⟩)
        dsimp only [Pt.U, Pt.locs, Pt.cells, Pt.slots] at X_22 l_22 y_22 z_22 st_22 hQ_22
        subst l_22 y_22 z_22
        obtain ⟨h_22, e_22⟩ : ∃ hh, T_22.heap = hh := ⟨_, rfl⟩
        rw [e_22] at hQ_22
        obtain ⟨ks2__22, n2__22, f2__22, r2__22, rfl, N_22q, K_22, p_22_0, p_22_1, p_22_2, p_22_3, p_22_4, p_22_5, p_22_6, p_22_7⟩ := hQ_22
        have N_22 := Fr.app N_3 N_22q
        refine Go.st (fun _ kk => st_22.trans kk) ?_
        have z_22q : n0 ≤ h_22.size := Nat.le_trans z_2q K_22.1
        show Go p e below s _ _ _ T_22 (mkF m 66 #[.val (.int nx), .val (.int fx), .val (.long k1), .second, .val (.long v1), .second, .val (.long k2), .second, .val (.long v2), .second, .val (.ref b_1), .val (.int (1 : Int32)), .val (.long k1), .second, .val (.long k2), .second, .val (.int (3 : Int32)), .unset] [])
        have hle_23 : 1 ≤ n2__22.toInt ∧ n2__22.toInt ≤ 1 := by have q1 := p_22_7; have q2 := (trivial : True); have q3 : (0 : Int32).toInt = 0 := (by decide); omega
        have hk_24 : ¬ (n2__22 = (0 : Int32)) := own_pos hle_23.1
        refine Go.st (fun _ => XS.iload X_22.here hx rfl (hb hby at_66) rfl) ?_
        show Go p e below s _ _ _ T_22 (mkF m 68 #[.val (.int nx), .val (.int fx), .val (.long k1), .second, .val (.long v1), .second, .val (.long k2), .second, .val (.long v2), .second, .val (.ref b_1), .val (.int (1 : Int32)), .val (.long k1), .second, .val (.long k2), .second, .val (.int (3 : Int32)), .unset] [(.int (3 : Int32))])
        refine Go.st (fun _ => XS.iconst X_22.here hx rfl (hb hby at_68)) ?_
        show Go p e below s _ _ _ T_22 (mkF m 69 #[.val (.int nx), .val (.int fx), .val (.long k1), .second, .val (.long v1), .second, .val (.long k2), .second, .val (.long v2), .second, .val (.ref b_1), .val (.int (1 : Int32)), .val (.long k1), .second, .val (.long k2), .second, .val (.int (3 : Int32)), .unset] [(.int (2 : Int32)), (.int (3 : Int32))])
        refine Go.st (fun _ => XS.icmpNo X_22.here hx rfl (hb hby at_69) rfl (flt (by decide : ¬ ((3 : Int32) < (2 : Int32)))).1) ?_
        show Go p e below s _ _ _ T_22 (mkF m 72 #[.val (.int nx), .val (.int fx), .val (.long k1), .second, .val (.long v1), .second, .val (.long k2), .second, .val (.long v2), .second, .val (.ref b_1), .val (.int (1 : Int32)), .val (.long k1), .second, .val (.long k2), .second, .val (.int (3 : Int32)), .unset] [])
        refine Go.st (fun _ => XS.aload X_22.here hx rfl (hb hby at_72) rfl rfl) ?_
        show Go p e below s _ _ _ T_22 (mkF m 74 #[.val (.int nx), .val (.int fx), .val (.long k1), .second, .val (.long v1), .second, .val (.long k2), .second, .val (.long v2), .second, .val (.ref b_1), .val (.int (1 : Int32)), .val (.long k1), .second, .val (.long k2), .second, .val (.int (3 : Int32)), .unset] [(.ref b_1)])
        refine Go.st (fun _ => XS.lload X_22.here hx rfl (hb hby at_74) rfl) ?_
        show Go p e below s _ _ _ T_22 (mkF m 76 #[.val (.int nx), .val (.int fx), .val (.long k1), .second, .val (.long v1), .second, .val (.long k2), .second, .val (.long v2), .second, .val (.ref b_1), .val (.int (1 : Int32)), .val (.long k1), .second, .val (.long k2), .second, .val (.int (3 : Int32)), .unset] [(.long k2), (.ref b_1)])
        refine Go.st (fun _ => XS.lload X_22.here hx rfl (hb hby at_76) rfl) ?_
        show Go p e below s _ _ _ T_22 (mkF m 78 #[.val (.int nx), .val (.int fx), .val (.long k1), .second, .val (.long v1), .second, .val (.long k2), .second, .val (.long v2), .second, .val (.ref b_1), .val (.int (1 : Int32)), .val (.long k1), .second, .val (.long k2), .second, .val (.int (3 : Int32)), .unset] [(.long v2), (.long k2), (.ref b_1)])
        obtain ⟨cq_25, kq_25, q_25a, q_25b, q_25c⟩ := isOf hZ e_22 p_22_0
        obtain ⟨_, _, ⟨T_25, L_25, kc_25, nc_25⟩, -, X_25, ⟨Lc_25, hQ_25, l_25, y_25, z_25⟩, st_25⟩ := X_22.virtualBack hx (y := (⟨"kasane/util/LongLongMap", "put", "(JJ)V"⟩ : MethodName)) (z := (⟨"kasane/util/LongLongMap", "put", "(JJ)V"⟩ : MethodName)) hown (mvT hZ (hw _ (List.mem_of_getElem? (i := 29) rfl))) (mvT hZ (hw _ (List.mem_of_getElem? (i := 30) rfl))) (notFace_of_selects (args := #[]) (mvT hZ (hw _ (List.mem_of_getElem? (i := 32) rfl)))) (mvT hZ (hw _ (List.mem_of_getElem? (i := 32) rfl))) (mvT hZ (hw _ (List.mem_of_getElem? (i := 31) rfl))) (by decide) (backOf (W := 0) (rmPu l Z a0 hw [] b_1 k2 v2 t__2 kt__2 ks2__22 n2__22 f2__22 r2__22 h_22 n0 z_22q p_22_0 p_22_1 p_22_2 p_22_3 p_22_4 p_22_5 gg_1 p_2_1 ne_b_1_t__2 p_22_6 (by have q := hle_23; omega)) hZ (hw _ (List.mem_of_getElem? (i := 33) rfl)) (hw _ (List.mem_of_getElem? (i := 2) rfl)) (by decide) (by decide)) q_25a q_25c (g := (mkF m 78 #[.val (.int nx), .val (.int fx), .val (.long k1), .second, .val (.long v1), .second, .val (.long k2), .second, .val (.long v2), .second, .val (.ref b_1), .val (.int (1 : Int32)), .val (.long k1), .second, .val (.long k2), .second, .val (.int (3 : Int32)), .unset] [(.long v2), (.long k2), (.ref b_1)])) rfl (by rw [hml]; rfl) (Steps.refl _) (argsL := [(.long k2), (.long v2)]) (rest := []) (lenOf pd_7 rfl) rfl (by show 2 * 0 + _ ≤ _; exact Nat.le_of_eq rfl) (hb hby at_78) (fun _ _ => ⟨rfl, e_22, (by decide : 2 + 0 ≤ _), (by decide : 20 + 0 ≤ _)⟩)
        dsimp only [Pt.U, Pt.locs, Pt.cells, Pt.slots] at X_25 l_25 y_25 z_25 st_25 hQ_25
        subst l_25 y_25 z_25
        obtain ⟨h_25, e_25⟩ : ∃ hh, T_25.heap = hh := ⟨_, rfl⟩
        rw [e_25] at hQ_25
        obtain ⟨ks2__25, n2__25, f2__25, r2__25, rfl, N_25q, K_25, p_25_0, p_25_1, p_25_2, p_25_3, p_25_4, p_25_5, p_25_6, p_25_7⟩ := hQ_25
        have N_25 := Fr.app N_22 N_25q
        refine Go.st (fun _ kk => st_25.trans kk) ?_
        have z_25q : n0 ≤ h_25.size := Nat.le_trans z_22q K_25.1
        show Go p e below s _ _ _ T_25 (mkF m 81 #[.val (.int nx), .val (.int fx), .val (.long k1), .second, .val (.long v1), .second, .val (.long k2), .second, .val (.long v2), .second, .val (.ref b_1), .val (.int (1 : Int32)), .val (.long k1), .second, .val (.long k2), .second, .val (.int (3 : Int32)), .unset] [])
        have hle_26 : 1 ≤ n2__25.toInt ∧ n2__25.toInt ≤ 2 := by have q1 := p_25_7; have q2 := hle_23; omega
        have hk_27 : ¬ (n2__25 = (0 : Int32)) := own_pos hle_26.1
        refine Go.st (fun _ => XS.iload X_25.here hx rfl (hb hby at_81) rfl) ?_
        show Go p e below s _ _ _ T_25 (mkF m 83 #[.val (.int nx), .val (.int fx), .val (.long k1), .second, .val (.long v1), .second, .val (.long k2), .second, .val (.long v2), .second, .val (.ref b_1), .val (.int (1 : Int32)), .val (.long k1), .second, .val (.long k2), .second, .val (.int (3 : Int32)), .unset] [(.int (3 : Int32))])
        refine Go.st (fun _ => XS.iconst X_25.here hx rfl (hb hby at_83)) ?_
        show Go p e below s _ _ _ T_25 (mkF m 84 #[.val (.int nx), .val (.int fx), .val (.long k1), .second, .val (.long v1), .second, .val (.long k2), .second, .val (.long v2), .second, .val (.ref b_1), .val (.int (1 : Int32)), .val (.long k1), .second, .val (.long k2), .second, .val (.int (3 : Int32)), .unset] [(.int (3 : Int32)), (.int (3 : Int32))])
        refine Go.st (fun _ => XS.icmpNo X_25.here hx rfl (hb hby at_84) rfl (flt (by decide : ¬ ((3 : Int32) < (3 : Int32)))).1) ?_
        show Go p e below s _ _ _ T_25 (mkF m 87 #[.val (.int nx), .val (.int fx), .val (.long k1), .second, .val (.long v1), .second, .val (.long k2), .second, .val (.long v2), .second, .val (.ref b_1), .val (.int (1 : Int32)), .val (.long k1), .second, .val (.long k2), .second, .val (.int (3 : Int32)), .unset] [])
        refine Go.st (fun _ => XS.aload X_25.here hx rfl (hb hby at_87) rfl rfl) ?_
        show Go p e below s _ _ _ T_25 (mkF m 89 #[.val (.int nx), .val (.int fx), .val (.long k1), .second, .val (.long v1), .second, .val (.long k2), .second, .val (.long v2), .second, .val (.ref b_1), .val (.int (1 : Int32)), .val (.long k1), .second, .val (.long k2), .second, .val (.int (3 : Int32)), .unset] [(.ref b_1)])
        refine Go.st (fun _ => XS.lload X_25.here hx rfl (hb hby at_89) rfl) ?_
        show Go p e below s _ _ _ T_25 (mkF m 91 #[.val (.int nx), .val (.int fx), .val (.long k1), .second, .val (.long v1), .second, .val (.long k2), .second, .val (.long v2), .second, .val (.ref b_1), .val (.int (1 : Int32)), .val (.long k1), .second, .val (.long k2), .second, .val (.int (3 : Int32)), .unset] [(.long k2), (.ref b_1)])
        refine Go.st (fun _ => XS.lload X_25.here hx rfl (hb hby at_91) rfl) ?_
        show Go p e below s _ _ _ T_25 (mkF m 93 #[.val (.int nx), .val (.int fx), .val (.long k1), .second, .val (.long v1), .second, .val (.long k2), .second, .val (.long v2), .second, .val (.ref b_1), .val (.int (1 : Int32)), .val (.long k1), .second, .val (.long k2), .second, .val (.int (3 : Int32)), .unset] [(.long v1), (.long k2), (.ref b_1)])
        obtain ⟨cq_28, kq_28, q_28a, q_28b, q_28c⟩ := isOf hZ e_25 p_25_0
        obtain ⟨_, _, ⟨T_28, L_28, kc_28, nc_28⟩, -, X_28, ⟨Lc_28, hQ_28, l_28, y_28, z_28⟩, st_28⟩ := X_25.virtualBack hx (y := (⟨"kasane/util/LongLongMap", "put", "(JJ)V"⟩ : MethodName)) (z := (⟨"kasane/util/LongLongMap", "put", "(JJ)V"⟩ : MethodName)) hown (mvT hZ (hw _ (List.mem_of_getElem? (i := 29) rfl))) (mvT hZ (hw _ (List.mem_of_getElem? (i := 30) rfl))) (notFace_of_selects (args := #[]) (mvT hZ (hw _ (List.mem_of_getElem? (i := 32) rfl)))) (mvT hZ (hw _ (List.mem_of_getElem? (i := 32) rfl))) (mvT hZ (hw _ (List.mem_of_getElem? (i := 31) rfl))) (by decide) (backOf (W := 0) (rmPu l Z a0 hw [] b_1 k2 v1 t__2 kt__2 ks2__25 n2__25 f2__25 r2__25 h_25 n0 z_25q p_25_0 p_25_1 p_25_2 p_25_3 p_25_4 p_25_5 gg_1 p_2_1 ne_b_1_t__2 p_25_6 (by have q := hle_26; omega)) hZ (hw _ (List.mem_of_getElem? (i := 33) rfl)) (hw _ (List.mem_of_getElem? (i := 2) rfl)) (by decide) (by decide)) q_28a q_28c (g := (mkF m 93 #[.val (.int nx), .val (.int fx), .val (.long k1), .second, .val (.long v1), .second, .val (.long k2), .second, .val (.long v2), .second, .val (.ref b_1), .val (.int (1 : Int32)), .val (.long k1), .second, .val (.long k2), .second, .val (.int (3 : Int32)), .unset] [(.long v1), (.long k2), (.ref b_1)])) rfl (by rw [hml]; rfl) (Steps.refl _) (argsL := [(.long k2), (.long v1)]) (rest := []) (lenOf pd_7 rfl) rfl (by show 2 * 0 + _ ≤ _; exact Nat.le_of_eq rfl) (hb hby at_93) (fun _ _ => ⟨rfl, e_25, (by decide : 2 + 0 ≤ _), (by decide : 20 + 0 ≤ _)⟩)
        dsimp only [Pt.U, Pt.locs, Pt.cells, Pt.slots] at X_28 l_28 y_28 z_28 st_28 hQ_28
        subst l_28 y_28 z_28
        obtain ⟨h_28, e_28⟩ : ∃ hh, T_28.heap = hh := ⟨_, rfl⟩
        rw [e_28] at hQ_28
        obtain ⟨ks2__28, n2__28, f2__28, r2__28, rfl, N_28q, K_28, p_28_0, p_28_1, p_28_2, p_28_3, p_28_4, p_28_5, p_28_6, p_28_7⟩ := hQ_28
        have N_28 := Fr.app N_25 N_28q
        refine Go.st (fun _ kk => st_28.trans kk) ?_
        have z_28q : n0 ≤ h_28.size := Nat.le_trans z_25q K_28.1
        show Go p e below s _ _ _ T_28 (mkF m 96 #[.val (.int nx), .val (.int fx), .val (.long k1), .second, .val (.long v1), .second, .val (.long k2), .second, .val (.long v2), .second, .val (.ref b_1), .val (.int (1 : Int32)), .val (.long k1), .second, .val (.long k2), .second, .val (.int (3 : Int32)), .unset] [])
        have hle_29 : 1 ≤ n2__28.toInt ∧ n2__28.toInt ≤ 3 := by have q1 := p_28_7; have q2 := hle_26; omega
        have hk_30 : ¬ (n2__28 = (0 : Int32)) := own_pos hle_29.1
        refine Go.st (fun _ => XS.aload X_28.here hx rfl (hb hby at_96) rfl rfl) ?_
        show Go p e below s _ _ _ T_28 (mkF m 98 #[.val (.int nx), .val (.int fx), .val (.long k1), .second, .val (.long v1), .second, .val (.long k2), .second, .val (.long v2), .second, .val (.ref b_1), .val (.int (1 : Int32)), .val (.long k1), .second, .val (.long k2), .second, .val (.int (3 : Int32)), .unset] [(.ref b_1)])
        obtain ⟨cq_31, kq_31, q_31a, q_31b, q_31c⟩ := isOf hZ e_28 p_28_0
        obtain ⟨_, _, ⟨T_31, L_31, kc_31, nc_31⟩, -, X_31, ⟨Lc_31, hQ_31, l_31, y_31, z_31⟩, st_31⟩ := X_28.virtualBack hx (y := (⟨"kasane/util/LongLongMap", "isEmpty", "()Z"⟩ : MethodName)) (z := (⟨"kasane/util/LongLongMap", "isEmpty", "()Z"⟩ : MethodName)) hown (mvT hZ (hw _ (List.mem_of_getElem? (i := 16) rfl))) (mvT hZ (hw _ (List.mem_of_getElem? (i := 17) rfl))) (notFace_of_selects (args := #[]) (mvT hZ (hw _ (List.mem_of_getElem? (i := 19) rfl)))) (mvT hZ (hw _ (List.mem_of_getElem? (i := 19) rfl))) (mvT hZ (hw _ (List.mem_of_getElem? (i := 18) rfl))) (by decide) (backOf (W := 0) (rmEm l Z a0 hw [] b_1 n2__28 h_28 n0 z_28q p_28_2) hZ (hw _ (List.mem_of_getElem? (i := 20) rfl)) (hw _ (List.mem_of_getElem? (i := 2) rfl)) (by decide) (by decide)) q_31a q_31c (g := (mkF m 98 #[.val (.int nx), .val (.int fx), .val (.long k1), .second, .val (.long v1), .second, .val (.long k2), .second, .val (.long v2), .second, .val (.ref b_1), .val (.int (1 : Int32)), .val (.long k1), .second, .val (.long k2), .second, .val (.int (3 : Int32)), .unset] [(.ref b_1)])) rfl (by rw [hml]; rfl) (Steps.refl _) (argsL := []) (rest := []) (lenOf pd_6 rfl) rfl (by show 2 * 0 + _ ≤ _; exact Nat.le_of_eq rfl) (hb hby at_98) (fun _ _ => ⟨rfl, e_28, (by decide : 2 + 0 ≤ _), (by decide : 20 + 0 ≤ _)⟩)
        dsimp only [Pt.U, Pt.locs, Pt.cells, Pt.slots] at X_31 l_31 y_31 z_31 st_31 hQ_31
        subst l_31 y_31 z_31
        obtain ⟨h_31, e_31⟩ : ∃ hh, T_31.heap = hh := ⟨_, rfl⟩
        rw [e_31] at hQ_31
        obtain ⟨rfl, N_31q, sm_31⟩ := hQ_31
        have N_31 := Fr.app N_28 N_31q
        refine Go.st (fun _ kk => st_31.trans kk) ?_
        rw [sm_31] at e_31
        show Go p e below s _ _ _ T_31 (mkF m 101 #[.val (.int nx), .val (.int fx), .val (.long k1), .second, .val (.long v1), .second, .val (.long k2), .second, .val (.long v2), .second, .val (.ref b_1), .val (.int (1 : Int32)), .val (.long k1), .second, .val (.long k2), .second, .val (.int (3 : Int32)), .unset] [(.int (b2i (n2__28 = (0 : Int32))))])
        rw [show (b2i (n2__28 = (0 : Int32))) = (0 : Int32) from b2i_neg hk_30]
        show Go p e below s _ _ _ T_31 (mkF m 101 #[.val (.int nx), .val (.int fx), .val (.long k1), .second, .val (.long v1), .second, .val (.long k2), .second, .val (.long v2), .second, .val (.ref b_1), .val (.int (1 : Int32)), .val (.long k1), .second, .val (.long k2), .second, .val (.int (3 : Int32)), .unset] [(.int (0 : Int32))])
        refine Go.st (fun _ => XS.istore X_31.here hx rfl (hb hby at_101) rfl (l' := #[.val (.int nx), .val (.int fx), .val (.long k1), .second, .val (.long v1), .second, .val (.long k2), .second, .val (.long v2), .second, .val (.ref b_1), .val (.int (1 : Int32)), .val (.long k1), .second, .val (.long k2), .second, .val (.int (3 : Int32)), .val (.int (0 : Int32))]) rfl) ?_
        show Go p e below s _ _ _ T_31 (mkF m 103 #[.val (.int nx), .val (.int fx), .val (.long k1), .second, .val (.long v1), .second, .val (.long k2), .second, .val (.long v2), .second, .val (.ref b_1), .val (.int (1 : Int32)), .val (.long k1), .second, .val (.long k2), .second, .val (.int (3 : Int32)), .val (.int (0 : Int32))] [])
        refine Go.st (fun _ => XS.iload X_31.here hx rfl (hb hby at_103) rfl) ?_
        show Go p e below s _ _ _ T_31 (mkF m 105 #[.val (.int nx), .val (.int fx), .val (.long k1), .second, .val (.long v1), .second, .val (.long k2), .second, .val (.long v2), .second, .val (.ref b_1), .val (.int (1 : Int32)), .val (.long k1), .second, .val (.long k2), .second, .val (.int (3 : Int32)), .val (.int (0 : Int32))] [(.int (1 : Int32))])
        refine Go.st (fun _ => XS.ifNo X_31.here hx rfl (hb hby at_105) rfl ((if0 _ _).trans (feq (by decide : ¬ ((1 : Int32) = (0 : Int32)))).1)) ?_
        show Go p e below s _ _ _ T_31 (mkF m 108 #[.val (.int nx), .val (.int fx), .val (.long k1), .second, .val (.long v1), .second, .val (.long k2), .second, .val (.long v2), .second, .val (.ref b_1), .val (.int (1 : Int32)), .val (.long k1), .second, .val (.long k2), .second, .val (.int (3 : Int32)), .val (.int (0 : Int32))] [])
        refine Go.st (fun _ => XS.iload X_31.here hx rfl (hb hby at_108) rfl) ?_
        show Go p e below s _ _ _ T_31 (mkF m 110 #[.val (.int nx), .val (.int fx), .val (.long k1), .second, .val (.long v1), .second, .val (.long k2), .second, .val (.long v2), .second, .val (.ref b_1), .val (.int (1 : Int32)), .val (.long k1), .second, .val (.long k2), .second, .val (.int (3 : Int32)), .val (.int (0 : Int32))] [(.int (0 : Int32))])
        refine Go.st (fun _ => XS.iload X_31.here hx rfl (hb hby at_110) rfl) ?_
        show Go p e below s _ _ _ T_31 (mkF m 112 #[.val (.int nx), .val (.int fx), .val (.long k1), .second, .val (.long v1), .second, .val (.long k2), .second, .val (.long v2), .second, .val (.ref b_1), .val (.int (1 : Int32)), .val (.long k1), .second, .val (.long k2), .second, .val (.int (3 : Int32)), .val (.int (0 : Int32))] [(.int (3 : Int32)), (.int (0 : Int32))])
        refine Go.st (fun _ => XS.ifYes X_31.here hx rfl (pc0 := 112) (pc' := 119) rfl (hb hby at_112) rfl ((if0 _ _).trans (feq (by decide : ¬ ((3 : Int32) = (0 : Int32)))).2) (by decide) (by decide)) ?_
        show Go p e below s _ _ _ T_31 (mkF m 119 #[.val (.int nx), .val (.int fx), .val (.long k1), .second, .val (.long v1), .second, .val (.long k2), .second, .val (.long v2), .second, .val (.ref b_1), .val (.int (1 : Int32)), .val (.long k1), .second, .val (.long k2), .second, .val (.int (3 : Int32)), .val (.int (0 : Int32))] [(.int (0 : Int32))])
        refine Go.st (fun _ => XS.iconst X_31.here hx rfl (hb hby at_119)) ?_
        show Go p e below s _ _ _ T_31 (mkF m 120 #[.val (.int nx), .val (.int fx), .val (.long k1), .second, .val (.long v1), .second, .val (.long k2), .second, .val (.long v2), .second, .val (.ref b_1), .val (.int (1 : Int32)), .val (.long k1), .second, .val (.long k2), .second, .val (.int (3 : Int32)), .val (.int (0 : Int32))] [(.int (0 : Int32)), (.int (0 : Int32))])
        refine Go.st (fun _ => XS.icmpNo X_31.here hx rfl (hb hby at_120) rfl (teq (by decide : (0 : Int32) = (0 : Int32))).2) ?_
        show Go p e below s _ _ _ T_31 (mkF m 123 #[.val (.int nx), .val (.int fx), .val (.long k1), .second, .val (.long v1), .second, .val (.long k2), .second, .val (.long v2), .second, .val (.ref b_1), .val (.int (1 : Int32)), .val (.long k1), .second, .val (.long k2), .second, .val (.int (3 : Int32)), .val (.int (0 : Int32))] [])
        refine Go.st (fun _ => XS.iload X_31.here hx rfl (hb hby at_123) rfl) ?_
        show Go p e below s _ _ _ T_31 (mkF m 125 #[.val (.int nx), .val (.int fx), .val (.long k1), .second, .val (.long v1), .second, .val (.long k2), .second, .val (.long v2), .second, .val (.ref b_1), .val (.int (1 : Int32)), .val (.long k1), .second, .val (.long k2), .second, .val (.int (3 : Int32)), .val (.int (0 : Int32))] [(.int (0 : Int32))])
        refine Go.st (fun _ => XS.aload X_31.here hx rfl (hb hby at_125) rfl rfl) ?_
        show Go p e below s _ _ _ T_31 (mkF m 127 #[.val (.int nx), .val (.int fx), .val (.long k1), .second, .val (.long v1), .second, .val (.long k2), .second, .val (.long v2), .second, .val (.ref b_1), .val (.int (1 : Int32)), .val (.long k1), .second, .val (.long k2), .second, .val (.int (3 : Int32)), .val (.int (0 : Int32))] [(.ref b_1), (.int (0 : Int32))])
        obtain ⟨cq_32, kq_32, q_32a, q_32b, q_32c⟩ := isOf hZ e_31 p_28_0
        obtain ⟨_, _, ⟨T_32, L_32, kc_32, nc_32⟩, -, X_32, ⟨Lc_32, hQ_32, l_32, y_32, z_32⟩, st_32⟩ := X_31.virtualBack hx (y := (⟨"kasane/util/LongLongMap", "size", "()I"⟩ : MethodName)) (z := (⟨"kasane/util/LongLongMap", "size", "()I"⟩ : MethodName)) hown (mvT hZ (hw _ (List.mem_of_getElem? (i := 24) rfl))) (mvT hZ (hw _ (List.mem_of_getElem? (i := 25) rfl))) (notFace_of_selects (args := #[]) (mvT hZ (hw _ (List.mem_of_getElem? (i := 27) rfl)))) (mvT hZ (hw _ (List.mem_of_getElem? (i := 27) rfl))) (mvT hZ (hw _ (List.mem_of_getElem? (i := 26) rfl))) (by decide) (backOf (W := 1) (rmSz l Z a0 hw [] b_1 n2__28 h_28 n0 z_28q p_28_2) hZ (hw _ (List.mem_of_getElem? (i := 28) rfl)) (hw _ (List.mem_of_getElem? (i := 2) rfl)) (by decide) (by decide)) q_32a q_32c (g := (mkF m 127 #[.val (.int nx), .val (.int fx), .val (.long k1), .second, .val (.long v1), .second, .val (.long k2), .second, .val (.long v2), .second, .val (.ref b_1), .val (.int (1 : Int32)), .val (.long k1), .second, .val (.long k2), .second, .val (.int (3 : Int32)), .val (.int (0 : Int32))] [(.ref b_1), (.int (0 : Int32))])) rfl (by rw [hml]; rfl) (Steps.refl _) (argsL := []) (rest := [(.int (0 : Int32))]) (lenOf pd_2 rfl) rfl (by show 2 * 0 + _ ≤ _; exact Nat.le_of_eq rfl) (hb hby at_127) (fun _ _ => ⟨rfl, e_31, (by decide : 2 + 0 ≤ _), (by decide : 20 + 0 ≤ _)⟩)
        dsimp only [Pt.U, Pt.locs, Pt.cells, Pt.slots] at X_32 l_32 y_32 z_32 st_32 hQ_32
        subst l_32 y_32 z_32
        obtain ⟨h_32, e_32⟩ : ∃ hh, T_32.heap = hh := ⟨_, rfl⟩
        rw [e_32] at hQ_32
        obtain ⟨rfl, N_32q, sm_32⟩ := hQ_32
        have N_32 := Fr.app N_31 N_32q
        refine Go.st (fun _ kk => st_32.trans kk) ?_
        rw [sm_32] at e_32
        show Go p e below s _ _ _ T_32 (mkF m 130 #[.val (.int nx), .val (.int fx), .val (.long k1), .second, .val (.long v1), .second, .val (.long k2), .second, .val (.long v2), .second, .val (.ref b_1), .val (.int (1 : Int32)), .val (.long k1), .second, .val (.long k2), .second, .val (.int (3 : Int32)), .val (.int (0 : Int32))] [(.int n2__28), (.int (0 : Int32))])
        refine Go.st (fun _ => XS.ifYes X_32.here hx rfl (pc0 := 130) (pc' := 137) rfl (hb hby at_130) rfl ((if0 _ _).trans (feq hk_30).2) (by decide) (by decide)) ?_
        show Go p e below s _ _ _ T_32 (mkF m 137 #[.val (.int nx), .val (.int fx), .val (.long k1), .second, .val (.long v1), .second, .val (.long k2), .second, .val (.long v2), .second, .val (.ref b_1), .val (.int (1 : Int32)), .val (.long k1), .second, .val (.long k2), .second, .val (.int (3 : Int32)), .val (.int (0 : Int32))] [(.int (0 : Int32))])
        refine Go.st (fun _ => XS.iconst X_32.here hx rfl (hb hby at_137)) ?_
        show Go p e below s _ _ _ T_32 (mkF m 138 #[.val (.int nx), .val (.int fx), .val (.long k1), .second, .val (.long v1), .second, .val (.long k2), .second, .val (.long v2), .second, .val (.ref b_1), .val (.int (1 : Int32)), .val (.long k1), .second, .val (.long k2), .second, .val (.int (3 : Int32)), .val (.int (0 : Int32))] [(.int (0 : Int32)), (.int (0 : Int32))])
        refine Go.st (fun _ => XS.icmpNo X_32.here hx rfl (hb hby at_138) rfl (teq (by decide : (0 : Int32) = (0 : Int32))).2) ?_
        show Go p e below s _ _ _ T_32 (mkF m 141 #[.val (.int nx), .val (.int fx), .val (.long k1), .second, .val (.long v1), .second, .val (.long k2), .second, .val (.long v2), .second, .val (.ref b_1), .val (.int (1 : Int32)), .val (.long k1), .second, .val (.long k2), .second, .val (.int (3 : Int32)), .val (.int (0 : Int32))] [])
        refine Go.st (fun _ => XS.iconst X_32.here hx rfl (hb hby at_141)) ?_
        show Go p e below s _ _ _ T_32 (mkF m 142 #[.val (.int nx), .val (.int fx), .val (.long k1), .second, .val (.long v1), .second, .val (.long k2), .second, .val (.long v2), .second, .val (.ref b_1), .val (.int (1 : Int32)), .val (.long k1), .second, .val (.long k2), .second, .val (.int (3 : Int32)), .val (.int (0 : Int32))] [(.int (1 : Int32))])
        refine Go.st (fun _ => XS.goto X_32.here hx rfl (pc0 := 142) (pc' := 146) rfl (hb hby at_142) (by decide) (by decide)) ?_
        show Go p e below s _ _ _ T_32 (mkF m 146 #[.val (.int nx), .val (.int fx), .val (.long k1), .second, .val (.long v1), .second, .val (.long k2), .second, .val (.long v2), .second, .val (.ref b_1), .val (.int (1 : Int32)), .val (.long k1), .second, .val (.long k2), .second, .val (.int (3 : Int32)), .val (.int (0 : Int32))] [(.int (1 : Int32))])
        exact Go.retZ X_32 hx hlk Bd.returns (hb hby at_146) rfl (by rw [e_32]; exact ⟨rfl, N_32⟩) (by decide) (by decide)
    · refine Go.st (fun _ => XS.ifNo X_3.here hx rfl (hb hby at_34) rfl ((if0 _ _).trans (feq hc_5).1)) ?_
      show Go p e below s _ _ _ T_3 (mkF m 37 #[.val (.int nx), .val (.int fx), .val (.long k1), .second, .val (.long v1), .second, .val (.long k2), .second, .val (.long v2), .second, .val (.ref b_1), .val (.int (1 : Int32)), .val (.long k1), .second, .unset, .unset, .unset, .unset] [])
      refine Go.st (fun _ => XS.lload X_3.here hx rfl (hb hby at_37) rfl) ?_
      show Go p e below s _ _ _ T_3 (mkF m 39 #[.val (.int nx), .val (.int fx), .val (.long k1), .second, .val (.long v1), .second, .val (.long k2), .second, .val (.long v2), .second, .val (.ref b_1), .val (.int (1 : Int32)), .val (.long k1), .second, .unset, .unset, .unset, .unset] [(.long k1)])
      refine Go.st (fun _ => XS.goto X_3.here hx rfl (pc0 := 39) (pc' := 44) rfl (hb hby at_39) (by decide) (by decide)) ?_
      show Go p e below s _ _ _ T_3 (mkF m 44 #[.val (.int nx), .val (.int fx), .val (.long k1), .second, .val (.long v1), .second, .val (.long k2), .second, .val (.long v2), .second, .val (.ref b_1), .val (.int (1 : Int32)), .val (.long k1), .second, .unset, .unset, .unset, .unset] [(.long k1)])
      refine Go.st (fun _ => XS.lstore X_3.here hx rfl (hb hby at_44) rfl (l' := #[.val (.int nx), .val (.int fx), .val (.long k1), .second, .val (.long v1), .second, .val (.long k2), .second, .val (.long v2), .second, .val (.ref b_1), .val (.int (1 : Int32)), .val (.long k1), .second, .val (.long k1), .second, .unset, .unset]) rfl) ?_
      show Go p e below s _ _ _ T_3 (mkF m 46 #[.val (.int nx), .val (.int fx), .val (.long k1), .second, .val (.long v1), .second, .val (.long k2), .second, .val (.long v2), .second, .val (.ref b_1), .val (.int (1 : Int32)), .val (.long k1), .second, .val (.long k1), .second, .unset, .unset] [])
      refine Go.st (fun _ => XS.iloadN X_3.here hx rfl (hb hby at_46) rfl) ?_
      show Go p e below s _ _ _ T_3 (mkF m 47 #[.val (.int nx), .val (.int fx), .val (.long k1), .second, .val (.long v1), .second, .val (.long k2), .second, .val (.long v2), .second, .val (.ref b_1), .val (.int (1 : Int32)), .val (.long k1), .second, .val (.long k1), .second, .unset, .unset] [(.int nx)])
      refine Go.st (fun _ => XS.iconst X_3.here hx rfl (hb hby at_47)) ?_
      show Go p e below s _ _ _ T_3 (mkF m 48 #[.val (.int nx), .val (.int fx), .val (.long k1), .second, .val (.long v1), .second, .val (.long k2), .second, .val (.long v2), .second, .val (.ref b_1), .val (.int (1 : Int32)), .val (.long k1), .second, .val (.long k1), .second, .unset, .unset] [(.int (3 : Int32)), (.int nx)])
      refine Go.st (fun _ => XS.iand X_3.here hx rfl (hb hby at_48) rfl) ?_
      show Go p e below s _ _ _ T_3 (mkF m 49 #[.val (.int nx), .val (.int fx), .val (.long k1), .second, .val (.long v1), .second, .val (.long k2), .second, .val (.long v2), .second, .val (.ref b_1), .val (.int (1 : Int32)), .val (.long k1), .second, .val (.long k1), .second, .unset, .unset] [(.int (nx &&& (3 : Int32)))])
      rcases own_and3 nx with hd_33 | hd_33 | hd_33 | hd_33
      · rw [show (nx &&& (3 : Int32)) = (0 : Int32) from hd_33]
        show Go p e below s _ _ _ T_3 (mkF m 49 #[.val (.int nx), .val (.int fx), .val (.long k1), .second, .val (.long v1), .second, .val (.long k2), .second, .val (.long v2), .second, .val (.ref b_1), .val (.int (1 : Int32)), .val (.long k1), .second, .val (.long k1), .second, .unset, .unset] [(.int (0 : Int32))])
        refine Go.st (fun _ => XS.istore X_3.here hx rfl (hb hby at_49) rfl (l' := #[.val (.int nx), .val (.int fx), .val (.long k1), .second, .val (.long v1), .second, .val (.long k2), .second, .val (.long v2), .second, .val (.ref b_1), .val (.int (1 : Int32)), .val (.long k1), .second, .val (.long k1), .second, .val (.int (0 : Int32)), .unset]) rfl) ?_
        show Go p e below s _ _ _ T_3 (mkF m 51 #[.val (.int nx), .val (.int fx), .val (.long k1), .second, .val (.long v1), .second, .val (.long k2), .second, .val (.long v2), .second, .val (.ref b_1), .val (.int (1 : Int32)), .val (.long k1), .second, .val (.long k1), .second, .val (.int (0 : Int32)), .unset] [])
        refine Go.st (fun _ => XS.iload X_3.here hx rfl (hb hby at_51) rfl) ?_
        show Go p e below s _ _ _ T_3 (mkF m 53 #[.val (.int nx), .val (.int fx), .val (.long k1), .second, .val (.long v1), .second, .val (.long k2), .second, .val (.long v2), .second, .val (.ref b_1), .val (.int (1 : Int32)), .val (.long k1), .second, .val (.long k1), .second, .val (.int (0 : Int32)), .unset] [(.int (0 : Int32))])
        refine Go.st (fun _ => XS.iconst X_3.here hx rfl (hb hby at_53)) ?_
        show Go p e below s _ _ _ T_3 (mkF m 54 #[.val (.int nx), .val (.int fx), .val (.long k1), .second, .val (.long v1), .second, .val (.long k2), .second, .val (.long v2), .second, .val (.ref b_1), .val (.int (1 : Int32)), .val (.long k1), .second, .val (.long k1), .second, .val (.int (0 : Int32)), .unset] [(.int (1 : Int32)), (.int (0 : Int32))])
        refine Go.st (fun _ => XS.icmpYes X_3.here hx rfl (pc0 := 54) (pc' := 66) rfl (hb hby at_54) rfl (tlt (by decide : (0 : Int32) < (1 : Int32))).1 (by decide) (by decide)) ?_
        show Go p e below s _ _ _ T_3 (mkF m 66 #[.val (.int nx), .val (.int fx), .val (.long k1), .second, .val (.long v1), .second, .val (.long k2), .second, .val (.long v2), .second, .val (.ref b_1), .val (.int (1 : Int32)), .val (.long k1), .second, .val (.long k1), .second, .val (.int (0 : Int32)), .unset] [])
        refine Go.st (fun _ => XS.iload X_3.here hx rfl (hb hby at_66) rfl) ?_
        show Go p e below s _ _ _ T_3 (mkF m 68 #[.val (.int nx), .val (.int fx), .val (.long k1), .second, .val (.long v1), .second, .val (.long k2), .second, .val (.long v2), .second, .val (.ref b_1), .val (.int (1 : Int32)), .val (.long k1), .second, .val (.long k1), .second, .val (.int (0 : Int32)), .unset] [(.int (0 : Int32))])
        refine Go.st (fun _ => XS.iconst X_3.here hx rfl (hb hby at_68)) ?_
        show Go p e below s _ _ _ T_3 (mkF m 69 #[.val (.int nx), .val (.int fx), .val (.long k1), .second, .val (.long v1), .second, .val (.long k2), .second, .val (.long v2), .second, .val (.ref b_1), .val (.int (1 : Int32)), .val (.long k1), .second, .val (.long k1), .second, .val (.int (0 : Int32)), .unset] [(.int (2 : Int32)), (.int (0 : Int32))])
        refine Go.st (fun _ => XS.icmpYes X_3.here hx rfl (pc0 := 69) (pc' := 81) rfl (hb hby at_69) rfl (tlt (by decide : (0 : Int32) < (2 : Int32))).1 (by decide) (by decide)) ?_
        show Go p e below s _ _ _ T_3 (mkF m 81 #[.val (.int nx), .val (.int fx), .val (.long k1), .second, .val (.long v1), .second, .val (.long k2), .second, .val (.long v2), .second, .val (.ref b_1), .val (.int (1 : Int32)), .val (.long k1), .second, .val (.long k1), .second, .val (.int (0 : Int32)), .unset] [])
        refine Go.st (fun _ => XS.iload X_3.here hx rfl (hb hby at_81) rfl) ?_
        show Go p e below s _ _ _ T_3 (mkF m 83 #[.val (.int nx), .val (.int fx), .val (.long k1), .second, .val (.long v1), .second, .val (.long k2), .second, .val (.long v2), .second, .val (.ref b_1), .val (.int (1 : Int32)), .val (.long k1), .second, .val (.long k1), .second, .val (.int (0 : Int32)), .unset] [(.int (0 : Int32))])
        refine Go.st (fun _ => XS.iconst X_3.here hx rfl (hb hby at_83)) ?_
        show Go p e below s _ _ _ T_3 (mkF m 84 #[.val (.int nx), .val (.int fx), .val (.long k1), .second, .val (.long v1), .second, .val (.long k2), .second, .val (.long v2), .second, .val (.ref b_1), .val (.int (1 : Int32)), .val (.long k1), .second, .val (.long k1), .second, .val (.int (0 : Int32)), .unset] [(.int (3 : Int32)), (.int (0 : Int32))])
        refine Go.st (fun _ => XS.icmpYes X_3.here hx rfl (pc0 := 84) (pc' := 96) rfl (hb hby at_84) rfl (tlt (by decide : (0 : Int32) < (3 : Int32))).1 (by decide) (by decide)) ?_
        show Go p e below s _ _ _ T_3 (mkF m 96 #[.val (.int nx), .val (.int fx), .val (.long k1), .second, .val (.long v1), .second, .val (.long k2), .second, .val (.long v2), .second, .val (.ref b_1), .val (.int (1 : Int32)), .val (.long k1), .second, .val (.long k1), .second, .val (.int (0 : Int32)), .unset] [])
        refine Go.st (fun _ => XS.aload X_3.here hx rfl (hb hby at_96) rfl rfl) ?_
        show Go p e below s _ _ _ T_3 (mkF m 98 #[.val (.int nx), .val (.int fx), .val (.long k1), .second, .val (.long v1), .second, .val (.long k2), .second, .val (.long v2), .second, .val (.ref b_1), .val (.int (1 : Int32)), .val (.long k1), .second, .val (.long k1), .second, .val (.int (0 : Int32)), .unset] [(.ref b_1)])
        obtain ⟨cq_34, kq_34, q_34a, q_34b, q_34c⟩ := isOf hZ e_3 p_2_2
        obtain ⟨_, _, ⟨T_34, L_34, kc_34, nc_34⟩, -, X_34, ⟨Lc_34, hQ_34, l_34, y_34, z_34⟩, st_34⟩ := X_3.virtualBack hx (y := (⟨"kasane/util/LongLongMap", "isEmpty", "()Z"⟩ : MethodName)) (z := (⟨"kasane/util/LongLongMap", "isEmpty", "()Z"⟩ : MethodName)) hown (mvT hZ (hw _ (List.mem_of_getElem? (i := 16) rfl))) (mvT hZ (hw _ (List.mem_of_getElem? (i := 17) rfl))) (notFace_of_selects (args := #[]) (mvT hZ (hw _ (List.mem_of_getElem? (i := 19) rfl)))) (mvT hZ (hw _ (List.mem_of_getElem? (i := 19) rfl))) (mvT hZ (hw _ (List.mem_of_getElem? (i := 18) rfl))) (by decide) (backOf (W := 0) (rmEm l Z a0 hw [] b_1 (0 : Int32) h_2 n0 z_2q p_2_4) hZ (hw _ (List.mem_of_getElem? (i := 20) rfl)) (hw _ (List.mem_of_getElem? (i := 2) rfl)) (by decide) (by decide)) q_34a q_34c (g := (mkF m 98 #[.val (.int nx), .val (.int fx), .val (.long k1), .second, .val (.long v1), .second, .val (.long k2), .second, .val (.long v2), .second, .val (.ref b_1), .val (.int (1 : Int32)), .val (.long k1), .second, .val (.long k1), .second, .val (.int (0 : Int32)), .unset] [(.ref b_1)])) rfl (by rw [hml]; rfl) (Steps.refl _) (argsL := []) (rest := []) (lenOf pd_6 rfl) rfl (by show 2 * 0 + _ ≤ _; exact Nat.le_of_eq rfl) (hb hby at_98) (fun _ _ => ⟨rfl, e_3, (by decide : 2 + 0 ≤ _), (by decide : 20 + 0 ≤ _)⟩)
        dsimp only [Pt.U, Pt.locs, Pt.cells, Pt.slots] at X_34 l_34 y_34 z_34 st_34 hQ_34
        subst l_34 y_34 z_34
        obtain ⟨h_34, e_34⟩ : ∃ hh, T_34.heap = hh := ⟨_, rfl⟩
        rw [e_34] at hQ_34
        obtain ⟨rfl, N_34q, sm_34⟩ := hQ_34
        have N_34 := Fr.app N_3 N_34q
        refine Go.st (fun _ kk => st_34.trans kk) ?_
        rw [sm_34] at e_34
        show Go p e below s _ _ _ T_34 (mkF m 101 #[.val (.int nx), .val (.int fx), .val (.long k1), .second, .val (.long v1), .second, .val (.long k2), .second, .val (.long v2), .second, .val (.ref b_1), .val (.int (1 : Int32)), .val (.long k1), .second, .val (.long k1), .second, .val (.int (0 : Int32)), .unset] [(.int (b2i ((0 : Int32) = (0 : Int32))))])
        rw [show (b2i ((0 : Int32) = (0 : Int32))) = (1 : Int32) from b2i_pos (by decide : (0 : Int32) = (0 : Int32))]
        show Go p e below s _ _ _ T_34 (mkF m 101 #[.val (.int nx), .val (.int fx), .val (.long k1), .second, .val (.long v1), .second, .val (.long k2), .second, .val (.long v2), .second, .val (.ref b_1), .val (.int (1 : Int32)), .val (.long k1), .second, .val (.long k1), .second, .val (.int (0 : Int32)), .unset] [(.int (1 : Int32))])
        refine Go.st (fun _ => XS.istore X_34.here hx rfl (hb hby at_101) rfl (l' := #[.val (.int nx), .val (.int fx), .val (.long k1), .second, .val (.long v1), .second, .val (.long k2), .second, .val (.long v2), .second, .val (.ref b_1), .val (.int (1 : Int32)), .val (.long k1), .second, .val (.long k1), .second, .val (.int (0 : Int32)), .val (.int (1 : Int32))]) rfl) ?_
        show Go p e below s _ _ _ T_34 (mkF m 103 #[.val (.int nx), .val (.int fx), .val (.long k1), .second, .val (.long v1), .second, .val (.long k2), .second, .val (.long v2), .second, .val (.ref b_1), .val (.int (1 : Int32)), .val (.long k1), .second, .val (.long k1), .second, .val (.int (0 : Int32)), .val (.int (1 : Int32))] [])
        refine Go.st (fun _ => XS.iload X_34.here hx rfl (hb hby at_103) rfl) ?_
        show Go p e below s _ _ _ T_34 (mkF m 105 #[.val (.int nx), .val (.int fx), .val (.long k1), .second, .val (.long v1), .second, .val (.long k2), .second, .val (.long v2), .second, .val (.ref b_1), .val (.int (1 : Int32)), .val (.long k1), .second, .val (.long k1), .second, .val (.int (0 : Int32)), .val (.int (1 : Int32))] [(.int (1 : Int32))])
        refine Go.st (fun _ => XS.ifNo X_34.here hx rfl (hb hby at_105) rfl ((if0 _ _).trans (feq (by decide : ¬ ((1 : Int32) = (0 : Int32)))).1)) ?_
        show Go p e below s _ _ _ T_34 (mkF m 108 #[.val (.int nx), .val (.int fx), .val (.long k1), .second, .val (.long v1), .second, .val (.long k2), .second, .val (.long v2), .second, .val (.ref b_1), .val (.int (1 : Int32)), .val (.long k1), .second, .val (.long k1), .second, .val (.int (0 : Int32)), .val (.int (1 : Int32))] [])
        refine Go.st (fun _ => XS.iload X_34.here hx rfl (hb hby at_108) rfl) ?_
        show Go p e below s _ _ _ T_34 (mkF m 110 #[.val (.int nx), .val (.int fx), .val (.long k1), .second, .val (.long v1), .second, .val (.long k2), .second, .val (.long v2), .second, .val (.ref b_1), .val (.int (1 : Int32)), .val (.long k1), .second, .val (.long k1), .second, .val (.int (0 : Int32)), .val (.int (1 : Int32))] [(.int (1 : Int32))])
        refine Go.st (fun _ => XS.iload X_34.here hx rfl (hb hby at_110) rfl) ?_
        show Go p e below s _ _ _ T_34 (mkF m 112 #[.val (.int nx), .val (.int fx), .val (.long k1), .second, .val (.long v1), .second, .val (.long k2), .second, .val (.long v2), .second, .val (.ref b_1), .val (.int (1 : Int32)), .val (.long k1), .second, .val (.long k1), .second, .val (.int (0 : Int32)), .val (.int (1 : Int32))] [(.int (0 : Int32)), (.int (1 : Int32))])
        refine Go.st (fun _ => XS.ifNo X_34.here hx rfl (hb hby at_112) rfl ((if0 _ _).trans (teq (by decide : (0 : Int32) = (0 : Int32))).2)) ?_
        show Go p e below s _ _ _ T_34 (mkF m 115 #[.val (.int nx), .val (.int fx), .val (.long k1), .second, .val (.long v1), .second, .val (.long k2), .second, .val (.long v2), .second, .val (.ref b_1), .val (.int (1 : Int32)), .val (.long k1), .second, .val (.long k1), .second, .val (.int (0 : Int32)), .val (.int (1 : Int32))] [(.int (1 : Int32))])
        refine Go.st (fun _ => XS.iconst X_34.here hx rfl (hb hby at_115)) ?_
        show Go p e below s _ _ _ T_34 (mkF m 116 #[.val (.int nx), .val (.int fx), .val (.long k1), .second, .val (.long v1), .second, .val (.long k2), .second, .val (.long v2), .second, .val (.ref b_1), .val (.int (1 : Int32)), .val (.long k1), .second, .val (.long k1), .second, .val (.int (0 : Int32)), .val (.int (1 : Int32))] [(.int (1 : Int32)), (.int (1 : Int32))])
        refine Go.st (fun _ => XS.goto X_34.here hx rfl (pc0 := 116) (pc' := 120) rfl (hb hby at_116) (by decide) (by decide)) ?_
        show Go p e below s _ _ _ T_34 (mkF m 120 #[.val (.int nx), .val (.int fx), .val (.long k1), .second, .val (.long v1), .second, .val (.long k2), .second, .val (.long v2), .second, .val (.ref b_1), .val (.int (1 : Int32)), .val (.long k1), .second, .val (.long k1), .second, .val (.int (0 : Int32)), .val (.int (1 : Int32))] [(.int (1 : Int32)), (.int (1 : Int32))])
        refine Go.st (fun _ => XS.icmpNo X_34.here hx rfl (hb hby at_120) rfl (teq (by decide : (1 : Int32) = (1 : Int32))).2) ?_
        show Go p e below s _ _ _ T_34 (mkF m 123 #[.val (.int nx), .val (.int fx), .val (.long k1), .second, .val (.long v1), .second, .val (.long k2), .second, .val (.long v2), .second, .val (.ref b_1), .val (.int (1 : Int32)), .val (.long k1), .second, .val (.long k1), .second, .val (.int (0 : Int32)), .val (.int (1 : Int32))] [])
        refine Go.st (fun _ => XS.iload X_34.here hx rfl (hb hby at_123) rfl) ?_
        show Go p e below s _ _ _ T_34 (mkF m 125 #[.val (.int nx), .val (.int fx), .val (.long k1), .second, .val (.long v1), .second, .val (.long k2), .second, .val (.long v2), .second, .val (.ref b_1), .val (.int (1 : Int32)), .val (.long k1), .second, .val (.long k1), .second, .val (.int (0 : Int32)), .val (.int (1 : Int32))] [(.int (1 : Int32))])
        refine Go.st (fun _ => XS.aload X_34.here hx rfl (hb hby at_125) rfl rfl) ?_
        show Go p e below s _ _ _ T_34 (mkF m 127 #[.val (.int nx), .val (.int fx), .val (.long k1), .second, .val (.long v1), .second, .val (.long k2), .second, .val (.long v2), .second, .val (.ref b_1), .val (.int (1 : Int32)), .val (.long k1), .second, .val (.long k1), .second, .val (.int (0 : Int32)), .val (.int (1 : Int32))] [(.ref b_1), (.int (1 : Int32))])
        obtain ⟨cq_35, kq_35, q_35a, q_35b, q_35c⟩ := isOf hZ e_34 p_2_2
        obtain ⟨_, _, ⟨T_35, L_35, kc_35, nc_35⟩, -, X_35, ⟨Lc_35, hQ_35, l_35, y_35, z_35⟩, st_35⟩ := X_34.virtualBack hx (y := (⟨"kasane/util/LongLongMap", "size", "()I"⟩ : MethodName)) (z := (⟨"kasane/util/LongLongMap", "size", "()I"⟩ : MethodName)) hown (mvT hZ (hw _ (List.mem_of_getElem? (i := 24) rfl))) (mvT hZ (hw _ (List.mem_of_getElem? (i := 25) rfl))) (notFace_of_selects (args := #[]) (mvT hZ (hw _ (List.mem_of_getElem? (i := 27) rfl)))) (mvT hZ (hw _ (List.mem_of_getElem? (i := 27) rfl))) (mvT hZ (hw _ (List.mem_of_getElem? (i := 26) rfl))) (by decide) (backOf (W := 1) (rmSz l Z a0 hw [] b_1 (0 : Int32) h_2 n0 z_2q p_2_4) hZ (hw _ (List.mem_of_getElem? (i := 28) rfl)) (hw _ (List.mem_of_getElem? (i := 2) rfl)) (by decide) (by decide)) q_35a q_35c (g := (mkF m 127 #[.val (.int nx), .val (.int fx), .val (.long k1), .second, .val (.long v1), .second, .val (.long k2), .second, .val (.long v2), .second, .val (.ref b_1), .val (.int (1 : Int32)), .val (.long k1), .second, .val (.long k1), .second, .val (.int (0 : Int32)), .val (.int (1 : Int32))] [(.ref b_1), (.int (1 : Int32))])) rfl (by rw [hml]; rfl) (Steps.refl _) (argsL := []) (rest := [(.int (1 : Int32))]) (lenOf pd_2 rfl) rfl (by show 2 * 0 + _ ≤ _; exact Nat.le_of_eq rfl) (hb hby at_127) (fun _ _ => ⟨rfl, e_34, (by decide : 2 + 0 ≤ _), (by decide : 20 + 0 ≤ _)⟩)
        dsimp only [Pt.U, Pt.locs, Pt.cells, Pt.slots] at X_35 l_35 y_35 z_35 st_35 hQ_35
        subst l_35 y_35 z_35
        obtain ⟨h_35, e_35⟩ : ∃ hh, T_35.heap = hh := ⟨_, rfl⟩
        rw [e_35] at hQ_35
        obtain ⟨rfl, N_35q, sm_35⟩ := hQ_35
        have N_35 := Fr.app N_34 N_35q
        refine Go.st (fun _ kk => st_35.trans kk) ?_
        rw [sm_35] at e_35
        show Go p e below s _ _ _ T_35 (mkF m 130 #[.val (.int nx), .val (.int fx), .val (.long k1), .second, .val (.long v1), .second, .val (.long k2), .second, .val (.long v2), .second, .val (.ref b_1), .val (.int (1 : Int32)), .val (.long k1), .second, .val (.long k1), .second, .val (.int (0 : Int32)), .val (.int (1 : Int32))] [(.int (0 : Int32)), (.int (1 : Int32))])
        refine Go.st (fun _ => XS.ifNo X_35.here hx rfl (hb hby at_130) rfl ((if0 _ _).trans (teq (by decide : (0 : Int32) = (0 : Int32))).2)) ?_
        show Go p e below s _ _ _ T_35 (mkF m 133 #[.val (.int nx), .val (.int fx), .val (.long k1), .second, .val (.long v1), .second, .val (.long k2), .second, .val (.long v2), .second, .val (.ref b_1), .val (.int (1 : Int32)), .val (.long k1), .second, .val (.long k1), .second, .val (.int (0 : Int32)), .val (.int (1 : Int32))] [(.int (1 : Int32))])
        refine Go.st (fun _ => XS.iconst X_35.here hx rfl (hb hby at_133)) ?_
        show Go p e below s _ _ _ T_35 (mkF m 134 #[.val (.int nx), .val (.int fx), .val (.long k1), .second, .val (.long v1), .second, .val (.long k2), .second, .val (.long v2), .second, .val (.ref b_1), .val (.int (1 : Int32)), .val (.long k1), .second, .val (.long k1), .second, .val (.int (0 : Int32)), .val (.int (1 : Int32))] [(.int (1 : Int32)), (.int (1 : Int32))])
        refine Go.st (fun _ => XS.goto X_35.here hx rfl (pc0 := 134) (pc' := 138) rfl (hb hby at_134) (by decide) (by decide)) ?_
        show Go p e below s _ _ _ T_35 (mkF m 138 #[.val (.int nx), .val (.int fx), .val (.long k1), .second, .val (.long v1), .second, .val (.long k2), .second, .val (.long v2), .second, .val (.ref b_1), .val (.int (1 : Int32)), .val (.long k1), .second, .val (.long k1), .second, .val (.int (0 : Int32)), .val (.int (1 : Int32))] [(.int (1 : Int32)), (.int (1 : Int32))])
        refine Go.st (fun _ => XS.icmpNo X_35.here hx rfl (hb hby at_138) rfl (teq (by decide : (1 : Int32) = (1 : Int32))).2) ?_
        show Go p e below s _ _ _ T_35 (mkF m 141 #[.val (.int nx), .val (.int fx), .val (.long k1), .second, .val (.long v1), .second, .val (.long k2), .second, .val (.long v2), .second, .val (.ref b_1), .val (.int (1 : Int32)), .val (.long k1), .second, .val (.long k1), .second, .val (.int (0 : Int32)), .val (.int (1 : Int32))] [])
        refine Go.st (fun _ => XS.iconst X_35.here hx rfl (hb hby at_141)) ?_
        show Go p e below s _ _ _ T_35 (mkF m 142 #[.val (.int nx), .val (.int fx), .val (.long k1), .second, .val (.long v1), .second, .val (.long k2), .second, .val (.long v2), .second, .val (.ref b_1), .val (.int (1 : Int32)), .val (.long k1), .second, .val (.long k1), .second, .val (.int (0 : Int32)), .val (.int (1 : Int32))] [(.int (1 : Int32))])
        refine Go.st (fun _ => XS.goto X_35.here hx rfl (pc0 := 142) (pc' := 146) rfl (hb hby at_142) (by decide) (by decide)) ?_
        show Go p e below s _ _ _ T_35 (mkF m 146 #[.val (.int nx), .val (.int fx), .val (.long k1), .second, .val (.long v1), .second, .val (.long k2), .second, .val (.long v2), .second, .val (.ref b_1), .val (.int (1 : Int32)), .val (.long k1), .second, .val (.long k1), .second, .val (.int (0 : Int32)), .val (.int (1 : Int32))] [(.int (1 : Int32))])
        exact Go.retZ X_35 hx hlk Bd.returns (hb hby at_146) rfl (by rw [e_35]; exact ⟨rfl, N_35⟩) (by decide) (by decide)
      · rw [show (nx &&& (3 : Int32)) = (1 : Int32) from hd_33]
        show Go p e below s _ _ _ T_3 (mkF m 49 #[.val (.int nx), .val (.int fx), .val (.long k1), .second, .val (.long v1), .second, .val (.long k2), .second, .val (.long v2), .second, .val (.ref b_1), .val (.int (1 : Int32)), .val (.long k1), .second, .val (.long k1), .second, .unset, .unset] [(.int (1 : Int32))])
        refine Go.st (fun _ => XS.istore X_3.here hx rfl (hb hby at_49) rfl (l' := #[.val (.int nx), .val (.int fx), .val (.long k1), .second, .val (.long v1), .second, .val (.long k2), .second, .val (.long v2), .second, .val (.ref b_1), .val (.int (1 : Int32)), .val (.long k1), .second, .val (.long k1), .second, .val (.int (1 : Int32)), .unset]) rfl) ?_
        show Go p e below s _ _ _ T_3 (mkF m 51 #[.val (.int nx), .val (.int fx), .val (.long k1), .second, .val (.long v1), .second, .val (.long k2), .second, .val (.long v2), .second, .val (.ref b_1), .val (.int (1 : Int32)), .val (.long k1), .second, .val (.long k1), .second, .val (.int (1 : Int32)), .unset] [])
        refine Go.st (fun _ => XS.iload X_3.here hx rfl (hb hby at_51) rfl) ?_
        show Go p e below s _ _ _ T_3 (mkF m 53 #[.val (.int nx), .val (.int fx), .val (.long k1), .second, .val (.long v1), .second, .val (.long k2), .second, .val (.long v2), .second, .val (.ref b_1), .val (.int (1 : Int32)), .val (.long k1), .second, .val (.long k1), .second, .val (.int (1 : Int32)), .unset] [(.int (1 : Int32))])
        refine Go.st (fun _ => XS.iconst X_3.here hx rfl (hb hby at_53)) ?_
        show Go p e below s _ _ _ T_3 (mkF m 54 #[.val (.int nx), .val (.int fx), .val (.long k1), .second, .val (.long v1), .second, .val (.long k2), .second, .val (.long v2), .second, .val (.ref b_1), .val (.int (1 : Int32)), .val (.long k1), .second, .val (.long k1), .second, .val (.int (1 : Int32)), .unset] [(.int (1 : Int32)), (.int (1 : Int32))])
        refine Go.st (fun _ => XS.icmpNo X_3.here hx rfl (hb hby at_54) rfl (flt (by decide : ¬ ((1 : Int32) < (1 : Int32)))).1) ?_
        show Go p e below s _ _ _ T_3 (mkF m 57 #[.val (.int nx), .val (.int fx), .val (.long k1), .second, .val (.long v1), .second, .val (.long k2), .second, .val (.long v2), .second, .val (.ref b_1), .val (.int (1 : Int32)), .val (.long k1), .second, .val (.long k1), .second, .val (.int (1 : Int32)), .unset] [])
        refine Go.st (fun _ => XS.aload X_3.here hx rfl (hb hby at_57) rfl rfl) ?_
        show Go p e below s _ _ _ T_3 (mkF m 59 #[.val (.int nx), .val (.int fx), .val (.long k1), .second, .val (.long v1), .second, .val (.long k2), .second, .val (.long v2), .second, .val (.ref b_1), .val (.int (1 : Int32)), .val (.long k1), .second, .val (.long k1), .second, .val (.int (1 : Int32)), .unset] [(.ref b_1)])
        refine Go.st (fun _ => XS.lload X_3.here hx rfl (hb hby at_59) rfl) ?_
        show Go p e below s _ _ _ T_3 (mkF m 61 #[.val (.int nx), .val (.int fx), .val (.long k1), .second, .val (.long v1), .second, .val (.long k2), .second, .val (.long v2), .second, .val (.ref b_1), .val (.int (1 : Int32)), .val (.long k1), .second, .val (.long k1), .second, .val (.int (1 : Int32)), .unset] [(.long k1), (.ref b_1)])
        refine Go.st (fun _ => XS.lload X_3.here hx rfl (hb hby at_61) rfl) ?_
        show Go p e below s _ _ _ T_3 (mkF m 63 #[.val (.int nx), .val (.int fx), .val (.long k1), .second, .val (.long v1), .second, .val (.long k2), .second, .val (.long v2), .second, .val (.ref b_1), .val (.int (1 : Int32)), .val (.long k1), .second, .val (.long k1), .second, .val (.int (1 : Int32)), .unset] [(.long v1), (.long k1), (.ref b_1)])
        obtain ⟨cq_36, kq_36, q_36a, q_36b, q_36c⟩ := isOf hZ e_3 p_2_2
        obtain ⟨_, _, ⟨T_36, L_36, kc_36, nc_36⟩, -, X_36, ⟨Lc_36, hQ_36, l_36, y_36, z_36⟩, st_36⟩ := X_3.virtualBack hx (y := (⟨"kasane/util/LongLongMap", "put", "(JJ)V"⟩ : MethodName)) (z := (⟨"kasane/util/LongLongMap", "put", "(JJ)V"⟩ : MethodName)) hown (mvT hZ (hw _ (List.mem_of_getElem? (i := 29) rfl))) (mvT hZ (hw _ (List.mem_of_getElem? (i := 30) rfl))) (notFace_of_selects (args := #[]) (mvT hZ (hw _ (List.mem_of_getElem? (i := 32) rfl)))) (mvT hZ (hw _ (List.mem_of_getElem? (i := 32) rfl))) (mvT hZ (hw _ (List.mem_of_getElem? (i := 31) rfl))) (by decide) (backOf (W := 0) (rmPu l Z a0 hw [] b_1 k1 v1 t__2 kt__2 [(-9223372036854775808 : Int64), (0 : Int64), (-9223372036854775808 : Int64), (0 : Int64), (-9223372036854775808 : Int64), (0 : Int64), (-9223372036854775808 : Int64), (0 : Int64), (-9223372036854775808 : Int64), (0 : Int64), (-9223372036854775808 : Int64), (0 : Int64), (-9223372036854775808 : Int64), (0 : Int64), (-9223372036854775808 : Int64), (0 : Int64)] (0 : Int32) (0 : Int32) (0 : Int64) h_2 n0 z_2q p_2_2 p_2_3 p_2_4 p_2_5 p_2_6 vm0 gg_1 p_2_1 ne_b_1_t__2 own_inv0 (by decide)) hZ (hw _ (List.mem_of_getElem? (i := 33) rfl)) (hw _ (List.mem_of_getElem? (i := 2) rfl)) (by decide) (by decide)) q_36a q_36c (g := (mkF m 63 #[.val (.int nx), .val (.int fx), .val (.long k1), .second, .val (.long v1), .second, .val (.long k2), .second, .val (.long v2), .second, .val (.ref b_1), .val (.int (1 : Int32)), .val (.long k1), .second, .val (.long k1), .second, .val (.int (1 : Int32)), .unset] [(.long v1), (.long k1), (.ref b_1)])) rfl (by rw [hml]; rfl) (Steps.refl _) (argsL := [(.long k1), (.long v1)]) (rest := []) (lenOf pd_7 rfl) rfl (by show 2 * 0 + _ ≤ _; exact Nat.le_of_eq rfl) (hb hby at_63) (fun _ _ => ⟨rfl, e_3, (by decide : 2 + 0 ≤ _), (by decide : 20 + 0 ≤ _)⟩)
        dsimp only [Pt.U, Pt.locs, Pt.cells, Pt.slots] at X_36 l_36 y_36 z_36 st_36 hQ_36
        subst l_36 y_36 z_36
        obtain ⟨h_36, e_36⟩ : ∃ hh, T_36.heap = hh := ⟨_, rfl⟩
        rw [e_36] at hQ_36
        obtain ⟨ks2__36, n2__36, f2__36, r2__36, rfl, N_36q, K_36, p_36_0, p_36_1, p_36_2, p_36_3, p_36_4, p_36_5, p_36_6, p_36_7⟩ := hQ_36
        have N_36 := Fr.app N_3 N_36q
        refine Go.st (fun _ kk => st_36.trans kk) ?_
        have z_36q : n0 ≤ h_36.size := Nat.le_trans z_2q K_36.1
        show Go p e below s _ _ _ T_36 (mkF m 66 #[.val (.int nx), .val (.int fx), .val (.long k1), .second, .val (.long v1), .second, .val (.long k2), .second, .val (.long v2), .second, .val (.ref b_1), .val (.int (1 : Int32)), .val (.long k1), .second, .val (.long k1), .second, .val (.int (1 : Int32)), .unset] [])
        have hle_37 : 1 ≤ n2__36.toInt ∧ n2__36.toInt ≤ 1 := by have q1 := p_36_7; have q2 := (trivial : True); have q3 : (0 : Int32).toInt = 0 := (by decide); omega
        have hk_38 : ¬ (n2__36 = (0 : Int32)) := own_pos hle_37.1
        refine Go.st (fun _ => XS.iload X_36.here hx rfl (hb hby at_66) rfl) ?_
        show Go p e below s _ _ _ T_36 (mkF m 68 #[.val (.int nx), .val (.int fx), .val (.long k1), .second, .val (.long v1), .second, .val (.long k2), .second, .val (.long v2), .second, .val (.ref b_1), .val (.int (1 : Int32)), .val (.long k1), .second, .val (.long k1), .second, .val (.int (1 : Int32)), .unset] [(.int (1 : Int32))])
        refine Go.st (fun _ => XS.iconst X_36.here hx rfl (hb hby at_68)) ?_
        show Go p e below s _ _ _ T_36 (mkF m 69 #[.val (.int nx), .val (.int fx), .val (.long k1), .second, .val (.long v1), .second, .val (.long k2), .second, .val (.long v2), .second, .val (.ref b_1), .val (.int (1 : Int32)), .val (.long k1), .second, .val (.long k1), .second, .val (.int (1 : Int32)), .unset] [(.int (2 : Int32)), (.int (1 : Int32))])
        refine Go.st (fun _ => XS.icmpYes X_36.here hx rfl (pc0 := 69) (pc' := 81) rfl (hb hby at_69) rfl (tlt (by decide : (1 : Int32) < (2 : Int32))).1 (by decide) (by decide)) ?_
        show Go p e below s _ _ _ T_36 (mkF m 81 #[.val (.int nx), .val (.int fx), .val (.long k1), .second, .val (.long v1), .second, .val (.long k2), .second, .val (.long v2), .second, .val (.ref b_1), .val (.int (1 : Int32)), .val (.long k1), .second, .val (.long k1), .second, .val (.int (1 : Int32)), .unset] [])
        refine Go.st (fun _ => XS.iload X_36.here hx rfl (hb hby at_81) rfl) ?_
        show Go p e below s _ _ _ T_36 (mkF m 83 #[.val (.int nx), .val (.int fx), .val (.long k1), .second, .val (.long v1), .second, .val (.long k2), .second, .val (.long v2), .second, .val (.ref b_1), .val (.int (1 : Int32)), .val (.long k1), .second, .val (.long k1), .second, .val (.int (1 : Int32)), .unset] [(.int (1 : Int32))])
        refine Go.st (fun _ => XS.iconst X_36.here hx rfl (hb hby at_83)) ?_
        show Go p e below s _ _ _ T_36 (mkF m 84 #[.val (.int nx), .val (.int fx), .val (.long k1), .second, .val (.long v1), .second, .val (.long k2), .second, .val (.long v2), .second, .val (.ref b_1), .val (.int (1 : Int32)), .val (.long k1), .second, .val (.long k1), .second, .val (.int (1 : Int32)), .unset] [(.int (3 : Int32)), (.int (1 : Int32))])
        refine Go.st (fun _ => XS.icmpYes X_36.here hx rfl (pc0 := 84) (pc' := 96) rfl (hb hby at_84) rfl (tlt (by decide : (1 : Int32) < (3 : Int32))).1 (by decide) (by decide)) ?_
        show Go p e below s _ _ _ T_36 (mkF m 96 #[.val (.int nx), .val (.int fx), .val (.long k1), .second, .val (.long v1), .second, .val (.long k2), .second, .val (.long v2), .second, .val (.ref b_1), .val (.int (1 : Int32)), .val (.long k1), .second, .val (.long k1), .second, .val (.int (1 : Int32)), .unset] [])
        refine Go.st (fun _ => XS.aload X_36.here hx rfl (hb hby at_96) rfl rfl) ?_
        show Go p e below s _ _ _ T_36 (mkF m 98 #[.val (.int nx), .val (.int fx), .val (.long k1), .second, .val (.long v1), .second, .val (.long k2), .second, .val (.long v2), .second, .val (.ref b_1), .val (.int (1 : Int32)), .val (.long k1), .second, .val (.long k1), .second, .val (.int (1 : Int32)), .unset] [(.ref b_1)])
        obtain ⟨cq_39, kq_39, q_39a, q_39b, q_39c⟩ := isOf hZ e_36 p_36_0
        obtain ⟨_, _, ⟨T_39, L_39, kc_39, nc_39⟩, -, X_39, ⟨Lc_39, hQ_39, l_39, y_39, z_39⟩, st_39⟩ := X_36.virtualBack hx (y := (⟨"kasane/util/LongLongMap", "isEmpty", "()Z"⟩ : MethodName)) (z := (⟨"kasane/util/LongLongMap", "isEmpty", "()Z"⟩ : MethodName)) hown (mvT hZ (hw _ (List.mem_of_getElem? (i := 16) rfl))) (mvT hZ (hw _ (List.mem_of_getElem? (i := 17) rfl))) (notFace_of_selects (args := #[]) (mvT hZ (hw _ (List.mem_of_getElem? (i := 19) rfl)))) (mvT hZ (hw _ (List.mem_of_getElem? (i := 19) rfl))) (mvT hZ (hw _ (List.mem_of_getElem? (i := 18) rfl))) (by decide) (backOf (W := 0) (rmEm l Z a0 hw [] b_1 n2__36 h_36 n0 z_36q p_36_2) hZ (hw _ (List.mem_of_getElem? (i := 20) rfl)) (hw _ (List.mem_of_getElem? (i := 2) rfl)) (by decide) (by decide)) q_39a q_39c (g := (mkF m 98 #[.val (.int nx), .val (.int fx), .val (.long k1), .second, .val (.long v1), .second, .val (.long k2), .second, .val (.long v2), .second, .val (.ref b_1), .val (.int (1 : Int32)), .val (.long k1), .second, .val (.long k1), .second, .val (.int (1 : Int32)), .unset] [(.ref b_1)])) rfl (by rw [hml]; rfl) (Steps.refl _) (argsL := []) (rest := []) (lenOf pd_6 rfl) rfl (by show 2 * 0 + _ ≤ _; exact Nat.le_of_eq rfl) (hb hby at_98) (fun _ _ => ⟨rfl, e_36, (by decide : 2 + 0 ≤ _), (by decide : 20 + 0 ≤ _)⟩)
        dsimp only [Pt.U, Pt.locs, Pt.cells, Pt.slots] at X_39 l_39 y_39 z_39 st_39 hQ_39
        subst l_39 y_39 z_39
        obtain ⟨h_39, e_39⟩ : ∃ hh, T_39.heap = hh := ⟨_, rfl⟩
        rw [e_39] at hQ_39
        obtain ⟨rfl, N_39q, sm_39⟩ := hQ_39
        have N_39 := Fr.app N_36 N_39q
        refine Go.st (fun _ kk => st_39.trans kk) ?_
        rw [sm_39] at e_39
        show Go p e below s _ _ _ T_39 (mkF m 101 #[.val (.int nx), .val (.int fx), .val (.long k1), .second, .val (.long v1), .second, .val (.long k2), .second, .val (.long v2), .second, .val (.ref b_1), .val (.int (1 : Int32)), .val (.long k1), .second, .val (.long k1), .second, .val (.int (1 : Int32)), .unset] [(.int (b2i (n2__36 = (0 : Int32))))])
        rw [show (b2i (n2__36 = (0 : Int32))) = (0 : Int32) from b2i_neg hk_38]
        show Go p e below s _ _ _ T_39 (mkF m 101 #[.val (.int nx), .val (.int fx), .val (.long k1), .second, .val (.long v1), .second, .val (.long k2), .second, .val (.long v2), .second, .val (.ref b_1), .val (.int (1 : Int32)), .val (.long k1), .second, .val (.long k1), .second, .val (.int (1 : Int32)), .unset] [(.int (0 : Int32))])
        refine Go.st (fun _ => XS.istore X_39.here hx rfl (hb hby at_101) rfl (l' := #[.val (.int nx), .val (.int fx), .val (.long k1), .second, .val (.long v1), .second, .val (.long k2), .second, .val (.long v2), .second, .val (.ref b_1), .val (.int (1 : Int32)), .val (.long k1), .second, .val (.long k1), .second, .val (.int (1 : Int32)), .val (.int (0 : Int32))]) rfl) ?_
        show Go p e below s _ _ _ T_39 (mkF m 103 #[.val (.int nx), .val (.int fx), .val (.long k1), .second, .val (.long v1), .second, .val (.long k2), .second, .val (.long v2), .second, .val (.ref b_1), .val (.int (1 : Int32)), .val (.long k1), .second, .val (.long k1), .second, .val (.int (1 : Int32)), .val (.int (0 : Int32))] [])
        refine Go.st (fun _ => XS.iload X_39.here hx rfl (hb hby at_103) rfl) ?_
        show Go p e below s _ _ _ T_39 (mkF m 105 #[.val (.int nx), .val (.int fx), .val (.long k1), .second, .val (.long v1), .second, .val (.long k2), .second, .val (.long v2), .second, .val (.ref b_1), .val (.int (1 : Int32)), .val (.long k1), .second, .val (.long k1), .second, .val (.int (1 : Int32)), .val (.int (0 : Int32))] [(.int (1 : Int32))])
        refine Go.st (fun _ => XS.ifNo X_39.here hx rfl (hb hby at_105) rfl ((if0 _ _).trans (feq (by decide : ¬ ((1 : Int32) = (0 : Int32)))).1)) ?_
        show Go p e below s _ _ _ T_39 (mkF m 108 #[.val (.int nx), .val (.int fx), .val (.long k1), .second, .val (.long v1), .second, .val (.long k2), .second, .val (.long v2), .second, .val (.ref b_1), .val (.int (1 : Int32)), .val (.long k1), .second, .val (.long k1), .second, .val (.int (1 : Int32)), .val (.int (0 : Int32))] [])
        refine Go.st (fun _ => XS.iload X_39.here hx rfl (hb hby at_108) rfl) ?_
        show Go p e below s _ _ _ T_39 (mkF m 110 #[.val (.int nx), .val (.int fx), .val (.long k1), .second, .val (.long v1), .second, .val (.long k2), .second, .val (.long v2), .second, .val (.ref b_1), .val (.int (1 : Int32)), .val (.long k1), .second, .val (.long k1), .second, .val (.int (1 : Int32)), .val (.int (0 : Int32))] [(.int (0 : Int32))])
        refine Go.st (fun _ => XS.iload X_39.here hx rfl (hb hby at_110) rfl) ?_
        show Go p e below s _ _ _ T_39 (mkF m 112 #[.val (.int nx), .val (.int fx), .val (.long k1), .second, .val (.long v1), .second, .val (.long k2), .second, .val (.long v2), .second, .val (.ref b_1), .val (.int (1 : Int32)), .val (.long k1), .second, .val (.long k1), .second, .val (.int (1 : Int32)), .val (.int (0 : Int32))] [(.int (1 : Int32)), (.int (0 : Int32))])
        refine Go.st (fun _ => XS.ifYes X_39.here hx rfl (pc0 := 112) (pc' := 119) rfl (hb hby at_112) rfl ((if0 _ _).trans (feq (by decide : ¬ ((1 : Int32) = (0 : Int32)))).2) (by decide) (by decide)) ?_
        show Go p e below s _ _ _ T_39 (mkF m 119 #[.val (.int nx), .val (.int fx), .val (.long k1), .second, .val (.long v1), .second, .val (.long k2), .second, .val (.long v2), .second, .val (.ref b_1), .val (.int (1 : Int32)), .val (.long k1), .second, .val (.long k1), .second, .val (.int (1 : Int32)), .val (.int (0 : Int32))] [(.int (0 : Int32))])
        refine Go.st (fun _ => XS.iconst X_39.here hx rfl (hb hby at_119)) ?_
        show Go p e below s _ _ _ T_39 (mkF m 120 #[.val (.int nx), .val (.int fx), .val (.long k1), .second, .val (.long v1), .second, .val (.long k2), .second, .val (.long v2), .second, .val (.ref b_1), .val (.int (1 : Int32)), .val (.long k1), .second, .val (.long k1), .second, .val (.int (1 : Int32)), .val (.int (0 : Int32))] [(.int (0 : Int32)), (.int (0 : Int32))])
        refine Go.st (fun _ => XS.icmpNo X_39.here hx rfl (hb hby at_120) rfl (teq (by decide : (0 : Int32) = (0 : Int32))).2) ?_
        show Go p e below s _ _ _ T_39 (mkF m 123 #[.val (.int nx), .val (.int fx), .val (.long k1), .second, .val (.long v1), .second, .val (.long k2), .second, .val (.long v2), .second, .val (.ref b_1), .val (.int (1 : Int32)), .val (.long k1), .second, .val (.long k1), .second, .val (.int (1 : Int32)), .val (.int (0 : Int32))] [])
        refine Go.st (fun _ => XS.iload X_39.here hx rfl (hb hby at_123) rfl) ?_
        show Go p e below s _ _ _ T_39 (mkF m 125 #[.val (.int nx), .val (.int fx), .val (.long k1), .second, .val (.long v1), .second, .val (.long k2), .second, .val (.long v2), .second, .val (.ref b_1), .val (.int (1 : Int32)), .val (.long k1), .second, .val (.long k1), .second, .val (.int (1 : Int32)), .val (.int (0 : Int32))] [(.int (0 : Int32))])
        refine Go.st (fun _ => XS.aload X_39.here hx rfl (hb hby at_125) rfl rfl) ?_
        show Go p e below s _ _ _ T_39 (mkF m 127 #[.val (.int nx), .val (.int fx), .val (.long k1), .second, .val (.long v1), .second, .val (.long k2), .second, .val (.long v2), .second, .val (.ref b_1), .val (.int (1 : Int32)), .val (.long k1), .second, .val (.long k1), .second, .val (.int (1 : Int32)), .val (.int (0 : Int32))] [(.ref b_1), (.int (0 : Int32))])
        obtain ⟨cq_40, kq_40, q_40a, q_40b, q_40c⟩ := isOf hZ e_39 p_36_0
        obtain ⟨_, _, ⟨T_40, L_40, kc_40, nc_40⟩, -, X_40, ⟨Lc_40, hQ_40, l_40, y_40, z_40⟩, st_40⟩ := X_39.virtualBack hx (y := (⟨"kasane/util/LongLongMap", "size", "()I"⟩ : MethodName)) (z := (⟨"kasane/util/LongLongMap", "size", "()I"⟩ : MethodName)) hown (mvT hZ (hw _ (List.mem_of_getElem? (i := 24) rfl))) (mvT hZ (hw _ (List.mem_of_getElem? (i := 25) rfl))) (notFace_of_selects (args := #[]) (mvT hZ (hw _ (List.mem_of_getElem? (i := 27) rfl)))) (mvT hZ (hw _ (List.mem_of_getElem? (i := 27) rfl))) (mvT hZ (hw _ (List.mem_of_getElem? (i := 26) rfl))) (by decide) (backOf (W := 1) (rmSz l Z a0 hw [] b_1 n2__36 h_36 n0 z_36q p_36_2) hZ (hw _ (List.mem_of_getElem? (i := 28) rfl)) (hw _ (List.mem_of_getElem? (i := 2) rfl)) (by decide) (by decide)) q_40a q_40c (g := (mkF m 127 #[.val (.int nx), .val (.int fx), .val (.long k1), .second, .val (.long v1), .second, .val (.long k2), .second, .val (.long v2), .second, .val (.ref b_1), .val (.int (1 : Int32)), .val (.long k1), .second, .val (.long k1), .second, .val (.int (1 : Int32)), .val (.int (0 : Int32))] [(.ref b_1), (.int (0 : Int32))])) rfl (by rw [hml]; rfl) (Steps.refl _) (argsL := []) (rest := [(.int (0 : Int32))]) (lenOf pd_2 rfl) rfl (by show 2 * 0 + _ ≤ _; exact Nat.le_of_eq rfl) (hb hby at_127) (fun _ _ => ⟨rfl, e_39, (by decide : 2 + 0 ≤ _), (by decide : 20 + 0 ≤ _)⟩)
        dsimp only [Pt.U, Pt.locs, Pt.cells, Pt.slots] at X_40 l_40 y_40 z_40 st_40 hQ_40
        subst l_40 y_40 z_40
        obtain ⟨h_40, e_40⟩ : ∃ hh, T_40.heap = hh := ⟨_, rfl⟩
        rw [e_40] at hQ_40
        obtain ⟨rfl, N_40q, sm_40⟩ := hQ_40
        have N_40 := Fr.app N_39 N_40q
        refine Go.st (fun _ kk => st_40.trans kk) ?_
        rw [sm_40] at e_40
        show Go p e below s _ _ _ T_40 (mkF m 130 #[.val (.int nx), .val (.int fx), .val (.long k1), .second, .val (.long v1), .second, .val (.long k2), .second, .val (.long v2), .second, .val (.ref b_1), .val (.int (1 : Int32)), .val (.long k1), .second, .val (.long k1), .second, .val (.int (1 : Int32)), .val (.int (0 : Int32))] [(.int n2__36), (.int (0 : Int32))])
        refine Go.st (fun _ => XS.ifYes X_40.here hx rfl (pc0 := 130) (pc' := 137) rfl (hb hby at_130) rfl ((if0 _ _).trans (feq hk_38).2) (by decide) (by decide)) ?_
        show Go p e below s _ _ _ T_40 (mkF m 137 #[.val (.int nx), .val (.int fx), .val (.long k1), .second, .val (.long v1), .second, .val (.long k2), .second, .val (.long v2), .second, .val (.ref b_1), .val (.int (1 : Int32)), .val (.long k1), .second, .val (.long k1), .second, .val (.int (1 : Int32)), .val (.int (0 : Int32))] [(.int (0 : Int32))])
        refine Go.st (fun _ => XS.iconst X_40.here hx rfl (hb hby at_137)) ?_
        show Go p e below s _ _ _ T_40 (mkF m 138 #[.val (.int nx), .val (.int fx), .val (.long k1), .second, .val (.long v1), .second, .val (.long k2), .second, .val (.long v2), .second, .val (.ref b_1), .val (.int (1 : Int32)), .val (.long k1), .second, .val (.long k1), .second, .val (.int (1 : Int32)), .val (.int (0 : Int32))] [(.int (0 : Int32)), (.int (0 : Int32))])
        refine Go.st (fun _ => XS.icmpNo X_40.here hx rfl (hb hby at_138) rfl (teq (by decide : (0 : Int32) = (0 : Int32))).2) ?_
        show Go p e below s _ _ _ T_40 (mkF m 141 #[.val (.int nx), .val (.int fx), .val (.long k1), .second, .val (.long v1), .second, .val (.long k2), .second, .val (.long v2), .second, .val (.ref b_1), .val (.int (1 : Int32)), .val (.long k1), .second, .val (.long k1), .second, .val (.int (1 : Int32)), .val (.int (0 : Int32))] [])
        refine Go.st (fun _ => XS.iconst X_40.here hx rfl (hb hby at_141)) ?_
        show Go p e below s _ _ _ T_40 (mkF m 142 #[.val (.int nx), .val (.int fx), .val (.long k1), .second, .val (.long v1), .second, .val (.long k2), .second, .val (.long v2), .second, .val (.ref b_1), .val (.int (1 : Int32)), .val (.long k1), .second, .val (.long k1), .second, .val (.int (1 : Int32)), .val (.int (0 : Int32))] [(.int (1 : Int32))])
        refine Go.st (fun _ => XS.goto X_40.here hx rfl (pc0 := 142) (pc' := 146) rfl (hb hby at_142) (by decide) (by decide)) ?_
        show Go p e below s _ _ _ T_40 (mkF m 146 #[.val (.int nx), .val (.int fx), .val (.long k1), .second, .val (.long v1), .second, .val (.long k2), .second, .val (.long v2), .second, .val (.ref b_1), .val (.int (1 : Int32)), .val (.long k1), .second, .val (.long k1), .second, .val (.int (1 : Int32)), .val (.int (0 : Int32))] [(.int (1 : Int32))])
        exact Go.retZ X_40 hx hlk Bd.returns (hb hby at_146) rfl (by rw [e_40]; exact ⟨rfl, N_40⟩) (by decide) (by decide)
      · rw [show (nx &&& (3 : Int32)) = (2 : Int32) from hd_33]
        show Go p e below s _ _ _ T_3 (mkF m 49 #[.val (.int nx), .val (.int fx), .val (.long k1), .second, .val (.long v1), .second, .val (.long k2), .second, .val (.long v2), .second, .val (.ref b_1), .val (.int (1 : Int32)), .val (.long k1), .second, .val (.long k1), .second, .unset, .unset] [(.int (2 : Int32))])
        refine Go.st (fun _ => XS.istore X_3.here hx rfl (hb hby at_49) rfl (l' := #[.val (.int nx), .val (.int fx), .val (.long k1), .second, .val (.long v1), .second, .val (.long k2), .second, .val (.long v2), .second, .val (.ref b_1), .val (.int (1 : Int32)), .val (.long k1), .second, .val (.long k1), .second, .val (.int (2 : Int32)), .unset]) rfl) ?_
        show Go p e below s _ _ _ T_3 (mkF m 51 #[.val (.int nx), .val (.int fx), .val (.long k1), .second, .val (.long v1), .second, .val (.long k2), .second, .val (.long v2), .second, .val (.ref b_1), .val (.int (1 : Int32)), .val (.long k1), .second, .val (.long k1), .second, .val (.int (2 : Int32)), .unset] [])
        refine Go.st (fun _ => XS.iload X_3.here hx rfl (hb hby at_51) rfl) ?_
        show Go p e below s _ _ _ T_3 (mkF m 53 #[.val (.int nx), .val (.int fx), .val (.long k1), .second, .val (.long v1), .second, .val (.long k2), .second, .val (.long v2), .second, .val (.ref b_1), .val (.int (1 : Int32)), .val (.long k1), .second, .val (.long k1), .second, .val (.int (2 : Int32)), .unset] [(.int (2 : Int32))])
        refine Go.st (fun _ => XS.iconst X_3.here hx rfl (hb hby at_53)) ?_
        show Go p e below s _ _ _ T_3 (mkF m 54 #[.val (.int nx), .val (.int fx), .val (.long k1), .second, .val (.long v1), .second, .val (.long k2), .second, .val (.long v2), .second, .val (.ref b_1), .val (.int (1 : Int32)), .val (.long k1), .second, .val (.long k1), .second, .val (.int (2 : Int32)), .unset] [(.int (1 : Int32)), (.int (2 : Int32))])
        refine Go.st (fun _ => XS.icmpNo X_3.here hx rfl (hb hby at_54) rfl (flt (by decide : ¬ ((2 : Int32) < (1 : Int32)))).1) ?_
        show Go p e below s _ _ _ T_3 (mkF m 57 #[.val (.int nx), .val (.int fx), .val (.long k1), .second, .val (.long v1), .second, .val (.long k2), .second, .val (.long v2), .second, .val (.ref b_1), .val (.int (1 : Int32)), .val (.long k1), .second, .val (.long k1), .second, .val (.int (2 : Int32)), .unset] [])
        refine Go.st (fun _ => XS.aload X_3.here hx rfl (hb hby at_57) rfl rfl) ?_
        show Go p e below s _ _ _ T_3 (mkF m 59 #[.val (.int nx), .val (.int fx), .val (.long k1), .second, .val (.long v1), .second, .val (.long k2), .second, .val (.long v2), .second, .val (.ref b_1), .val (.int (1 : Int32)), .val (.long k1), .second, .val (.long k1), .second, .val (.int (2 : Int32)), .unset] [(.ref b_1)])
        refine Go.st (fun _ => XS.lload X_3.here hx rfl (hb hby at_59) rfl) ?_
        show Go p e below s _ _ _ T_3 (mkF m 61 #[.val (.int nx), .val (.int fx), .val (.long k1), .second, .val (.long v1), .second, .val (.long k2), .second, .val (.long v2), .second, .val (.ref b_1), .val (.int (1 : Int32)), .val (.long k1), .second, .val (.long k1), .second, .val (.int (2 : Int32)), .unset] [(.long k1), (.ref b_1)])
        refine Go.st (fun _ => XS.lload X_3.here hx rfl (hb hby at_61) rfl) ?_
        show Go p e below s _ _ _ T_3 (mkF m 63 #[.val (.int nx), .val (.int fx), .val (.long k1), .second, .val (.long v1), .second, .val (.long k2), .second, .val (.long v2), .second, .val (.ref b_1), .val (.int (1 : Int32)), .val (.long k1), .second, .val (.long k1), .second, .val (.int (2 : Int32)), .unset] [(.long v1), (.long k1), (.ref b_1)])
        obtain ⟨cq_41, kq_41, q_41a, q_41b, q_41c⟩ := isOf hZ e_3 p_2_2
        obtain ⟨_, _, ⟨T_41, L_41, kc_41, nc_41⟩, -, X_41, ⟨Lc_41, hQ_41, l_41, y_41, z_41⟩, st_41⟩ := X_3.virtualBack hx (y := (⟨"kasane/util/LongLongMap", "put", "(JJ)V"⟩ : MethodName)) (z := (⟨"kasane/util/LongLongMap", "put", "(JJ)V"⟩ : MethodName)) hown (mvT hZ (hw _ (List.mem_of_getElem? (i := 29) rfl))) (mvT hZ (hw _ (List.mem_of_getElem? (i := 30) rfl))) (notFace_of_selects (args := #[]) (mvT hZ (hw _ (List.mem_of_getElem? (i := 32) rfl)))) (mvT hZ (hw _ (List.mem_of_getElem? (i := 32) rfl))) (mvT hZ (hw _ (List.mem_of_getElem? (i := 31) rfl))) (by decide) (backOf (W := 0) (rmPu l Z a0 hw [] b_1 k1 v1 t__2 kt__2 [(-9223372036854775808 : Int64), (0 : Int64), (-9223372036854775808 : Int64), (0 : Int64), (-9223372036854775808 : Int64), (0 : Int64), (-9223372036854775808 : Int64), (0 : Int64), (-9223372036854775808 : Int64), (0 : Int64), (-9223372036854775808 : Int64), (0 : Int64), (-9223372036854775808 : Int64), (0 : Int64), (-9223372036854775808 : Int64), (0 : Int64)] (0 : Int32) (0 : Int32) (0 : Int64) h_2 n0 z_2q p_2_2 p_2_3 p_2_4 p_2_5 p_2_6 vm0 gg_1 p_2_1 ne_b_1_t__2 own_inv0 (by decide)) hZ (hw _ (List.mem_of_getElem? (i := 33) rfl)) (hw _ (List.mem_of_getElem? (i := 2) rfl)) (by decide) (by decide)) q_41a q_41c (g := (mkF m 63 #[.val (.int nx), .val (.int fx), .val (.long k1), .second, .val (.long v1), .second, .val (.long k2), .second, .val (.long v2), .second, .val (.ref b_1), .val (.int (1 : Int32)), .val (.long k1), .second, .val (.long k1), .second, .val (.int (2 : Int32)), .unset] [(.long v1), (.long k1), (.ref b_1)])) rfl (by rw [hml]; rfl) (Steps.refl _) (argsL := [(.long k1), (.long v1)]) (rest := []) (lenOf pd_7 rfl) rfl (by show 2 * 0 + _ ≤ _; exact Nat.le_of_eq rfl) (hb hby at_63) (fun _ _ => ⟨rfl, e_3, (by decide : 2 + 0 ≤ _), (by decide : 20 + 0 ≤ _)⟩)
        dsimp only [Pt.U, Pt.locs, Pt.cells, Pt.slots] at X_41 l_41 y_41 z_41 st_41 hQ_41
        subst l_41 y_41 z_41
        obtain ⟨h_41, e_41⟩ : ∃ hh, T_41.heap = hh := ⟨_, rfl⟩
        rw [e_41] at hQ_41
        obtain ⟨ks2__41, n2__41, f2__41, r2__41, rfl, N_41q, K_41, p_41_0, p_41_1, p_41_2, p_41_3, p_41_4, p_41_5, p_41_6, p_41_7⟩ := hQ_41
        have N_41 := Fr.app N_3 N_41q
        refine Go.st (fun _ kk => st_41.trans kk) ?_
        have z_41q : n0 ≤ h_41.size := Nat.le_trans z_2q K_41.1
        show Go p e below s _ _ _ T_41 (mkF m 66 #[.val (.int nx), .val (.int fx), .val (.long k1), .second, .val (.long v1), .second, .val (.long k2), .second, .val (.long v2), .second, .val (.ref b_1), .val (.int (1 : Int32)), .val (.long k1), .second, .val (.long k1), .second, .val (.int (2 : Int32)), .unset] [])
        have hle_42 : 1 ≤ n2__41.toInt ∧ n2__41.toInt ≤ 1 := by have q1 := p_41_7; have q2 := (trivial : True); have q3 : (0 : Int32).toInt = 0 := (by decide); omega
        have hk_43 : ¬ (n2__41 = (0 : Int32)) := own_pos hle_42.1
        refine Go.st (fun _ => XS.iload X_41.here hx rfl (hb hby at_66) rfl) ?_
        show Go p e below s _ _ _ T_41 (mkF m 68 #[.val (.int nx), .val (.int fx), .val (.long k1), .second, .val (.long v1), .second, .val (.long k2), .second, .val (.long v2), .second, .val (.ref b_1), .val (.int (1 : Int32)), .val (.long k1), .second, .val (.long k1), .second, .val (.int (2 : Int32)), .unset] [(.int (2 : Int32))])
        refine Go.st (fun _ => XS.iconst X_41.here hx rfl (hb hby at_68)) ?_
        show Go p e below s _ _ _ T_41 (mkF m 69 #[.val (.int nx), .val (.int fx), .val (.long k1), .second, .val (.long v1), .second, .val (.long k2), .second, .val (.long v2), .second, .val (.ref b_1), .val (.int (1 : Int32)), .val (.long k1), .second, .val (.long k1), .second, .val (.int (2 : Int32)), .unset] [(.int (2 : Int32)), (.int (2 : Int32))])
        refine Go.st (fun _ => XS.icmpNo X_41.here hx rfl (hb hby at_69) rfl (flt (by decide : ¬ ((2 : Int32) < (2 : Int32)))).1) ?_
        show Go p e below s _ _ _ T_41 (mkF m 72 #[.val (.int nx), .val (.int fx), .val (.long k1), .second, .val (.long v1), .second, .val (.long k2), .second, .val (.long v2), .second, .val (.ref b_1), .val (.int (1 : Int32)), .val (.long k1), .second, .val (.long k1), .second, .val (.int (2 : Int32)), .unset] [])
        refine Go.st (fun _ => XS.aload X_41.here hx rfl (hb hby at_72) rfl rfl) ?_
        show Go p e below s _ _ _ T_41 (mkF m 74 #[.val (.int nx), .val (.int fx), .val (.long k1), .second, .val (.long v1), .second, .val (.long k2), .second, .val (.long v2), .second, .val (.ref b_1), .val (.int (1 : Int32)), .val (.long k1), .second, .val (.long k1), .second, .val (.int (2 : Int32)), .unset] [(.ref b_1)])
        refine Go.st (fun _ => XS.lload X_41.here hx rfl (hb hby at_74) rfl) ?_
        show Go p e below s _ _ _ T_41 (mkF m 76 #[.val (.int nx), .val (.int fx), .val (.long k1), .second, .val (.long v1), .second, .val (.long k2), .second, .val (.long v2), .second, .val (.ref b_1), .val (.int (1 : Int32)), .val (.long k1), .second, .val (.long k1), .second, .val (.int (2 : Int32)), .unset] [(.long k1), (.ref b_1)])
        refine Go.st (fun _ => XS.lload X_41.here hx rfl (hb hby at_76) rfl) ?_
        show Go p e below s _ _ _ T_41 (mkF m 78 #[.val (.int nx), .val (.int fx), .val (.long k1), .second, .val (.long v1), .second, .val (.long k2), .second, .val (.long v2), .second, .val (.ref b_1), .val (.int (1 : Int32)), .val (.long k1), .second, .val (.long k1), .second, .val (.int (2 : Int32)), .unset] [(.long v2), (.long k1), (.ref b_1)])
        obtain ⟨cq_44, kq_44, q_44a, q_44b, q_44c⟩ := isOf hZ e_41 p_41_0
        obtain ⟨_, _, ⟨T_44, L_44, kc_44, nc_44⟩, -, X_44, ⟨Lc_44, hQ_44, l_44, y_44, z_44⟩, st_44⟩ := X_41.virtualBack hx (y := (⟨"kasane/util/LongLongMap", "put", "(JJ)V"⟩ : MethodName)) (z := (⟨"kasane/util/LongLongMap", "put", "(JJ)V"⟩ : MethodName)) hown (mvT hZ (hw _ (List.mem_of_getElem? (i := 29) rfl))) (mvT hZ (hw _ (List.mem_of_getElem? (i := 30) rfl))) (notFace_of_selects (args := #[]) (mvT hZ (hw _ (List.mem_of_getElem? (i := 32) rfl)))) (mvT hZ (hw _ (List.mem_of_getElem? (i := 32) rfl))) (mvT hZ (hw _ (List.mem_of_getElem? (i := 31) rfl))) (by decide) (backOf (W := 0) (rmPu l Z a0 hw [] b_1 k1 v2 t__2 kt__2 ks2__41 n2__41 f2__41 r2__41 h_41 n0 z_41q p_41_0 p_41_1 p_41_2 p_41_3 p_41_4 p_41_5 gg_1 p_2_1 ne_b_1_t__2 p_41_6 (by have q := hle_42; omega)) hZ (hw _ (List.mem_of_getElem? (i := 33) rfl)) (hw _ (List.mem_of_getElem? (i := 2) rfl)) (by decide) (by decide)) q_44a q_44c (g := (mkF m 78 #[.val (.int nx), .val (.int fx), .val (.long k1), .second, .val (.long v1), .second, .val (.long k2), .second, .val (.long v2), .second, .val (.ref b_1), .val (.int (1 : Int32)), .val (.long k1), .second, .val (.long k1), .second, .val (.int (2 : Int32)), .unset] [(.long v2), (.long k1), (.ref b_1)])) rfl (by rw [hml]; rfl) (Steps.refl _) (argsL := [(.long k1), (.long v2)]) (rest := []) (lenOf pd_7 rfl) rfl (by show 2 * 0 + _ ≤ _; exact Nat.le_of_eq rfl) (hb hby at_78) (fun _ _ => ⟨rfl, e_41, (by decide : 2 + 0 ≤ _), (by decide : 20 + 0 ≤ _)⟩)
        dsimp only [Pt.U, Pt.locs, Pt.cells, Pt.slots] at X_44 l_44 y_44 z_44 st_44 hQ_44
        subst l_44 y_44 z_44
        obtain ⟨h_44, e_44⟩ : ∃ hh, T_44.heap = hh := ⟨_, rfl⟩
        rw [e_44] at hQ_44
        obtain ⟨ks2__44, n2__44, f2__44, r2__44, rfl, N_44q, K_44, p_44_0, p_44_1, p_44_2, p_44_3, p_44_4, p_44_5, p_44_6, p_44_7⟩ := hQ_44
        have N_44 := Fr.app N_41 N_44q
        refine Go.st (fun _ kk => st_44.trans kk) ?_
        have z_44q : n0 ≤ h_44.size := Nat.le_trans z_41q K_44.1
        show Go p e below s _ _ _ T_44 (mkF m 81 #[.val (.int nx), .val (.int fx), .val (.long k1), .second, .val (.long v1), .second, .val (.long k2), .second, .val (.long v2), .second, .val (.ref b_1), .val (.int (1 : Int32)), .val (.long k1), .second, .val (.long k1), .second, .val (.int (2 : Int32)), .unset] [])
        have hle_45 : 1 ≤ n2__44.toInt ∧ n2__44.toInt ≤ 2 := by have q1 := p_44_7; have q2 := hle_42; omega
        have hk_46 : ¬ (n2__44 = (0 : Int32)) := own_pos hle_45.1
        refine Go.st (fun _ => XS.iload X_44.here hx rfl (hb hby at_81) rfl) ?_
        show Go p e below s _ _ _ T_44 (mkF m 83 #[.val (.int nx), .val (.int fx), .val (.long k1), .second, .val (.long v1), .second, .val (.long k2), .second, .val (.long v2), .second, .val (.ref b_1), .val (.int (1 : Int32)), .val (.long k1), .second, .val (.long k1), .second, .val (.int (2 : Int32)), .unset] [(.int (2 : Int32))])
        refine Go.st (fun _ => XS.iconst X_44.here hx rfl (hb hby at_83)) ?_
        show Go p e below s _ _ _ T_44 (mkF m 84 #[.val (.int nx), .val (.int fx), .val (.long k1), .second, .val (.long v1), .second, .val (.long k2), .second, .val (.long v2), .second, .val (.ref b_1), .val (.int (1 : Int32)), .val (.long k1), .second, .val (.long k1), .second, .val (.int (2 : Int32)), .unset] [(.int (3 : Int32)), (.int (2 : Int32))])
        refine Go.st (fun _ => XS.icmpYes X_44.here hx rfl (pc0 := 84) (pc' := 96) rfl (hb hby at_84) rfl (tlt (by decide : (2 : Int32) < (3 : Int32))).1 (by decide) (by decide)) ?_
        show Go p e below s _ _ _ T_44 (mkF m 96 #[.val (.int nx), .val (.int fx), .val (.long k1), .second, .val (.long v1), .second, .val (.long k2), .second, .val (.long v2), .second, .val (.ref b_1), .val (.int (1 : Int32)), .val (.long k1), .second, .val (.long k1), .second, .val (.int (2 : Int32)), .unset] [])
        refine Go.st (fun _ => XS.aload X_44.here hx rfl (hb hby at_96) rfl rfl) ?_
        show Go p e below s _ _ _ T_44 (mkF m 98 #[.val (.int nx), .val (.int fx), .val (.long k1), .second, .val (.long v1), .second, .val (.long k2), .second, .val (.long v2), .second, .val (.ref b_1), .val (.int (1 : Int32)), .val (.long k1), .second, .val (.long k1), .second, .val (.int (2 : Int32)), .unset] [(.ref b_1)])
        obtain ⟨cq_47, kq_47, q_47a, q_47b, q_47c⟩ := isOf hZ e_44 p_44_0
        obtain ⟨_, _, ⟨T_47, L_47, kc_47, nc_47⟩, -, X_47, ⟨Lc_47, hQ_47, l_47, y_47, z_47⟩, st_47⟩ := X_44.virtualBack hx (y := (⟨"kasane/util/LongLongMap", "isEmpty", "()Z"⟩ : MethodName)) (z := (⟨"kasane/util/LongLongMap", "isEmpty", "()Z"⟩ : MethodName)) hown (mvT hZ (hw _ (List.mem_of_getElem? (i := 16) rfl))) (mvT hZ (hw _ (List.mem_of_getElem? (i := 17) rfl))) (notFace_of_selects (args := #[]) (mvT hZ (hw _ (List.mem_of_getElem? (i := 19) rfl)))) (mvT hZ (hw _ (List.mem_of_getElem? (i := 19) rfl))) (mvT hZ (hw _ (List.mem_of_getElem? (i := 18) rfl))) (by decide) (backOf (W := 0) (rmEm l Z a0 hw [] b_1 n2__44 h_44 n0 z_44q p_44_2) hZ (hw _ (List.mem_of_getElem? (i := 20) rfl)) (hw _ (List.mem_of_getElem? (i := 2) rfl)) (by decide) (by decide)) q_47a q_47c (g := (mkF m 98 #[.val (.int nx), .val (.int fx), .val (.long k1), .second, .val (.long v1), .second, .val (.long k2), .second, .val (.long v2), .second, .val (.ref b_1), .val (.int (1 : Int32)), .val (.long k1), .second, .val (.long k1), .second, .val (.int (2 : Int32)), .unset] [(.ref b_1)])) rfl (by rw [hml]; rfl) (Steps.refl _) (argsL := []) (rest := []) (lenOf pd_6 rfl) rfl (by show 2 * 0 + _ ≤ _; exact Nat.le_of_eq rfl) (hb hby at_98) (fun _ _ => ⟨rfl, e_44, (by decide : 2 + 0 ≤ _), (by decide : 20 + 0 ≤ _)⟩)
        dsimp only [Pt.U, Pt.locs, Pt.cells, Pt.slots] at X_47 l_47 y_47 z_47 st_47 hQ_47
        subst l_47 y_47 z_47
        obtain ⟨h_47, e_47⟩ : ∃ hh, T_47.heap = hh := ⟨_, rfl⟩
        rw [e_47] at hQ_47
        obtain ⟨rfl, N_47q, sm_47⟩ := hQ_47
        have N_47 := Fr.app N_44 N_47q
        refine Go.st (fun _ kk => st_47.trans kk) ?_
        rw [sm_47] at e_47
        show Go p e below s _ _ _ T_47 (mkF m 101 #[.val (.int nx), .val (.int fx), .val (.long k1), .second, .val (.long v1), .second, .val (.long k2), .second, .val (.long v2), .second, .val (.ref b_1), .val (.int (1 : Int32)), .val (.long k1), .second, .val (.long k1), .second, .val (.int (2 : Int32)), .unset] [(.int (b2i (n2__44 = (0 : Int32))))])
        rw [show (b2i (n2__44 = (0 : Int32))) = (0 : Int32) from b2i_neg hk_46]
        show Go p e below s _ _ _ T_47 (mkF m 101 #[.val (.int nx), .val (.int fx), .val (.long k1), .second, .val (.long v1), .second, .val (.long k2), .second, .val (.long v2), .second, .val (.ref b_1), .val (.int (1 : Int32)), .val (.long k1), .second, .val (.long k1), .second, .val (.int (2 : Int32)), .unset] [(.int (0 : Int32))])
        refine Go.st (fun _ => XS.istore X_47.here hx rfl (hb hby at_101) rfl (l' := #[.val (.int nx), .val (.int fx), .val (.long k1), .second, .val (.long v1), .second, .val (.long k2), .second, .val (.long v2), .second, .val (.ref b_1), .val (.int (1 : Int32)), .val (.long k1), .second, .val (.long k1), .second, .val (.int (2 : Int32)), .val (.int (0 : Int32))]) rfl) ?_
        show Go p e below s _ _ _ T_47 (mkF m 103 #[.val (.int nx), .val (.int fx), .val (.long k1), .second, .val (.long v1), .second, .val (.long k2), .second, .val (.long v2), .second, .val (.ref b_1), .val (.int (1 : Int32)), .val (.long k1), .second, .val (.long k1), .second, .val (.int (2 : Int32)), .val (.int (0 : Int32))] [])
        refine Go.st (fun _ => XS.iload X_47.here hx rfl (hb hby at_103) rfl) ?_
        show Go p e below s _ _ _ T_47 (mkF m 105 #[.val (.int nx), .val (.int fx), .val (.long k1), .second, .val (.long v1), .second, .val (.long k2), .second, .val (.long v2), .second, .val (.ref b_1), .val (.int (1 : Int32)), .val (.long k1), .second, .val (.long k1), .second, .val (.int (2 : Int32)), .val (.int (0 : Int32))] [(.int (1 : Int32))])
        refine Go.st (fun _ => XS.ifNo X_47.here hx rfl (hb hby at_105) rfl ((if0 _ _).trans (feq (by decide : ¬ ((1 : Int32) = (0 : Int32)))).1)) ?_
        show Go p e below s _ _ _ T_47 (mkF m 108 #[.val (.int nx), .val (.int fx), .val (.long k1), .second, .val (.long v1), .second, .val (.long k2), .second, .val (.long v2), .second, .val (.ref b_1), .val (.int (1 : Int32)), .val (.long k1), .second, .val (.long k1), .second, .val (.int (2 : Int32)), .val (.int (0 : Int32))] [])
        refine Go.st (fun _ => XS.iload X_47.here hx rfl (hb hby at_108) rfl) ?_
        show Go p e below s _ _ _ T_47 (mkF m 110 #[.val (.int nx), .val (.int fx), .val (.long k1), .second, .val (.long v1), .second, .val (.long k2), .second, .val (.long v2), .second, .val (.ref b_1), .val (.int (1 : Int32)), .val (.long k1), .second, .val (.long k1), .second, .val (.int (2 : Int32)), .val (.int (0 : Int32))] [(.int (0 : Int32))])
        refine Go.st (fun _ => XS.iload X_47.here hx rfl (hb hby at_110) rfl) ?_
        show Go p e below s _ _ _ T_47 (mkF m 112 #[.val (.int nx), .val (.int fx), .val (.long k1), .second, .val (.long v1), .second, .val (.long k2), .second, .val (.long v2), .second, .val (.ref b_1), .val (.int (1 : Int32)), .val (.long k1), .second, .val (.long k1), .second, .val (.int (2 : Int32)), .val (.int (0 : Int32))] [(.int (2 : Int32)), (.int (0 : Int32))])
        refine Go.st (fun _ => XS.ifYes X_47.here hx rfl (pc0 := 112) (pc' := 119) rfl (hb hby at_112) rfl ((if0 _ _).trans (feq (by decide : ¬ ((2 : Int32) = (0 : Int32)))).2) (by decide) (by decide)) ?_
        show Go p e below s _ _ _ T_47 (mkF m 119 #[.val (.int nx), .val (.int fx), .val (.long k1), .second, .val (.long v1), .second, .val (.long k2), .second, .val (.long v2), .second, .val (.ref b_1), .val (.int (1 : Int32)), .val (.long k1), .second, .val (.long k1), .second, .val (.int (2 : Int32)), .val (.int (0 : Int32))] [(.int (0 : Int32))])
        refine Go.st (fun _ => XS.iconst X_47.here hx rfl (hb hby at_119)) ?_
        show Go p e below s _ _ _ T_47 (mkF m 120 #[.val (.int nx), .val (.int fx), .val (.long k1), .second, .val (.long v1), .second, .val (.long k2), .second, .val (.long v2), .second, .val (.ref b_1), .val (.int (1 : Int32)), .val (.long k1), .second, .val (.long k1), .second, .val (.int (2 : Int32)), .val (.int (0 : Int32))] [(.int (0 : Int32)), (.int (0 : Int32))])
        refine Go.st (fun _ => XS.icmpNo X_47.here hx rfl (hb hby at_120) rfl (teq (by decide : (0 : Int32) = (0 : Int32))).2) ?_
        show Go p e below s _ _ _ T_47 (mkF m 123 #[.val (.int nx), .val (.int fx), .val (.long k1), .second, .val (.long v1), .second, .val (.long k2), .second, .val (.long v2), .second, .val (.ref b_1), .val (.int (1 : Int32)), .val (.long k1), .second, .val (.long k1), .second, .val (.int (2 : Int32)), .val (.int (0 : Int32))] [])
        refine Go.st (fun _ => XS.iload X_47.here hx rfl (hb hby at_123) rfl) ?_
        show Go p e below s _ _ _ T_47 (mkF m 125 #[.val (.int nx), .val (.int fx), .val (.long k1), .second, .val (.long v1), .second, .val (.long k2), .second, .val (.long v2), .second, .val (.ref b_1), .val (.int (1 : Int32)), .val (.long k1), .second, .val (.long k1), .second, .val (.int (2 : Int32)), .val (.int (0 : Int32))] [(.int (0 : Int32))])
        refine Go.st (fun _ => XS.aload X_47.here hx rfl (hb hby at_125) rfl rfl) ?_
        show Go p e below s _ _ _ T_47 (mkF m 127 #[.val (.int nx), .val (.int fx), .val (.long k1), .second, .val (.long v1), .second, .val (.long k2), .second, .val (.long v2), .second, .val (.ref b_1), .val (.int (1 : Int32)), .val (.long k1), .second, .val (.long k1), .second, .val (.int (2 : Int32)), .val (.int (0 : Int32))] [(.ref b_1), (.int (0 : Int32))])
        obtain ⟨cq_48, kq_48, q_48a, q_48b, q_48c⟩ := isOf hZ e_47 p_44_0
        obtain ⟨_, _, ⟨T_48, L_48, kc_48, nc_48⟩, -, X_48, ⟨Lc_48, hQ_48, l_48, y_48, z_48⟩, st_48⟩ := X_47.virtualBack hx (y := (⟨"kasane/util/LongLongMap", "size", "()I"⟩ : MethodName)) (z := (⟨"kasane/util/LongLongMap", "size", "()I"⟩ : MethodName)) hown (mvT hZ (hw _ (List.mem_of_getElem? (i := 24) rfl))) (mvT hZ (hw _ (List.mem_of_getElem? (i := 25) rfl))) (notFace_of_selects (args := #[]) (mvT hZ (hw _ (List.mem_of_getElem? (i := 27) rfl)))) (mvT hZ (hw _ (List.mem_of_getElem? (i := 27) rfl))) (mvT hZ (hw _ (List.mem_of_getElem? (i := 26) rfl))) (by decide) (backOf (W := 1) (rmSz l Z a0 hw [] b_1 n2__44 h_44 n0 z_44q p_44_2) hZ (hw _ (List.mem_of_getElem? (i := 28) rfl)) (hw _ (List.mem_of_getElem? (i := 2) rfl)) (by decide) (by decide)) q_48a q_48c (g := (mkF m 127 #[.val (.int nx), .val (.int fx), .val (.long k1), .second, .val (.long v1), .second, .val (.long k2), .second, .val (.long v2), .second, .val (.ref b_1), .val (.int (1 : Int32)), .val (.long k1), .second, .val (.long k1), .second, .val (.int (2 : Int32)), .val (.int (0 : Int32))] [(.ref b_1), (.int (0 : Int32))])) rfl (by rw [hml]; rfl) (Steps.refl _) (argsL := []) (rest := [(.int (0 : Int32))]) (lenOf pd_2 rfl) rfl (by show 2 * 0 + _ ≤ _; exact Nat.le_of_eq rfl) (hb hby at_127) (fun _ _ => ⟨rfl, e_47, (by decide : 2 + 0 ≤ _), (by decide : 20 + 0 ≤ _)⟩)
        dsimp only [Pt.U, Pt.locs, Pt.cells, Pt.slots] at X_48 l_48 y_48 z_48 st_48 hQ_48
        subst l_48 y_48 z_48
        obtain ⟨h_48, e_48⟩ : ∃ hh, T_48.heap = hh := ⟨_, rfl⟩
        rw [e_48] at hQ_48
        obtain ⟨rfl, N_48q, sm_48⟩ := hQ_48
        have N_48 := Fr.app N_47 N_48q
        refine Go.st (fun _ kk => st_48.trans kk) ?_
        rw [sm_48] at e_48
        show Go p e below s _ _ _ T_48 (mkF m 130 #[.val (.int nx), .val (.int fx), .val (.long k1), .second, .val (.long v1), .second, .val (.long k2), .second, .val (.long v2), .second, .val (.ref b_1), .val (.int (1 : Int32)), .val (.long k1), .second, .val (.long k1), .second, .val (.int (2 : Int32)), .val (.int (0 : Int32))] [(.int n2__44), (.int (0 : Int32))])
        refine Go.st (fun _ => XS.ifYes X_48.here hx rfl (pc0 := 130) (pc' := 137) rfl (hb hby at_130) rfl ((if0 _ _).trans (feq hk_46).2) (by decide) (by decide)) ?_
        show Go p e below s _ _ _ T_48 (mkF m 137 #[.val (.int nx), .val (.int fx), .val (.long k1), .second, .val (.long v1), .second, .val (.long k2), .second, .val (.long v2), .second, .val (.ref b_1), .val (.int (1 : Int32)), .val (.long k1), .second, .val (.long k1), .second, .val (.int (2 : Int32)), .val (.int (0 : Int32))] [(.int (0 : Int32))])
        refine Go.st (fun _ => XS.iconst X_48.here hx rfl (hb hby at_137)) ?_
        show Go p e below s _ _ _ T_48 (mkF m 138 #[.val (.int nx), .val (.int fx), .val (.long k1), .second, .val (.long v1), .second, .val (.long k2), .second, .val (.long v2), .second, .val (.ref b_1), .val (.int (1 : Int32)), .val (.long k1), .second, .val (.long k1), .second, .val (.int (2 : Int32)), .val (.int (0 : Int32))] [(.int (0 : Int32)), (.int (0 : Int32))])
        refine Go.st (fun _ => XS.icmpNo X_48.here hx rfl (hb hby at_138) rfl (teq (by decide : (0 : Int32) = (0 : Int32))).2) ?_
        show Go p e below s _ _ _ T_48 (mkF m 141 #[.val (.int nx), .val (.int fx), .val (.long k1), .second, .val (.long v1), .second, .val (.long k2), .second, .val (.long v2), .second, .val (.ref b_1), .val (.int (1 : Int32)), .val (.long k1), .second, .val (.long k1), .second, .val (.int (2 : Int32)), .val (.int (0 : Int32))] [])
        refine Go.st (fun _ => XS.iconst X_48.here hx rfl (hb hby at_141)) ?_
        show Go p e below s _ _ _ T_48 (mkF m 142 #[.val (.int nx), .val (.int fx), .val (.long k1), .second, .val (.long v1), .second, .val (.long k2), .second, .val (.long v2), .second, .val (.ref b_1), .val (.int (1 : Int32)), .val (.long k1), .second, .val (.long k1), .second, .val (.int (2 : Int32)), .val (.int (0 : Int32))] [(.int (1 : Int32))])
        refine Go.st (fun _ => XS.goto X_48.here hx rfl (pc0 := 142) (pc' := 146) rfl (hb hby at_142) (by decide) (by decide)) ?_
        show Go p e below s _ _ _ T_48 (mkF m 146 #[.val (.int nx), .val (.int fx), .val (.long k1), .second, .val (.long v1), .second, .val (.long k2), .second, .val (.long v2), .second, .val (.ref b_1), .val (.int (1 : Int32)), .val (.long k1), .second, .val (.long k1), .second, .val (.int (2 : Int32)), .val (.int (0 : Int32))] [(.int (1 : Int32))])
        exact Go.retZ X_48 hx hlk Bd.returns (hb hby at_146) rfl (by rw [e_48]; exact ⟨rfl, N_48⟩) (by decide) (by decide)
      · rw [show (nx &&& (3 : Int32)) = (3 : Int32) from hd_33]
        show Go p e below s _ _ _ T_3 (mkF m 49 #[.val (.int nx), .val (.int fx), .val (.long k1), .second, .val (.long v1), .second, .val (.long k2), .second, .val (.long v2), .second, .val (.ref b_1), .val (.int (1 : Int32)), .val (.long k1), .second, .val (.long k1), .second, .unset, .unset] [(.int (3 : Int32))])
        refine Go.st (fun _ => XS.istore X_3.here hx rfl (hb hby at_49) rfl (l' := #[.val (.int nx), .val (.int fx), .val (.long k1), .second, .val (.long v1), .second, .val (.long k2), .second, .val (.long v2), .second, .val (.ref b_1), .val (.int (1 : Int32)), .val (.long k1), .second, .val (.long k1), .second, .val (.int (3 : Int32)), .unset]) rfl) ?_
        show Go p e below s _ _ _ T_3 (mkF m 51 #[.val (.int nx), .val (.int fx), .val (.long k1), .second, .val (.long v1), .second, .val (.long k2), .second, .val (.long v2), .second, .val (.ref b_1), .val (.int (1 : Int32)), .val (.long k1), .second, .val (.long k1), .second, .val (.int (3 : Int32)), .unset] [])
        refine Go.st (fun _ => XS.iload X_3.here hx rfl (hb hby at_51) rfl) ?_
        show Go p e below s _ _ _ T_3 (mkF m 53 #[.val (.int nx), .val (.int fx), .val (.long k1), .second, .val (.long v1), .second, .val (.long k2), .second, .val (.long v2), .second, .val (.ref b_1), .val (.int (1 : Int32)), .val (.long k1), .second, .val (.long k1), .second, .val (.int (3 : Int32)), .unset] [(.int (3 : Int32))])
        refine Go.st (fun _ => XS.iconst X_3.here hx rfl (hb hby at_53)) ?_
        show Go p e below s _ _ _ T_3 (mkF m 54 #[.val (.int nx), .val (.int fx), .val (.long k1), .second, .val (.long v1), .second, .val (.long k2), .second, .val (.long v2), .second, .val (.ref b_1), .val (.int (1 : Int32)), .val (.long k1), .second, .val (.long k1), .second, .val (.int (3 : Int32)), .unset] [(.int (1 : Int32)), (.int (3 : Int32))])
        refine Go.st (fun _ => XS.icmpNo X_3.here hx rfl (hb hby at_54) rfl (flt (by decide : ¬ ((3 : Int32) < (1 : Int32)))).1) ?_
        show Go p e below s _ _ _ T_3 (mkF m 57 #[.val (.int nx), .val (.int fx), .val (.long k1), .second, .val (.long v1), .second, .val (.long k2), .second, .val (.long v2), .second, .val (.ref b_1), .val (.int (1 : Int32)), .val (.long k1), .second, .val (.long k1), .second, .val (.int (3 : Int32)), .unset] [])
        refine Go.st (fun _ => XS.aload X_3.here hx rfl (hb hby at_57) rfl rfl) ?_
        show Go p e below s _ _ _ T_3 (mkF m 59 #[.val (.int nx), .val (.int fx), .val (.long k1), .second, .val (.long v1), .second, .val (.long k2), .second, .val (.long v2), .second, .val (.ref b_1), .val (.int (1 : Int32)), .val (.long k1), .second, .val (.long k1), .second, .val (.int (3 : Int32)), .unset] [(.ref b_1)])
        refine Go.st (fun _ => XS.lload X_3.here hx rfl (hb hby at_59) rfl) ?_
        show Go p e below s _ _ _ T_3 (mkF m 61 #[.val (.int nx), .val (.int fx), .val (.long k1), .second, .val (.long v1), .second, .val (.long k2), .second, .val (.long v2), .second, .val (.ref b_1), .val (.int (1 : Int32)), .val (.long k1), .second, .val (.long k1), .second, .val (.int (3 : Int32)), .unset] [(.long k1), (.ref b_1)])
        refine Go.st (fun _ => XS.lload X_3.here hx rfl (hb hby at_61) rfl) ?_
        show Go p e below s _ _ _ T_3 (mkF m 63 #[.val (.int nx), .val (.int fx), .val (.long k1), .second, .val (.long v1), .second, .val (.long k2), .second, .val (.long v2), .second, .val (.ref b_1), .val (.int (1 : Int32)), .val (.long k1), .second, .val (.long k1), .second, .val (.int (3 : Int32)), .unset] [(.long v1), (.long k1), (.ref b_1)])
        obtain ⟨cq_49, kq_49, q_49a, q_49b, q_49c⟩ := isOf hZ e_3 p_2_2
        obtain ⟨_, _, ⟨T_49, L_49, kc_49, nc_49⟩, -, X_49, ⟨Lc_49, hQ_49, l_49, y_49, z_49⟩, st_49⟩ := X_3.virtualBack hx (y := (⟨"kasane/util/LongLongMap", "put", "(JJ)V"⟩ : MethodName)) (z := (⟨"kasane/util/LongLongMap", "put", "(JJ)V"⟩ : MethodName)) hown (mvT hZ (hw _ (List.mem_of_getElem? (i := 29) rfl))) (mvT hZ (hw _ (List.mem_of_getElem? (i := 30) rfl))) (notFace_of_selects (args := #[]) (mvT hZ (hw _ (List.mem_of_getElem? (i := 32) rfl)))) (mvT hZ (hw _ (List.mem_of_getElem? (i := 32) rfl))) (mvT hZ (hw _ (List.mem_of_getElem? (i := 31) rfl))) (by decide) (backOf (W := 0) (rmPu l Z a0 hw [] b_1 k1 v1 t__2 kt__2 [(-9223372036854775808 : Int64), (0 : Int64), (-9223372036854775808 : Int64), (0 : Int64), (-9223372036854775808 : Int64), (0 : Int64), (-9223372036854775808 : Int64), (0 : Int64), (-9223372036854775808 : Int64), (0 : Int64), (-9223372036854775808 : Int64), (0 : Int64), (-9223372036854775808 : Int64), (0 : Int64), (-9223372036854775808 : Int64), (0 : Int64)] (0 : Int32) (0 : Int32) (0 : Int64) h_2 n0 z_2q p_2_2 p_2_3 p_2_4 p_2_5 p_2_6 vm0 gg_1 p_2_1 ne_b_1_t__2 own_inv0 (by decide)) hZ (hw _ (List.mem_of_getElem? (i := 33) rfl)) (hw _ (List.mem_of_getElem? (i := 2) rfl)) (by decide) (by decide)) q_49a q_49c (g := (mkF m 63 #[.val (.int nx), .val (.int fx), .val (.long k1), .second, .val (.long v1), .second, .val (.long k2), .second, .val (.long v2), .second, .val (.ref b_1), .val (.int (1 : Int32)), .val (.long k1), .second, .val (.long k1), .second, .val (.int (3 : Int32)), .unset] [(.long v1), (.long k1), (.ref b_1)])) rfl (by rw [hml]; rfl) (Steps.refl _) (argsL := [(.long k1), (.long v1)]) (rest := []) (lenOf pd_7 rfl) rfl (by show 2 * 0 + _ ≤ _; exact Nat.le_of_eq rfl) (hb hby at_63) (fun _ _ => ⟨rfl, e_3, (by decide : 2 + 0 ≤ _), (by decide : 20 + 0 ≤ _)⟩)
        dsimp only [Pt.U, Pt.locs, Pt.cells, Pt.slots] at X_49 l_49 y_49 z_49 st_49 hQ_49
        subst l_49 y_49 z_49
        obtain ⟨h_49, e_49⟩ : ∃ hh, T_49.heap = hh := ⟨_, rfl⟩
        rw [e_49] at hQ_49
        obtain ⟨ks2__49, n2__49, f2__49, r2__49, rfl, N_49q, K_49, p_49_0, p_49_1, p_49_2, p_49_3, p_49_4, p_49_5, p_49_6, p_49_7⟩ := hQ_49
        have N_49 := Fr.app N_3 N_49q
        refine Go.st (fun _ kk => st_49.trans kk) ?_
        have z_49q : n0 ≤ h_49.size := Nat.le_trans z_2q K_49.1
        show Go p e below s _ _ _ T_49 (mkF m 66 #[.val (.int nx), .val (.int fx), .val (.long k1), .second, .val (.long v1), .second, .val (.long k2), .second, .val (.long v2), .second, .val (.ref b_1), .val (.int (1 : Int32)), .val (.long k1), .second, .val (.long k1), .second, .val (.int (3 : Int32)), .unset] [])
        have hle_50 : 1 ≤ n2__49.toInt ∧ n2__49.toInt ≤ 1 := by have q1 := p_49_7; have q2 := (trivial : True); have q3 : (0 : Int32).toInt = 0 := (by decide); omega
        have hk_51 : ¬ (n2__49 = (0 : Int32)) := own_pos hle_50.1
        refine Go.st (fun _ => XS.iload X_49.here hx rfl (hb hby at_66) rfl) ?_
        show Go p e below s _ _ _ T_49 (mkF m 68 #[.val (.int nx), .val (.int fx), .val (.long k1), .second, .val (.long v1), .second, .val (.long k2), .second, .val (.long v2), .second, .val (.ref b_1), .val (.int (1 : Int32)), .val (.long k1), .second, .val (.long k1), .second, .val (.int (3 : Int32)), .unset] [(.int (3 : Int32))])
        refine Go.st (fun _ => XS.iconst X_49.here hx rfl (hb hby at_68)) ?_
        show Go p e below s _ _ _ T_49 (mkF m 69 #[.val (.int nx), .val (.int fx), .val (.long k1), .second, .val (.long v1), .second, .val (.long k2), .second, .val (.long v2), .second, .val (.ref b_1), .val (.int (1 : Int32)), .val (.long k1), .second, .val (.long k1), .second, .val (.int (3 : Int32)), .unset] [(.int (2 : Int32)), (.int (3 : Int32))])
        refine Go.st (fun _ => XS.icmpNo X_49.here hx rfl (hb hby at_69) rfl (flt (by decide : ¬ ((3 : Int32) < (2 : Int32)))).1) ?_
        show Go p e below s _ _ _ T_49 (mkF m 72 #[.val (.int nx), .val (.int fx), .val (.long k1), .second, .val (.long v1), .second, .val (.long k2), .second, .val (.long v2), .second, .val (.ref b_1), .val (.int (1 : Int32)), .val (.long k1), .second, .val (.long k1), .second, .val (.int (3 : Int32)), .unset] [])
        refine Go.st (fun _ => XS.aload X_49.here hx rfl (hb hby at_72) rfl rfl) ?_
        show Go p e below s _ _ _ T_49 (mkF m 74 #[.val (.int nx), .val (.int fx), .val (.long k1), .second, .val (.long v1), .second, .val (.long k2), .second, .val (.long v2), .second, .val (.ref b_1), .val (.int (1 : Int32)), .val (.long k1), .second, .val (.long k1), .second, .val (.int (3 : Int32)), .unset] [(.ref b_1)])
        refine Go.st (fun _ => XS.lload X_49.here hx rfl (hb hby at_74) rfl) ?_
        show Go p e below s _ _ _ T_49 (mkF m 76 #[.val (.int nx), .val (.int fx), .val (.long k1), .second, .val (.long v1), .second, .val (.long k2), .second, .val (.long v2), .second, .val (.ref b_1), .val (.int (1 : Int32)), .val (.long k1), .second, .val (.long k1), .second, .val (.int (3 : Int32)), .unset] [(.long k1), (.ref b_1)])
        refine Go.st (fun _ => XS.lload X_49.here hx rfl (hb hby at_76) rfl) ?_
        show Go p e below s _ _ _ T_49 (mkF m 78 #[.val (.int nx), .val (.int fx), .val (.long k1), .second, .val (.long v1), .second, .val (.long k2), .second, .val (.long v2), .second, .val (.ref b_1), .val (.int (1 : Int32)), .val (.long k1), .second, .val (.long k1), .second, .val (.int (3 : Int32)), .unset] [(.long v2), (.long k1), (.ref b_1)])
        obtain ⟨cq_52, kq_52, q_52a, q_52b, q_52c⟩ := isOf hZ e_49 p_49_0
        obtain ⟨_, _, ⟨T_52, L_52, kc_52, nc_52⟩, -, X_52, ⟨Lc_52, hQ_52, l_52, y_52, z_52⟩, st_52⟩ := X_49.virtualBack hx (y := (⟨"kasane/util/LongLongMap", "put", "(JJ)V"⟩ : MethodName)) (z := (⟨"kasane/util/LongLongMap", "put", "(JJ)V"⟩ : MethodName)) hown (mvT hZ (hw _ (List.mem_of_getElem? (i := 29) rfl))) (mvT hZ (hw _ (List.mem_of_getElem? (i := 30) rfl))) (notFace_of_selects (args := #[]) (mvT hZ (hw _ (List.mem_of_getElem? (i := 32) rfl)))) (mvT hZ (hw _ (List.mem_of_getElem? (i := 32) rfl))) (mvT hZ (hw _ (List.mem_of_getElem? (i := 31) rfl))) (by decide) (backOf (W := 0) (rmPu l Z a0 hw [] b_1 k1 v2 t__2 kt__2 ks2__49 n2__49 f2__49 r2__49 h_49 n0 z_49q p_49_0 p_49_1 p_49_2 p_49_3 p_49_4 p_49_5 gg_1 p_2_1 ne_b_1_t__2 p_49_6 (by have q := hle_50; omega)) hZ (hw _ (List.mem_of_getElem? (i := 33) rfl)) (hw _ (List.mem_of_getElem? (i := 2) rfl)) (by decide) (by decide)) q_52a q_52c (g := (mkF m 78 #[.val (.int nx), .val (.int fx), .val (.long k1), .second, .val (.long v1), .second, .val (.long k2), .second, .val (.long v2), .second, .val (.ref b_1), .val (.int (1 : Int32)), .val (.long k1), .second, .val (.long k1), .second, .val (.int (3 : Int32)), .unset] [(.long v2), (.long k1), (.ref b_1)])) rfl (by rw [hml]; rfl) (Steps.refl _) (argsL := [(.long k1), (.long v2)]) (rest := []) (lenOf pd_7 rfl) rfl (by show 2 * 0 + _ ≤ _; exact Nat.le_of_eq rfl) (hb hby at_78) (fun _ _ => ⟨rfl, e_49, (by decide : 2 + 0 ≤ _), (by decide : 20 + 0 ≤ _)⟩)
        dsimp only [Pt.U, Pt.locs, Pt.cells, Pt.slots] at X_52 l_52 y_52 z_52 st_52 hQ_52
        subst l_52 y_52 z_52
        obtain ⟨h_52, e_52⟩ : ∃ hh, T_52.heap = hh := ⟨_, rfl⟩
        rw [e_52] at hQ_52
        obtain ⟨ks2__52, n2__52, f2__52, r2__52, rfl, N_52q, K_52, p_52_0, p_52_1, p_52_2, p_52_3, p_52_4, p_52_5, p_52_6, p_52_7⟩ := hQ_52
        have N_52 := Fr.app N_49 N_52q
        refine Go.st (fun _ kk => st_52.trans kk) ?_
        have z_52q : n0 ≤ h_52.size := Nat.le_trans z_49q K_52.1
        show Go p e below s _ _ _ T_52 (mkF m 81 #[.val (.int nx), .val (.int fx), .val (.long k1), .second, .val (.long v1), .second, .val (.long k2), .second, .val (.long v2), .second, .val (.ref b_1), .val (.int (1 : Int32)), .val (.long k1), .second, .val (.long k1), .second, .val (.int (3 : Int32)), .unset] [])
        have hle_53 : 1 ≤ n2__52.toInt ∧ n2__52.toInt ≤ 2 := by have q1 := p_52_7; have q2 := hle_50; omega
        have hk_54 : ¬ (n2__52 = (0 : Int32)) := own_pos hle_53.1
        refine Go.st (fun _ => XS.iload X_52.here hx rfl (hb hby at_81) rfl) ?_
        show Go p e below s _ _ _ T_52 (mkF m 83 #[.val (.int nx), .val (.int fx), .val (.long k1), .second, .val (.long v1), .second, .val (.long k2), .second, .val (.long v2), .second, .val (.ref b_1), .val (.int (1 : Int32)), .val (.long k1), .second, .val (.long k1), .second, .val (.int (3 : Int32)), .unset] [(.int (3 : Int32))])
        refine Go.st (fun _ => XS.iconst X_52.here hx rfl (hb hby at_83)) ?_
        show Go p e below s _ _ _ T_52 (mkF m 84 #[.val (.int nx), .val (.int fx), .val (.long k1), .second, .val (.long v1), .second, .val (.long k2), .second, .val (.long v2), .second, .val (.ref b_1), .val (.int (1 : Int32)), .val (.long k1), .second, .val (.long k1), .second, .val (.int (3 : Int32)), .unset] [(.int (3 : Int32)), (.int (3 : Int32))])
        refine Go.st (fun _ => XS.icmpNo X_52.here hx rfl (hb hby at_84) rfl (flt (by decide : ¬ ((3 : Int32) < (3 : Int32)))).1) ?_
        show Go p e below s _ _ _ T_52 (mkF m 87 #[.val (.int nx), .val (.int fx), .val (.long k1), .second, .val (.long v1), .second, .val (.long k2), .second, .val (.long v2), .second, .val (.ref b_1), .val (.int (1 : Int32)), .val (.long k1), .second, .val (.long k1), .second, .val (.int (3 : Int32)), .unset] [])
        refine Go.st (fun _ => XS.aload X_52.here hx rfl (hb hby at_87) rfl rfl) ?_
        show Go p e below s _ _ _ T_52 (mkF m 89 #[.val (.int nx), .val (.int fx), .val (.long k1), .second, .val (.long v1), .second, .val (.long k2), .second, .val (.long v2), .second, .val (.ref b_1), .val (.int (1 : Int32)), .val (.long k1), .second, .val (.long k1), .second, .val (.int (3 : Int32)), .unset] [(.ref b_1)])
        refine Go.st (fun _ => XS.lload X_52.here hx rfl (hb hby at_89) rfl) ?_
        show Go p e below s _ _ _ T_52 (mkF m 91 #[.val (.int nx), .val (.int fx), .val (.long k1), .second, .val (.long v1), .second, .val (.long k2), .second, .val (.long v2), .second, .val (.ref b_1), .val (.int (1 : Int32)), .val (.long k1), .second, .val (.long k1), .second, .val (.int (3 : Int32)), .unset] [(.long k2), (.ref b_1)])
        refine Go.st (fun _ => XS.lload X_52.here hx rfl (hb hby at_91) rfl) ?_
        show Go p e below s _ _ _ T_52 (mkF m 93 #[.val (.int nx), .val (.int fx), .val (.long k1), .second, .val (.long v1), .second, .val (.long k2), .second, .val (.long v2), .second, .val (.ref b_1), .val (.int (1 : Int32)), .val (.long k1), .second, .val (.long k1), .second, .val (.int (3 : Int32)), .unset] [(.long v1), (.long k2), (.ref b_1)])
        obtain ⟨cq_55, kq_55, q_55a, q_55b, q_55c⟩ := isOf hZ e_52 p_52_0
        obtain ⟨_, _, ⟨T_55, L_55, kc_55, nc_55⟩, -, X_55, ⟨Lc_55, hQ_55, l_55, y_55, z_55⟩, st_55⟩ := X_52.virtualBack hx (y := (⟨"kasane/util/LongLongMap", "put", "(JJ)V"⟩ : MethodName)) (z := (⟨"kasane/util/LongLongMap", "put", "(JJ)V"⟩ : MethodName)) hown (mvT hZ (hw _ (List.mem_of_getElem? (i := 29) rfl))) (mvT hZ (hw _ (List.mem_of_getElem? (i := 30) rfl))) (notFace_of_selects (args := #[]) (mvT hZ (hw _ (List.mem_of_getElem? (i := 32) rfl)))) (mvT hZ (hw _ (List.mem_of_getElem? (i := 32) rfl))) (mvT hZ (hw _ (List.mem_of_getElem? (i := 31) rfl))) (by decide) (backOf (W := 0) (rmPu l Z a0 hw [] b_1 k2 v1 t__2 kt__2 ks2__52 n2__52 f2__52 r2__52 h_52 n0 z_52q p_52_0 p_52_1 p_52_2 p_52_3 p_52_4 p_52_5 gg_1 p_2_1 ne_b_1_t__2 p_52_6 (by have q := hle_53; omega)) hZ (hw _ (List.mem_of_getElem? (i := 33) rfl)) (hw _ (List.mem_of_getElem? (i := 2) rfl)) (by decide) (by decide)) q_55a q_55c (g := (mkF m 93 #[.val (.int nx), .val (.int fx), .val (.long k1), .second, .val (.long v1), .second, .val (.long k2), .second, .val (.long v2), .second, .val (.ref b_1), .val (.int (1 : Int32)), .val (.long k1), .second, .val (.long k1), .second, .val (.int (3 : Int32)), .unset] [(.long v1), (.long k2), (.ref b_1)])) rfl (by rw [hml]; rfl) (Steps.refl _) (argsL := [(.long k2), (.long v1)]) (rest := []) (lenOf pd_7 rfl) rfl (by show 2 * 0 + _ ≤ _; exact Nat.le_of_eq rfl) (hb hby at_93) (fun _ _ => ⟨rfl, e_52, (by decide : 2 + 0 ≤ _), (by decide : 20 + 0 ≤ _)⟩)
        dsimp only [Pt.U, Pt.locs, Pt.cells, Pt.slots] at X_55 l_55 y_55 z_55 st_55 hQ_55
        subst l_55 y_55 z_55
        obtain ⟨h_55, e_55⟩ : ∃ hh, T_55.heap = hh := ⟨_, rfl⟩
        rw [e_55] at hQ_55
        obtain ⟨ks2__55, n2__55, f2__55, r2__55, rfl, N_55q, K_55, p_55_0, p_55_1, p_55_2, p_55_3, p_55_4, p_55_5, p_55_6, p_55_7⟩ := hQ_55
        have N_55 := Fr.app N_52 N_55q
        refine Go.st (fun _ kk => st_55.trans kk) ?_
        have z_55q : n0 ≤ h_55.size := Nat.le_trans z_52q K_55.1
        show Go p e below s _ _ _ T_55 (mkF m 96 #[.val (.int nx), .val (.int fx), .val (.long k1), .second, .val (.long v1), .second, .val (.long k2), .second, .val (.long v2), .second, .val (.ref b_1), .val (.int (1 : Int32)), .val (.long k1), .second, .val (.long k1), .second, .val (.int (3 : Int32)), .unset] [])
        have hle_56 : 1 ≤ n2__55.toInt ∧ n2__55.toInt ≤ 3 := by have q1 := p_55_7; have q2 := hle_53; omega
        have hk_57 : ¬ (n2__55 = (0 : Int32)) := own_pos hle_56.1
        refine Go.st (fun _ => XS.aload X_55.here hx rfl (hb hby at_96) rfl rfl) ?_
        show Go p e below s _ _ _ T_55 (mkF m 98 #[.val (.int nx), .val (.int fx), .val (.long k1), .second, .val (.long v1), .second, .val (.long k2), .second, .val (.long v2), .second, .val (.ref b_1), .val (.int (1 : Int32)), .val (.long k1), .second, .val (.long k1), .second, .val (.int (3 : Int32)), .unset] [(.ref b_1)])
        obtain ⟨cq_58, kq_58, q_58a, q_58b, q_58c⟩ := isOf hZ e_55 p_55_0
        obtain ⟨_, _, ⟨T_58, L_58, kc_58, nc_58⟩, -, X_58, ⟨Lc_58, hQ_58, l_58, y_58, z_58⟩, st_58⟩ := X_55.virtualBack hx (y := (⟨"kasane/util/LongLongMap", "isEmpty", "()Z"⟩ : MethodName)) (z := (⟨"kasane/util/LongLongMap", "isEmpty", "()Z"⟩ : MethodName)) hown (mvT hZ (hw _ (List.mem_of_getElem? (i := 16) rfl))) (mvT hZ (hw _ (List.mem_of_getElem? (i := 17) rfl))) (notFace_of_selects (args := #[]) (mvT hZ (hw _ (List.mem_of_getElem? (i := 19) rfl)))) (mvT hZ (hw _ (List.mem_of_getElem? (i := 19) rfl))) (mvT hZ (hw _ (List.mem_of_getElem? (i := 18) rfl))) (by decide) (backOf (W := 0) (rmEm l Z a0 hw [] b_1 n2__55 h_55 n0 z_55q p_55_2) hZ (hw _ (List.mem_of_getElem? (i := 20) rfl)) (hw _ (List.mem_of_getElem? (i := 2) rfl)) (by decide) (by decide)) q_58a q_58c (g := (mkF m 98 #[.val (.int nx), .val (.int fx), .val (.long k1), .second, .val (.long v1), .second, .val (.long k2), .second, .val (.long v2), .second, .val (.ref b_1), .val (.int (1 : Int32)), .val (.long k1), .second, .val (.long k1), .second, .val (.int (3 : Int32)), .unset] [(.ref b_1)])) rfl (by rw [hml]; rfl) (Steps.refl _) (argsL := []) (rest := []) (lenOf pd_6 rfl) rfl (by show 2 * 0 + _ ≤ _; exact Nat.le_of_eq rfl) (hb hby at_98) (fun _ _ => ⟨rfl, e_55, (by decide : 2 + 0 ≤ _), (by decide : 20 + 0 ≤ _)⟩)
        dsimp only [Pt.U, Pt.locs, Pt.cells, Pt.slots] at X_58 l_58 y_58 z_58 st_58 hQ_58
        subst l_58 y_58 z_58
        obtain ⟨h_58, e_58⟩ : ∃ hh, T_58.heap = hh := ⟨_, rfl⟩
        rw [e_58] at hQ_58
        obtain ⟨rfl, N_58q, sm_58⟩ := hQ_58
        have N_58 := Fr.app N_55 N_58q
        refine Go.st (fun _ kk => st_58.trans kk) ?_
        rw [sm_58] at e_58
        show Go p e below s _ _ _ T_58 (mkF m 101 #[.val (.int nx), .val (.int fx), .val (.long k1), .second, .val (.long v1), .second, .val (.long k2), .second, .val (.long v2), .second, .val (.ref b_1), .val (.int (1 : Int32)), .val (.long k1), .second, .val (.long k1), .second, .val (.int (3 : Int32)), .unset] [(.int (b2i (n2__55 = (0 : Int32))))])
        rw [show (b2i (n2__55 = (0 : Int32))) = (0 : Int32) from b2i_neg hk_57]
        show Go p e below s _ _ _ T_58 (mkF m 101 #[.val (.int nx), .val (.int fx), .val (.long k1), .second, .val (.long v1), .second, .val (.long k2), .second, .val (.long v2), .second, .val (.ref b_1), .val (.int (1 : Int32)), .val (.long k1), .second, .val (.long k1), .second, .val (.int (3 : Int32)), .unset] [(.int (0 : Int32))])
        refine Go.st (fun _ => XS.istore X_58.here hx rfl (hb hby at_101) rfl (l' := #[.val (.int nx), .val (.int fx), .val (.long k1), .second, .val (.long v1), .second, .val (.long k2), .second, .val (.long v2), .second, .val (.ref b_1), .val (.int (1 : Int32)), .val (.long k1), .second, .val (.long k1), .second, .val (.int (3 : Int32)), .val (.int (0 : Int32))]) rfl) ?_
        show Go p e below s _ _ _ T_58 (mkF m 103 #[.val (.int nx), .val (.int fx), .val (.long k1), .second, .val (.long v1), .second, .val (.long k2), .second, .val (.long v2), .second, .val (.ref b_1), .val (.int (1 : Int32)), .val (.long k1), .second, .val (.long k1), .second, .val (.int (3 : Int32)), .val (.int (0 : Int32))] [])
        refine Go.st (fun _ => XS.iload X_58.here hx rfl (hb hby at_103) rfl) ?_
        show Go p e below s _ _ _ T_58 (mkF m 105 #[.val (.int nx), .val (.int fx), .val (.long k1), .second, .val (.long v1), .second, .val (.long k2), .second, .val (.long v2), .second, .val (.ref b_1), .val (.int (1 : Int32)), .val (.long k1), .second, .val (.long k1), .second, .val (.int (3 : Int32)), .val (.int (0 : Int32))] [(.int (1 : Int32))])
        refine Go.st (fun _ => XS.ifNo X_58.here hx rfl (hb hby at_105) rfl ((if0 _ _).trans (feq (by decide : ¬ ((1 : Int32) = (0 : Int32)))).1)) ?_
        show Go p e below s _ _ _ T_58 (mkF m 108 #[.val (.int nx), .val (.int fx), .val (.long k1), .second, .val (.long v1), .second, .val (.long k2), .second, .val (.long v2), .second, .val (.ref b_1), .val (.int (1 : Int32)), .val (.long k1), .second, .val (.long k1), .second, .val (.int (3 : Int32)), .val (.int (0 : Int32))] [])
        refine Go.st (fun _ => XS.iload X_58.here hx rfl (hb hby at_108) rfl) ?_
        show Go p e below s _ _ _ T_58 (mkF m 110 #[.val (.int nx), .val (.int fx), .val (.long k1), .second, .val (.long v1), .second, .val (.long k2), .second, .val (.long v2), .second, .val (.ref b_1), .val (.int (1 : Int32)), .val (.long k1), .second, .val (.long k1), .second, .val (.int (3 : Int32)), .val (.int (0 : Int32))] [(.int (0 : Int32))])
        refine Go.st (fun _ => XS.iload X_58.here hx rfl (hb hby at_110) rfl) ?_
        show Go p e below s _ _ _ T_58 (mkF m 112 #[.val (.int nx), .val (.int fx), .val (.long k1), .second, .val (.long v1), .second, .val (.long k2), .second, .val (.long v2), .second, .val (.ref b_1), .val (.int (1 : Int32)), .val (.long k1), .second, .val (.long k1), .second, .val (.int (3 : Int32)), .val (.int (0 : Int32))] [(.int (3 : Int32)), (.int (0 : Int32))])
        refine Go.st (fun _ => XS.ifYes X_58.here hx rfl (pc0 := 112) (pc' := 119) rfl (hb hby at_112) rfl ((if0 _ _).trans (feq (by decide : ¬ ((3 : Int32) = (0 : Int32)))).2) (by decide) (by decide)) ?_
        show Go p e below s _ _ _ T_58 (mkF m 119 #[.val (.int nx), .val (.int fx), .val (.long k1), .second, .val (.long v1), .second, .val (.long k2), .second, .val (.long v2), .second, .val (.ref b_1), .val (.int (1 : Int32)), .val (.long k1), .second, .val (.long k1), .second, .val (.int (3 : Int32)), .val (.int (0 : Int32))] [(.int (0 : Int32))])
        refine Go.st (fun _ => XS.iconst X_58.here hx rfl (hb hby at_119)) ?_
        show Go p e below s _ _ _ T_58 (mkF m 120 #[.val (.int nx), .val (.int fx), .val (.long k1), .second, .val (.long v1), .second, .val (.long k2), .second, .val (.long v2), .second, .val (.ref b_1), .val (.int (1 : Int32)), .val (.long k1), .second, .val (.long k1), .second, .val (.int (3 : Int32)), .val (.int (0 : Int32))] [(.int (0 : Int32)), (.int (0 : Int32))])
        refine Go.st (fun _ => XS.icmpNo X_58.here hx rfl (hb hby at_120) rfl (teq (by decide : (0 : Int32) = (0 : Int32))).2) ?_
        show Go p e below s _ _ _ T_58 (mkF m 123 #[.val (.int nx), .val (.int fx), .val (.long k1), .second, .val (.long v1), .second, .val (.long k2), .second, .val (.long v2), .second, .val (.ref b_1), .val (.int (1 : Int32)), .val (.long k1), .second, .val (.long k1), .second, .val (.int (3 : Int32)), .val (.int (0 : Int32))] [])
        refine Go.st (fun _ => XS.iload X_58.here hx rfl (hb hby at_123) rfl) ?_
        show Go p e below s _ _ _ T_58 (mkF m 125 #[.val (.int nx), .val (.int fx), .val (.long k1), .second, .val (.long v1), .second, .val (.long k2), .second, .val (.long v2), .second, .val (.ref b_1), .val (.int (1 : Int32)), .val (.long k1), .second, .val (.long k1), .second, .val (.int (3 : Int32)), .val (.int (0 : Int32))] [(.int (0 : Int32))])
        refine Go.st (fun _ => XS.aload X_58.here hx rfl (hb hby at_125) rfl rfl) ?_
        show Go p e below s _ _ _ T_58 (mkF m 127 #[.val (.int nx), .val (.int fx), .val (.long k1), .second, .val (.long v1), .second, .val (.long k2), .second, .val (.long v2), .second, .val (.ref b_1), .val (.int (1 : Int32)), .val (.long k1), .second, .val (.long k1), .second, .val (.int (3 : Int32)), .val (.int (0 : Int32))] [(.ref b_1), (.int (0 : Int32))])
        obtain ⟨cq_59, kq_59, q_59a, q_59b, q_59c⟩ := isOf hZ e_58 p_55_0
        obtain ⟨_, _, ⟨T_59, L_59, kc_59, nc_59⟩, -, X_59, ⟨Lc_59, hQ_59, l_59, y_59, z_59⟩, st_59⟩ := X_58.virtualBack hx (y := (⟨"kasane/util/LongLongMap", "size", "()I"⟩ : MethodName)) (z := (⟨"kasane/util/LongLongMap", "size", "()I"⟩ : MethodName)) hown (mvT hZ (hw _ (List.mem_of_getElem? (i := 24) rfl))) (mvT hZ (hw _ (List.mem_of_getElem? (i := 25) rfl))) (notFace_of_selects (args := #[]) (mvT hZ (hw _ (List.mem_of_getElem? (i := 27) rfl)))) (mvT hZ (hw _ (List.mem_of_getElem? (i := 27) rfl))) (mvT hZ (hw _ (List.mem_of_getElem? (i := 26) rfl))) (by decide) (backOf (W := 1) (rmSz l Z a0 hw [] b_1 n2__55 h_55 n0 z_55q p_55_2) hZ (hw _ (List.mem_of_getElem? (i := 28) rfl)) (hw _ (List.mem_of_getElem? (i := 2) rfl)) (by decide) (by decide)) q_59a q_59c (g := (mkF m 127 #[.val (.int nx), .val (.int fx), .val (.long k1), .second, .val (.long v1), .second, .val (.long k2), .second, .val (.long v2), .second, .val (.ref b_1), .val (.int (1 : Int32)), .val (.long k1), .second, .val (.long k1), .second, .val (.int (3 : Int32)), .val (.int (0 : Int32))] [(.ref b_1), (.int (0 : Int32))])) rfl (by rw [hml]; rfl) (Steps.refl _) (argsL := []) (rest := [(.int (0 : Int32))]) (lenOf pd_2 rfl) rfl (by show 2 * 0 + _ ≤ _; exact Nat.le_of_eq rfl) (hb hby at_127) (fun _ _ => ⟨rfl, e_58, (by decide : 2 + 0 ≤ _), (by decide : 20 + 0 ≤ _)⟩)
        dsimp only [Pt.U, Pt.locs, Pt.cells, Pt.slots] at X_59 l_59 y_59 z_59 st_59 hQ_59
        subst l_59 y_59 z_59
        obtain ⟨h_59, e_59⟩ : ∃ hh, T_59.heap = hh := ⟨_, rfl⟩
        rw [e_59] at hQ_59
        obtain ⟨rfl, N_59q, sm_59⟩ := hQ_59
        have N_59 := Fr.app N_58 N_59q
        refine Go.st (fun _ kk => st_59.trans kk) ?_
        rw [sm_59] at e_59
        show Go p e below s _ _ _ T_59 (mkF m 130 #[.val (.int nx), .val (.int fx), .val (.long k1), .second, .val (.long v1), .second, .val (.long k2), .second, .val (.long v2), .second, .val (.ref b_1), .val (.int (1 : Int32)), .val (.long k1), .second, .val (.long k1), .second, .val (.int (3 : Int32)), .val (.int (0 : Int32))] [(.int n2__55), (.int (0 : Int32))])
        refine Go.st (fun _ => XS.ifYes X_59.here hx rfl (pc0 := 130) (pc' := 137) rfl (hb hby at_130) rfl ((if0 _ _).trans (feq hk_57).2) (by decide) (by decide)) ?_
        show Go p e below s _ _ _ T_59 (mkF m 137 #[.val (.int nx), .val (.int fx), .val (.long k1), .second, .val (.long v1), .second, .val (.long k2), .second, .val (.long v2), .second, .val (.ref b_1), .val (.int (1 : Int32)), .val (.long k1), .second, .val (.long k1), .second, .val (.int (3 : Int32)), .val (.int (0 : Int32))] [(.int (0 : Int32))])
        refine Go.st (fun _ => XS.iconst X_59.here hx rfl (hb hby at_137)) ?_
        show Go p e below s _ _ _ T_59 (mkF m 138 #[.val (.int nx), .val (.int fx), .val (.long k1), .second, .val (.long v1), .second, .val (.long k2), .second, .val (.long v2), .second, .val (.ref b_1), .val (.int (1 : Int32)), .val (.long k1), .second, .val (.long k1), .second, .val (.int (3 : Int32)), .val (.int (0 : Int32))] [(.int (0 : Int32)), (.int (0 : Int32))])
        refine Go.st (fun _ => XS.icmpNo X_59.here hx rfl (hb hby at_138) rfl (teq (by decide : (0 : Int32) = (0 : Int32))).2) ?_
        show Go p e below s _ _ _ T_59 (mkF m 141 #[.val (.int nx), .val (.int fx), .val (.long k1), .second, .val (.long v1), .second, .val (.long k2), .second, .val (.long v2), .second, .val (.ref b_1), .val (.int (1 : Int32)), .val (.long k1), .second, .val (.long k1), .second, .val (.int (3 : Int32)), .val (.int (0 : Int32))] [])
        refine Go.st (fun _ => XS.iconst X_59.here hx rfl (hb hby at_141)) ?_
        show Go p e below s _ _ _ T_59 (mkF m 142 #[.val (.int nx), .val (.int fx), .val (.long k1), .second, .val (.long v1), .second, .val (.long k2), .second, .val (.long v2), .second, .val (.ref b_1), .val (.int (1 : Int32)), .val (.long k1), .second, .val (.long k1), .second, .val (.int (3 : Int32)), .val (.int (0 : Int32))] [(.int (1 : Int32))])
        refine Go.st (fun _ => XS.goto X_59.here hx rfl (pc0 := 142) (pc' := 146) rfl (hb hby at_142) (by decide) (by decide)) ?_
        show Go p e below s _ _ _ T_59 (mkF m 146 #[.val (.int nx), .val (.int fx), .val (.long k1), .second, .val (.long v1), .second, .val (.long k2), .second, .val (.long v2), .second, .val (.ref b_1), .val (.int (1 : Int32)), .val (.long k1), .second, .val (.long k1), .second, .val (.int (3 : Int32)), .val (.int (0 : Int32))] [(.int (1 : Int32))])
        exact Go.retZ X_59 hx hlk Bd.returns (hb hby at_146) rfl (by rw [e_59]; exact ⟨rfl, N_59⟩) (by decide) (by decide)
  · refine Go.st (fun _ => XS.ifNo X_3.here hx rfl (hb hby at_19) rfl ((if0 _ _).trans (feq hc_4).1)) ?_
    show Go p e below s _ _ _ T_3 (mkF m 22 #[.val (.int nx), .val (.int fx), .val (.long k1), .second, .val (.long v1), .second, .val (.long k2), .second, .val (.long v2), .second, .val (.ref b_1), .val (.int (1 : Int32)), .unset, .unset, .unset, .unset, .unset, .unset] [])
    refine Go.st (fun tG => X_3.ldc2Long hx hown (mvT hZ (hw _ (List.mem_of_getElem? (i := 23) rfl))) (g := (mkF m 22 #[.val (.int nx), .val (.int fx), .val (.long k1), .second, .val (.long v1), .second, .val (.long k2), .second, .val (.long v2), .second, .val (.ref b_1), .val (.int (1 : Int32)), .unset, .unset, .unset, .unset, .unset, .unset] [])) rfl (hb hby at_22) tG) ?_
    show Go p e below s _ _ _ T_3 (mkF m 25 #[.val (.int nx), .val (.int fx), .val (.long k1), .second, .val (.long v1), .second, .val (.long k2), .second, .val (.long v2), .second, .val (.ref b_1), .val (.int (1 : Int32)), .unset, .unset, .unset, .unset, .unset, .unset] [(.long (-9223372036854775808 : Int64))])
    refine Go.st (fun _ => XS.goto X_3.here hx rfl (pc0 := 25) (pc' := 29) rfl (hb hby at_25) (by decide) (by decide)) ?_
    show Go p e below s _ _ _ T_3 (mkF m 29 #[.val (.int nx), .val (.int fx), .val (.long k1), .second, .val (.long v1), .second, .val (.long k2), .second, .val (.long v2), .second, .val (.ref b_1), .val (.int (1 : Int32)), .unset, .unset, .unset, .unset, .unset, .unset] [(.long (-9223372036854775808 : Int64))])
    refine Go.st (fun _ => XS.lstore X_3.here hx rfl (hb hby at_29) rfl (l' := #[.val (.int nx), .val (.int fx), .val (.long k1), .second, .val (.long v1), .second, .val (.long k2), .second, .val (.long v2), .second, .val (.ref b_1), .val (.int (1 : Int32)), .val (.long (-9223372036854775808 : Int64)), .second, .unset, .unset, .unset, .unset]) rfl) ?_
    show Go p e below s _ _ _ T_3 (mkF m 31 #[.val (.int nx), .val (.int fx), .val (.long k1), .second, .val (.long v1), .second, .val (.long k2), .second, .val (.long v2), .second, .val (.ref b_1), .val (.int (1 : Int32)), .val (.long (-9223372036854775808 : Int64)), .second, .unset, .unset, .unset, .unset] [])
    refine Go.st (fun _ => XS.iloadN X_3.here hx rfl (hb hby at_31) rfl) ?_
    show Go p e below s _ _ _ T_3 (mkF m 32 #[.val (.int nx), .val (.int fx), .val (.long k1), .second, .val (.long v1), .second, .val (.long k2), .second, .val (.long v2), .second, .val (.ref b_1), .val (.int (1 : Int32)), .val (.long (-9223372036854775808 : Int64)), .second, .unset, .unset, .unset, .unset] [(.int fx)])
    refine Go.st (fun _ => XS.iconst X_3.here hx rfl (hb hby at_32)) ?_
    show Go p e below s _ _ _ T_3 (mkF m 33 #[.val (.int nx), .val (.int fx), .val (.long k1), .second, .val (.long v1), .second, .val (.long k2), .second, .val (.long v2), .second, .val (.ref b_1), .val (.int (1 : Int32)), .val (.long (-9223372036854775808 : Int64)), .second, .unset, .unset, .unset, .unset] [(.int (2 : Int32)), (.int fx)])
    refine Go.st (fun _ => XS.iand X_3.here hx rfl (hb hby at_33) rfl) ?_
    show Go p e below s _ _ _ T_3 (mkF m 34 #[.val (.int nx), .val (.int fx), .val (.long k1), .second, .val (.long v1), .second, .val (.long k2), .second, .val (.long v2), .second, .val (.ref b_1), .val (.int (1 : Int32)), .val (.long (-9223372036854775808 : Int64)), .second, .unset, .unset, .unset, .unset] [(.int (fx &&& (2 : Int32)))])
    by_cases hc_60 : (fx &&& (2 : Int32)) = (0 : Int32)
    · refine Go.st (fun _ => XS.ifYes X_3.here hx rfl (pc0 := 34) (pc' := 42) rfl (hb hby at_34) rfl ((if0 _ _).trans (teq hc_60).1) (by decide) (by decide)) ?_
      show Go p e below s _ _ _ T_3 (mkF m 42 #[.val (.int nx), .val (.int fx), .val (.long k1), .second, .val (.long v1), .second, .val (.long k2), .second, .val (.long v2), .second, .val (.ref b_1), .val (.int (1 : Int32)), .val (.long (-9223372036854775808 : Int64)), .second, .unset, .unset, .unset, .unset] [])
      refine Go.st (fun _ => XS.lload X_3.here hx rfl (hb hby at_42) rfl) ?_
      show Go p e below s _ _ _ T_3 (mkF m 44 #[.val (.int nx), .val (.int fx), .val (.long k1), .second, .val (.long v1), .second, .val (.long k2), .second, .val (.long v2), .second, .val (.ref b_1), .val (.int (1 : Int32)), .val (.long (-9223372036854775808 : Int64)), .second, .unset, .unset, .unset, .unset] [(.long k2)])
      refine Go.st (fun _ => XS.lstore X_3.here hx rfl (hb hby at_44) rfl (l' := #[.val (.int nx), .val (.int fx), .val (.long k1), .second, .val (.long v1), .second, .val (.long k2), .second, .val (.long v2), .second, .val (.ref b_1), .val (.int (1 : Int32)), .val (.long (-9223372036854775808 : Int64)), .second, .val (.long k2), .second, .unset, .unset]) rfl) ?_
      show Go p e below s _ _ _ T_3 (mkF m 46 #[.val (.int nx), .val (.int fx), .val (.long k1), .second, .val (.long v1), .second, .val (.long k2), .second, .val (.long v2), .second, .val (.ref b_1), .val (.int (1 : Int32)), .val (.long (-9223372036854775808 : Int64)), .second, .val (.long k2), .second, .unset, .unset] [])
      refine Go.st (fun _ => XS.iloadN X_3.here hx rfl (hb hby at_46) rfl) ?_
      show Go p e below s _ _ _ T_3 (mkF m 47 #[.val (.int nx), .val (.int fx), .val (.long k1), .second, .val (.long v1), .second, .val (.long k2), .second, .val (.long v2), .second, .val (.ref b_1), .val (.int (1 : Int32)), .val (.long (-9223372036854775808 : Int64)), .second, .val (.long k2), .second, .unset, .unset] [(.int nx)])
      refine Go.st (fun _ => XS.iconst X_3.here hx rfl (hb hby at_47)) ?_
      show Go p e below s _ _ _ T_3 (mkF m 48 #[.val (.int nx), .val (.int fx), .val (.long k1), .second, .val (.long v1), .second, .val (.long k2), .second, .val (.long v2), .second, .val (.ref b_1), .val (.int (1 : Int32)), .val (.long (-9223372036854775808 : Int64)), .second, .val (.long k2), .second, .unset, .unset] [(.int (3 : Int32)), (.int nx)])
      refine Go.st (fun _ => XS.iand X_3.here hx rfl (hb hby at_48) rfl) ?_
      show Go p e below s _ _ _ T_3 (mkF m 49 #[.val (.int nx), .val (.int fx), .val (.long k1), .second, .val (.long v1), .second, .val (.long k2), .second, .val (.long v2), .second, .val (.ref b_1), .val (.int (1 : Int32)), .val (.long (-9223372036854775808 : Int64)), .second, .val (.long k2), .second, .unset, .unset] [(.int (nx &&& (3 : Int32)))])
      rcases own_and3 nx with hd_61 | hd_61 | hd_61 | hd_61
      · rw [show (nx &&& (3 : Int32)) = (0 : Int32) from hd_61]
        show Go p e below s _ _ _ T_3 (mkF m 49 #[.val (.int nx), .val (.int fx), .val (.long k1), .second, .val (.long v1), .second, .val (.long k2), .second, .val (.long v2), .second, .val (.ref b_1), .val (.int (1 : Int32)), .val (.long (-9223372036854775808 : Int64)), .second, .val (.long k2), .second, .unset, .unset] [(.int (0 : Int32))])
        refine Go.st (fun _ => XS.istore X_3.here hx rfl (hb hby at_49) rfl (l' := #[.val (.int nx), .val (.int fx), .val (.long k1), .second, .val (.long v1), .second, .val (.long k2), .second, .val (.long v2), .second, .val (.ref b_1), .val (.int (1 : Int32)), .val (.long (-9223372036854775808 : Int64)), .second, .val (.long k2), .second, .val (.int (0 : Int32)), .unset]) rfl) ?_
        show Go p e below s _ _ _ T_3 (mkF m 51 #[.val (.int nx), .val (.int fx), .val (.long k1), .second, .val (.long v1), .second, .val (.long k2), .second, .val (.long v2), .second, .val (.ref b_1), .val (.int (1 : Int32)), .val (.long (-9223372036854775808 : Int64)), .second, .val (.long k2), .second, .val (.int (0 : Int32)), .unset] [])
        refine Go.st (fun _ => XS.iload X_3.here hx rfl (hb hby at_51) rfl) ?_
        show Go p e below s _ _ _ T_3 (mkF m 53 #[.val (.int nx), .val (.int fx), .val (.long k1), .second, .val (.long v1), .second, .val (.long k2), .second, .val (.long v2), .second, .val (.ref b_1), .val (.int (1 : Int32)), .val (.long (-9223372036854775808 : Int64)), .second, .val (.long k2), .second, .val (.int (0 : Int32)), .unset] [(.int (0 : Int32))])
        refine Go.st (fun _ => XS.iconst X_3.here hx rfl (hb hby at_53)) ?_
        show Go p e below s _ _ _ T_3 (mkF m 54 #[.val (.int nx), .val (.int fx), .val (.long k1), .second, .val (.long v1), .second, .val (.long k2), .second, .val (.long v2), .second, .val (.ref b_1), .val (.int (1 : Int32)), .val (.long (-9223372036854775808 : Int64)), .second, .val (.long k2), .second, .val (.int (0 : Int32)), .unset] [(.int (1 : Int32)), (.int (0 : Int32))])
        refine Go.st (fun _ => XS.icmpYes X_3.here hx rfl (pc0 := 54) (pc' := 66) rfl (hb hby at_54) rfl (tlt (by decide : (0 : Int32) < (1 : Int32))).1 (by decide) (by decide)) ?_
        show Go p e below s _ _ _ T_3 (mkF m 66 #[.val (.int nx), .val (.int fx), .val (.long k1), .second, .val (.long v1), .second, .val (.long k2), .second, .val (.long v2), .second, .val (.ref b_1), .val (.int (1 : Int32)), .val (.long (-9223372036854775808 : Int64)), .second, .val (.long k2), .second, .val (.int (0 : Int32)), .unset] [])
        refine Go.st (fun _ => XS.iload X_3.here hx rfl (hb hby at_66) rfl) ?_
        show Go p e below s _ _ _ T_3 (mkF m 68 #[.val (.int nx), .val (.int fx), .val (.long k1), .second, .val (.long v1), .second, .val (.long k2), .second, .val (.long v2), .second, .val (.ref b_1), .val (.int (1 : Int32)), .val (.long (-9223372036854775808 : Int64)), .second, .val (.long k2), .second, .val (.int (0 : Int32)), .unset] [(.int (0 : Int32))])
        refine Go.st (fun _ => XS.iconst X_3.here hx rfl (hb hby at_68)) ?_
        show Go p e below s _ _ _ T_3 (mkF m 69 #[.val (.int nx), .val (.int fx), .val (.long k1), .second, .val (.long v1), .second, .val (.long k2), .second, .val (.long v2), .second, .val (.ref b_1), .val (.int (1 : Int32)), .val (.long (-9223372036854775808 : Int64)), .second, .val (.long k2), .second, .val (.int (0 : Int32)), .unset] [(.int (2 : Int32)), (.int (0 : Int32))])
        refine Go.st (fun _ => XS.icmpYes X_3.here hx rfl (pc0 := 69) (pc' := 81) rfl (hb hby at_69) rfl (tlt (by decide : (0 : Int32) < (2 : Int32))).1 (by decide) (by decide)) ?_
        show Go p e below s _ _ _ T_3 (mkF m 81 #[.val (.int nx), .val (.int fx), .val (.long k1), .second, .val (.long v1), .second, .val (.long k2), .second, .val (.long v2), .second, .val (.ref b_1), .val (.int (1 : Int32)), .val (.long (-9223372036854775808 : Int64)), .second, .val (.long k2), .second, .val (.int (0 : Int32)), .unset] [])
        refine Go.st (fun _ => XS.iload X_3.here hx rfl (hb hby at_81) rfl) ?_
        show Go p e below s _ _ _ T_3 (mkF m 83 #[.val (.int nx), .val (.int fx), .val (.long k1), .second, .val (.long v1), .second, .val (.long k2), .second, .val (.long v2), .second, .val (.ref b_1), .val (.int (1 : Int32)), .val (.long (-9223372036854775808 : Int64)), .second, .val (.long k2), .second, .val (.int (0 : Int32)), .unset] [(.int (0 : Int32))])
        refine Go.st (fun _ => XS.iconst X_3.here hx rfl (hb hby at_83)) ?_
        show Go p e below s _ _ _ T_3 (mkF m 84 #[.val (.int nx), .val (.int fx), .val (.long k1), .second, .val (.long v1), .second, .val (.long k2), .second, .val (.long v2), .second, .val (.ref b_1), .val (.int (1 : Int32)), .val (.long (-9223372036854775808 : Int64)), .second, .val (.long k2), .second, .val (.int (0 : Int32)), .unset] [(.int (3 : Int32)), (.int (0 : Int32))])
        refine Go.st (fun _ => XS.icmpYes X_3.here hx rfl (pc0 := 84) (pc' := 96) rfl (hb hby at_84) rfl (tlt (by decide : (0 : Int32) < (3 : Int32))).1 (by decide) (by decide)) ?_
        show Go p e below s _ _ _ T_3 (mkF m 96 #[.val (.int nx), .val (.int fx), .val (.long k1), .second, .val (.long v1), .second, .val (.long k2), .second, .val (.long v2), .second, .val (.ref b_1), .val (.int (1 : Int32)), .val (.long (-9223372036854775808 : Int64)), .second, .val (.long k2), .second, .val (.int (0 : Int32)), .unset] [])
        refine Go.st (fun _ => XS.aload X_3.here hx rfl (hb hby at_96) rfl rfl) ?_
        show Go p e below s _ _ _ T_3 (mkF m 98 #[.val (.int nx), .val (.int fx), .val (.long k1), .second, .val (.long v1), .second, .val (.long k2), .second, .val (.long v2), .second, .val (.ref b_1), .val (.int (1 : Int32)), .val (.long (-9223372036854775808 : Int64)), .second, .val (.long k2), .second, .val (.int (0 : Int32)), .unset] [(.ref b_1)])
        obtain ⟨cq_62, kq_62, q_62a, q_62b, q_62c⟩ := isOf hZ e_3 p_2_2
        obtain ⟨_, _, ⟨T_62, L_62, kc_62, nc_62⟩, -, X_62, ⟨Lc_62, hQ_62, l_62, y_62, z_62⟩, st_62⟩ := X_3.virtualBack hx (y := (⟨"kasane/util/LongLongMap", "isEmpty", "()Z"⟩ : MethodName)) (z := (⟨"kasane/util/LongLongMap", "isEmpty", "()Z"⟩ : MethodName)) hown (mvT hZ (hw _ (List.mem_of_getElem? (i := 16) rfl))) (mvT hZ (hw _ (List.mem_of_getElem? (i := 17) rfl))) (notFace_of_selects (args := #[]) (mvT hZ (hw _ (List.mem_of_getElem? (i := 19) rfl)))) (mvT hZ (hw _ (List.mem_of_getElem? (i := 19) rfl))) (mvT hZ (hw _ (List.mem_of_getElem? (i := 18) rfl))) (by decide) (backOf (W := 0) (rmEm l Z a0 hw [] b_1 (0 : Int32) h_2 n0 z_2q p_2_4) hZ (hw _ (List.mem_of_getElem? (i := 20) rfl)) (hw _ (List.mem_of_getElem? (i := 2) rfl)) (by decide) (by decide)) q_62a q_62c (g := (mkF m 98 #[.val (.int nx), .val (.int fx), .val (.long k1), .second, .val (.long v1), .second, .val (.long k2), .second, .val (.long v2), .second, .val (.ref b_1), .val (.int (1 : Int32)), .val (.long (-9223372036854775808 : Int64)), .second, .val (.long k2), .second, .val (.int (0 : Int32)), .unset] [(.ref b_1)])) rfl (by rw [hml]; rfl) (Steps.refl _) (argsL := []) (rest := []) (lenOf pd_6 rfl) rfl (by show 2 * 0 + _ ≤ _; exact Nat.le_of_eq rfl) (hb hby at_98) (fun _ _ => ⟨rfl, e_3, (by decide : 2 + 0 ≤ _), (by decide : 20 + 0 ≤ _)⟩)
        dsimp only [Pt.U, Pt.locs, Pt.cells, Pt.slots] at X_62 l_62 y_62 z_62 st_62 hQ_62
        subst l_62 y_62 z_62
        obtain ⟨h_62, e_62⟩ : ∃ hh, T_62.heap = hh := ⟨_, rfl⟩
        rw [e_62] at hQ_62
        obtain ⟨rfl, N_62q, sm_62⟩ := hQ_62
        have N_62 := Fr.app N_3 N_62q
        refine Go.st (fun _ kk => st_62.trans kk) ?_
        rw [sm_62] at e_62
        show Go p e below s _ _ _ T_62 (mkF m 101 #[.val (.int nx), .val (.int fx), .val (.long k1), .second, .val (.long v1), .second, .val (.long k2), .second, .val (.long v2), .second, .val (.ref b_1), .val (.int (1 : Int32)), .val (.long (-9223372036854775808 : Int64)), .second, .val (.long k2), .second, .val (.int (0 : Int32)), .unset] [(.int (b2i ((0 : Int32) = (0 : Int32))))])
        rw [show (b2i ((0 : Int32) = (0 : Int32))) = (1 : Int32) from b2i_pos (by decide : (0 : Int32) = (0 : Int32))]
        show Go p e below s _ _ _ T_62 (mkF m 101 #[.val (.int nx), .val (.int fx), .val (.long k1), .second, .val (.long v1), .second, .val (.long k2), .second, .val (.long v2), .second, .val (.ref b_1), .val (.int (1 : Int32)), .val (.long (-9223372036854775808 : Int64)), .second, .val (.long k2), .second, .val (.int (0 : Int32)), .unset] [(.int (1 : Int32))])
        refine Go.st (fun _ => XS.istore X_62.here hx rfl (hb hby at_101) rfl (l' := #[.val (.int nx), .val (.int fx), .val (.long k1), .second, .val (.long v1), .second, .val (.long k2), .second, .val (.long v2), .second, .val (.ref b_1), .val (.int (1 : Int32)), .val (.long (-9223372036854775808 : Int64)), .second, .val (.long k2), .second, .val (.int (0 : Int32)), .val (.int (1 : Int32))]) rfl) ?_
        show Go p e below s _ _ _ T_62 (mkF m 103 #[.val (.int nx), .val (.int fx), .val (.long k1), .second, .val (.long v1), .second, .val (.long k2), .second, .val (.long v2), .second, .val (.ref b_1), .val (.int (1 : Int32)), .val (.long (-9223372036854775808 : Int64)), .second, .val (.long k2), .second, .val (.int (0 : Int32)), .val (.int (1 : Int32))] [])
        refine Go.st (fun _ => XS.iload X_62.here hx rfl (hb hby at_103) rfl) ?_
        show Go p e below s _ _ _ T_62 (mkF m 105 #[.val (.int nx), .val (.int fx), .val (.long k1), .second, .val (.long v1), .second, .val (.long k2), .second, .val (.long v2), .second, .val (.ref b_1), .val (.int (1 : Int32)), .val (.long (-9223372036854775808 : Int64)), .second, .val (.long k2), .second, .val (.int (0 : Int32)), .val (.int (1 : Int32))] [(.int (1 : Int32))])
        refine Go.st (fun _ => XS.ifNo X_62.here hx rfl (hb hby at_105) rfl ((if0 _ _).trans (feq (by decide : ¬ ((1 : Int32) = (0 : Int32)))).1)) ?_
        show Go p e below s _ _ _ T_62 (mkF m 108 #[.val (.int nx), .val (.int fx), .val (.long k1), .second, .val (.long v1), .second, .val (.long k2), .second, .val (.long v2), .second, .val (.ref b_1), .val (.int (1 : Int32)), .val (.long (-9223372036854775808 : Int64)), .second, .val (.long k2), .second, .val (.int (0 : Int32)), .val (.int (1 : Int32))] [])
        refine Go.st (fun _ => XS.iload X_62.here hx rfl (hb hby at_108) rfl) ?_
        show Go p e below s _ _ _ T_62 (mkF m 110 #[.val (.int nx), .val (.int fx), .val (.long k1), .second, .val (.long v1), .second, .val (.long k2), .second, .val (.long v2), .second, .val (.ref b_1), .val (.int (1 : Int32)), .val (.long (-9223372036854775808 : Int64)), .second, .val (.long k2), .second, .val (.int (0 : Int32)), .val (.int (1 : Int32))] [(.int (1 : Int32))])
        refine Go.st (fun _ => XS.iload X_62.here hx rfl (hb hby at_110) rfl) ?_
        show Go p e below s _ _ _ T_62 (mkF m 112 #[.val (.int nx), .val (.int fx), .val (.long k1), .second, .val (.long v1), .second, .val (.long k2), .second, .val (.long v2), .second, .val (.ref b_1), .val (.int (1 : Int32)), .val (.long (-9223372036854775808 : Int64)), .second, .val (.long k2), .second, .val (.int (0 : Int32)), .val (.int (1 : Int32))] [(.int (0 : Int32)), (.int (1 : Int32))])
        refine Go.st (fun _ => XS.ifNo X_62.here hx rfl (hb hby at_112) rfl ((if0 _ _).trans (teq (by decide : (0 : Int32) = (0 : Int32))).2)) ?_
        show Go p e below s _ _ _ T_62 (mkF m 115 #[.val (.int nx), .val (.int fx), .val (.long k1), .second, .val (.long v1), .second, .val (.long k2), .second, .val (.long v2), .second, .val (.ref b_1), .val (.int (1 : Int32)), .val (.long (-9223372036854775808 : Int64)), .second, .val (.long k2), .second, .val (.int (0 : Int32)), .val (.int (1 : Int32))] [(.int (1 : Int32))])
        refine Go.st (fun _ => XS.iconst X_62.here hx rfl (hb hby at_115)) ?_
        show Go p e below s _ _ _ T_62 (mkF m 116 #[.val (.int nx), .val (.int fx), .val (.long k1), .second, .val (.long v1), .second, .val (.long k2), .second, .val (.long v2), .second, .val (.ref b_1), .val (.int (1 : Int32)), .val (.long (-9223372036854775808 : Int64)), .second, .val (.long k2), .second, .val (.int (0 : Int32)), .val (.int (1 : Int32))] [(.int (1 : Int32)), (.int (1 : Int32))])
        refine Go.st (fun _ => XS.goto X_62.here hx rfl (pc0 := 116) (pc' := 120) rfl (hb hby at_116) (by decide) (by decide)) ?_
        show Go p e below s _ _ _ T_62 (mkF m 120 #[.val (.int nx), .val (.int fx), .val (.long k1), .second, .val (.long v1), .second, .val (.long k2), .second, .val (.long v2), .second, .val (.ref b_1), .val (.int (1 : Int32)), .val (.long (-9223372036854775808 : Int64)), .second, .val (.long k2), .second, .val (.int (0 : Int32)), .val (.int (1 : Int32))] [(.int (1 : Int32)), (.int (1 : Int32))])
        refine Go.st (fun _ => XS.icmpNo X_62.here hx rfl (hb hby at_120) rfl (teq (by decide : (1 : Int32) = (1 : Int32))).2) ?_
        show Go p e below s _ _ _ T_62 (mkF m 123 #[.val (.int nx), .val (.int fx), .val (.long k1), .second, .val (.long v1), .second, .val (.long k2), .second, .val (.long v2), .second, .val (.ref b_1), .val (.int (1 : Int32)), .val (.long (-9223372036854775808 : Int64)), .second, .val (.long k2), .second, .val (.int (0 : Int32)), .val (.int (1 : Int32))] [])
        refine Go.st (fun _ => XS.iload X_62.here hx rfl (hb hby at_123) rfl) ?_
        show Go p e below s _ _ _ T_62 (mkF m 125 #[.val (.int nx), .val (.int fx), .val (.long k1), .second, .val (.long v1), .second, .val (.long k2), .second, .val (.long v2), .second, .val (.ref b_1), .val (.int (1 : Int32)), .val (.long (-9223372036854775808 : Int64)), .second, .val (.long k2), .second, .val (.int (0 : Int32)), .val (.int (1 : Int32))] [(.int (1 : Int32))])
        refine Go.st (fun _ => XS.aload X_62.here hx rfl (hb hby at_125) rfl rfl) ?_
        show Go p e below s _ _ _ T_62 (mkF m 127 #[.val (.int nx), .val (.int fx), .val (.long k1), .second, .val (.long v1), .second, .val (.long k2), .second, .val (.long v2), .second, .val (.ref b_1), .val (.int (1 : Int32)), .val (.long (-9223372036854775808 : Int64)), .second, .val (.long k2), .second, .val (.int (0 : Int32)), .val (.int (1 : Int32))] [(.ref b_1), (.int (1 : Int32))])
        obtain ⟨cq_63, kq_63, q_63a, q_63b, q_63c⟩ := isOf hZ e_62 p_2_2
        obtain ⟨_, _, ⟨T_63, L_63, kc_63, nc_63⟩, -, X_63, ⟨Lc_63, hQ_63, l_63, y_63, z_63⟩, st_63⟩ := X_62.virtualBack hx (y := (⟨"kasane/util/LongLongMap", "size", "()I"⟩ : MethodName)) (z := (⟨"kasane/util/LongLongMap", "size", "()I"⟩ : MethodName)) hown (mvT hZ (hw _ (List.mem_of_getElem? (i := 24) rfl))) (mvT hZ (hw _ (List.mem_of_getElem? (i := 25) rfl))) (notFace_of_selects (args := #[]) (mvT hZ (hw _ (List.mem_of_getElem? (i := 27) rfl)))) (mvT hZ (hw _ (List.mem_of_getElem? (i := 27) rfl))) (mvT hZ (hw _ (List.mem_of_getElem? (i := 26) rfl))) (by decide) (backOf (W := 1) (rmSz l Z a0 hw [] b_1 (0 : Int32) h_2 n0 z_2q p_2_4) hZ (hw _ (List.mem_of_getElem? (i := 28) rfl)) (hw _ (List.mem_of_getElem? (i := 2) rfl)) (by decide) (by decide)) q_63a q_63c (g := (mkF m 127 #[.val (.int nx), .val (.int fx), .val (.long k1), .second, .val (.long v1), .second, .val (.long k2), .second, .val (.long v2), .second, .val (.ref b_1), .val (.int (1 : Int32)), .val (.long (-9223372036854775808 : Int64)), .second, .val (.long k2), .second, .val (.int (0 : Int32)), .val (.int (1 : Int32))] [(.ref b_1), (.int (1 : Int32))])) rfl (by rw [hml]; rfl) (Steps.refl _) (argsL := []) (rest := [(.int (1 : Int32))]) (lenOf pd_2 rfl) rfl (by show 2 * 0 + _ ≤ _; exact Nat.le_of_eq rfl) (hb hby at_127) (fun _ _ => ⟨rfl, e_62, (by decide : 2 + 0 ≤ _), (by decide : 20 + 0 ≤ _)⟩)
        dsimp only [Pt.U, Pt.locs, Pt.cells, Pt.slots] at X_63 l_63 y_63 z_63 st_63 hQ_63
        subst l_63 y_63 z_63
        obtain ⟨h_63, e_63⟩ : ∃ hh, T_63.heap = hh := ⟨_, rfl⟩
        rw [e_63] at hQ_63
        obtain ⟨rfl, N_63q, sm_63⟩ := hQ_63
        have N_63 := Fr.app N_62 N_63q
        refine Go.st (fun _ kk => st_63.trans kk) ?_
        rw [sm_63] at e_63
        show Go p e below s _ _ _ T_63 (mkF m 130 #[.val (.int nx), .val (.int fx), .val (.long k1), .second, .val (.long v1), .second, .val (.long k2), .second, .val (.long v2), .second, .val (.ref b_1), .val (.int (1 : Int32)), .val (.long (-9223372036854775808 : Int64)), .second, .val (.long k2), .second, .val (.int (0 : Int32)), .val (.int (1 : Int32))] [(.int (0 : Int32)), (.int (1 : Int32))])
        refine Go.st (fun _ => XS.ifNo X_63.here hx rfl (hb hby at_130) rfl ((if0 _ _).trans (teq (by decide : (0 : Int32) = (0 : Int32))).2)) ?_
        show Go p e below s _ _ _ T_63 (mkF m 133 #[.val (.int nx), .val (.int fx), .val (.long k1), .second, .val (.long v1), .second, .val (.long k2), .second, .val (.long v2), .second, .val (.ref b_1), .val (.int (1 : Int32)), .val (.long (-9223372036854775808 : Int64)), .second, .val (.long k2), .second, .val (.int (0 : Int32)), .val (.int (1 : Int32))] [(.int (1 : Int32))])
        refine Go.st (fun _ => XS.iconst X_63.here hx rfl (hb hby at_133)) ?_
        show Go p e below s _ _ _ T_63 (mkF m 134 #[.val (.int nx), .val (.int fx), .val (.long k1), .second, .val (.long v1), .second, .val (.long k2), .second, .val (.long v2), .second, .val (.ref b_1), .val (.int (1 : Int32)), .val (.long (-9223372036854775808 : Int64)), .second, .val (.long k2), .second, .val (.int (0 : Int32)), .val (.int (1 : Int32))] [(.int (1 : Int32)), (.int (1 : Int32))])
        refine Go.st (fun _ => XS.goto X_63.here hx rfl (pc0 := 134) (pc' := 138) rfl (hb hby at_134) (by decide) (by decide)) ?_
        show Go p e below s _ _ _ T_63 (mkF m 138 #[.val (.int nx), .val (.int fx), .val (.long k1), .second, .val (.long v1), .second, .val (.long k2), .second, .val (.long v2), .second, .val (.ref b_1), .val (.int (1 : Int32)), .val (.long (-9223372036854775808 : Int64)), .second, .val (.long k2), .second, .val (.int (0 : Int32)), .val (.int (1 : Int32))] [(.int (1 : Int32)), (.int (1 : Int32))])
        refine Go.st (fun _ => XS.icmpNo X_63.here hx rfl (hb hby at_138) rfl (teq (by decide : (1 : Int32) = (1 : Int32))).2) ?_
        show Go p e below s _ _ _ T_63 (mkF m 141 #[.val (.int nx), .val (.int fx), .val (.long k1), .second, .val (.long v1), .second, .val (.long k2), .second, .val (.long v2), .second, .val (.ref b_1), .val (.int (1 : Int32)), .val (.long (-9223372036854775808 : Int64)), .second, .val (.long k2), .second, .val (.int (0 : Int32)), .val (.int (1 : Int32))] [])
        refine Go.st (fun _ => XS.iconst X_63.here hx rfl (hb hby at_141)) ?_
        show Go p e below s _ _ _ T_63 (mkF m 142 #[.val (.int nx), .val (.int fx), .val (.long k1), .second, .val (.long v1), .second, .val (.long k2), .second, .val (.long v2), .second, .val (.ref b_1), .val (.int (1 : Int32)), .val (.long (-9223372036854775808 : Int64)), .second, .val (.long k2), .second, .val (.int (0 : Int32)), .val (.int (1 : Int32))] [(.int (1 : Int32))])
        refine Go.st (fun _ => XS.goto X_63.here hx rfl (pc0 := 142) (pc' := 146) rfl (hb hby at_142) (by decide) (by decide)) ?_
        show Go p e below s _ _ _ T_63 (mkF m 146 #[.val (.int nx), .val (.int fx), .val (.long k1), .second, .val (.long v1), .second, .val (.long k2), .second, .val (.long v2), .second, .val (.ref b_1), .val (.int (1 : Int32)), .val (.long (-9223372036854775808 : Int64)), .second, .val (.long k2), .second, .val (.int (0 : Int32)), .val (.int (1 : Int32))] [(.int (1 : Int32))])
        exact Go.retZ X_63 hx hlk Bd.returns (hb hby at_146) rfl (by rw [e_63]; exact ⟨rfl, N_63⟩) (by decide) (by decide)
      · rw [show (nx &&& (3 : Int32)) = (1 : Int32) from hd_61]
        show Go p e below s _ _ _ T_3 (mkF m 49 #[.val (.int nx), .val (.int fx), .val (.long k1), .second, .val (.long v1), .second, .val (.long k2), .second, .val (.long v2), .second, .val (.ref b_1), .val (.int (1 : Int32)), .val (.long (-9223372036854775808 : Int64)), .second, .val (.long k2), .second, .unset, .unset] [(.int (1 : Int32))])
        refine Go.st (fun _ => XS.istore X_3.here hx rfl (hb hby at_49) rfl (l' := #[.val (.int nx), .val (.int fx), .val (.long k1), .second, .val (.long v1), .second, .val (.long k2), .second, .val (.long v2), .second, .val (.ref b_1), .val (.int (1 : Int32)), .val (.long (-9223372036854775808 : Int64)), .second, .val (.long k2), .second, .val (.int (1 : Int32)), .unset]) rfl) ?_
        show Go p e below s _ _ _ T_3 (mkF m 51 #[.val (.int nx), .val (.int fx), .val (.long k1), .second, .val (.long v1), .second, .val (.long k2), .second, .val (.long v2), .second, .val (.ref b_1), .val (.int (1 : Int32)), .val (.long (-9223372036854775808 : Int64)), .second, .val (.long k2), .second, .val (.int (1 : Int32)), .unset] [])
        refine Go.st (fun _ => XS.iload X_3.here hx rfl (hb hby at_51) rfl) ?_
        show Go p e below s _ _ _ T_3 (mkF m 53 #[.val (.int nx), .val (.int fx), .val (.long k1), .second, .val (.long v1), .second, .val (.long k2), .second, .val (.long v2), .second, .val (.ref b_1), .val (.int (1 : Int32)), .val (.long (-9223372036854775808 : Int64)), .second, .val (.long k2), .second, .val (.int (1 : Int32)), .unset] [(.int (1 : Int32))])
        refine Go.st (fun _ => XS.iconst X_3.here hx rfl (hb hby at_53)) ?_
        show Go p e below s _ _ _ T_3 (mkF m 54 #[.val (.int nx), .val (.int fx), .val (.long k1), .second, .val (.long v1), .second, .val (.long k2), .second, .val (.long v2), .second, .val (.ref b_1), .val (.int (1 : Int32)), .val (.long (-9223372036854775808 : Int64)), .second, .val (.long k2), .second, .val (.int (1 : Int32)), .unset] [(.int (1 : Int32)), (.int (1 : Int32))])
        refine Go.st (fun _ => XS.icmpNo X_3.here hx rfl (hb hby at_54) rfl (flt (by decide : ¬ ((1 : Int32) < (1 : Int32)))).1) ?_
        show Go p e below s _ _ _ T_3 (mkF m 57 #[.val (.int nx), .val (.int fx), .val (.long k1), .second, .val (.long v1), .second, .val (.long k2), .second, .val (.long v2), .second, .val (.ref b_1), .val (.int (1 : Int32)), .val (.long (-9223372036854775808 : Int64)), .second, .val (.long k2), .second, .val (.int (1 : Int32)), .unset] [])
        refine Go.st (fun _ => XS.aload X_3.here hx rfl (hb hby at_57) rfl rfl) ?_
        show Go p e below s _ _ _ T_3 (mkF m 59 #[.val (.int nx), .val (.int fx), .val (.long k1), .second, .val (.long v1), .second, .val (.long k2), .second, .val (.long v2), .second, .val (.ref b_1), .val (.int (1 : Int32)), .val (.long (-9223372036854775808 : Int64)), .second, .val (.long k2), .second, .val (.int (1 : Int32)), .unset] [(.ref b_1)])
        refine Go.st (fun _ => XS.lload X_3.here hx rfl (hb hby at_59) rfl) ?_
        show Go p e below s _ _ _ T_3 (mkF m 61 #[.val (.int nx), .val (.int fx), .val (.long k1), .second, .val (.long v1), .second, .val (.long k2), .second, .val (.long v2), .second, .val (.ref b_1), .val (.int (1 : Int32)), .val (.long (-9223372036854775808 : Int64)), .second, .val (.long k2), .second, .val (.int (1 : Int32)), .unset] [(.long (-9223372036854775808 : Int64)), (.ref b_1)])
        refine Go.st (fun _ => XS.lload X_3.here hx rfl (hb hby at_61) rfl) ?_
        show Go p e below s _ _ _ T_3 (mkF m 63 #[.val (.int nx), .val (.int fx), .val (.long k1), .second, .val (.long v1), .second, .val (.long k2), .second, .val (.long v2), .second, .val (.ref b_1), .val (.int (1 : Int32)), .val (.long (-9223372036854775808 : Int64)), .second, .val (.long k2), .second, .val (.int (1 : Int32)), .unset] [(.long v1), (.long (-9223372036854775808 : Int64)), (.ref b_1)])
        obtain ⟨cq_64, kq_64, q_64a, q_64b, q_64c⟩ := isOf hZ e_3 p_2_2
        obtain ⟨_, _, ⟨T_64, L_64, kc_64, nc_64⟩, -, X_64, ⟨Lc_64, hQ_64, l_64, y_64, z_64⟩, st_64⟩ := X_3.virtualBack hx (y := (⟨"kasane/util/LongLongMap", "put", "(JJ)V"⟩ : MethodName)) (z := (⟨"kasane/util/LongLongMap", "put", "(JJ)V"⟩ : MethodName)) hown (mvT hZ (hw _ (List.mem_of_getElem? (i := 29) rfl))) (mvT hZ (hw _ (List.mem_of_getElem? (i := 30) rfl))) (notFace_of_selects (args := #[]) (mvT hZ (hw _ (List.mem_of_getElem? (i := 32) rfl)))) (mvT hZ (hw _ (List.mem_of_getElem? (i := 32) rfl))) (mvT hZ (hw _ (List.mem_of_getElem? (i := 31) rfl))) (by decide) (backOf (W := 0) (rmPu l Z a0 hw [] b_1 (-9223372036854775808 : Int64) v1 t__2 kt__2 [(-9223372036854775808 : Int64), (0 : Int64), (-9223372036854775808 : Int64), (0 : Int64), (-9223372036854775808 : Int64), (0 : Int64), (-9223372036854775808 : Int64), (0 : Int64), (-9223372036854775808 : Int64), (0 : Int64), (-9223372036854775808 : Int64), (0 : Int64), (-9223372036854775808 : Int64), (0 : Int64), (-9223372036854775808 : Int64), (0 : Int64)] (0 : Int32) (0 : Int32) (0 : Int64) h_2 n0 z_2q p_2_2 p_2_3 p_2_4 p_2_5 p_2_6 vm0 gg_1 p_2_1 ne_b_1_t__2 own_inv0 (by decide)) hZ (hw _ (List.mem_of_getElem? (i := 33) rfl)) (hw _ (List.mem_of_getElem? (i := 2) rfl)) (by decide) (by decide)) q_64a q_64c (g := (mkF m 63 #[.val (.int nx), .val (.int fx), .val (.long k1), .second, .val (.long v1), .second, .val (.long k2), .second, .val (.long v2), .second, .val (.ref b_1), .val (.int (1 : Int32)), .val (.long (-9223372036854775808 : Int64)), .second, .val (.long k2), .second, .val (.int (1 : Int32)), .unset] [(.long v1), (.long (-9223372036854775808 : Int64)), (.ref b_1)])) rfl (by rw [hml]; rfl) (Steps.refl _) (argsL := [(.long (-9223372036854775808 : Int64)), (.long v1)]) (rest := []) (lenOf pd_7 rfl) rfl (by show 2 * 0 + _ ≤ _; exact Nat.le_of_eq rfl) (hb hby at_63) (fun _ _ => ⟨rfl, e_3, (by decide : 2 + 0 ≤ _), (by decide : 20 + 0 ≤ _)⟩)
        dsimp only [Pt.U, Pt.locs, Pt.cells, Pt.slots] at X_64 l_64 y_64 z_64 st_64 hQ_64
        subst l_64 y_64 z_64
        obtain ⟨h_64, e_64⟩ : ∃ hh, T_64.heap = hh := ⟨_, rfl⟩
        rw [e_64] at hQ_64
        obtain ⟨ks2__64, n2__64, f2__64, r2__64, rfl, N_64q, K_64, p_64_0, p_64_1, p_64_2, p_64_3, p_64_4, p_64_5, p_64_6, p_64_7⟩ := hQ_64
        have N_64 := Fr.app N_3 N_64q
        refine Go.st (fun _ kk => st_64.trans kk) ?_
        have z_64q : n0 ≤ h_64.size := Nat.le_trans z_2q K_64.1
        show Go p e below s _ _ _ T_64 (mkF m 66 #[.val (.int nx), .val (.int fx), .val (.long k1), .second, .val (.long v1), .second, .val (.long k2), .second, .val (.long v2), .second, .val (.ref b_1), .val (.int (1 : Int32)), .val (.long (-9223372036854775808 : Int64)), .second, .val (.long k2), .second, .val (.int (1 : Int32)), .unset] [])
        have hle_65 : 1 ≤ n2__64.toInt ∧ n2__64.toInt ≤ 1 := by have q1 := p_64_7; have q2 := (trivial : True); have q3 : (0 : Int32).toInt = 0 := (by decide); omega
        have hk_66 : ¬ (n2__64 = (0 : Int32)) := own_pos hle_65.1
        refine Go.st (fun _ => XS.iload X_64.here hx rfl (hb hby at_66) rfl) ?_
        show Go p e below s _ _ _ T_64 (mkF m 68 #[.val (.int nx), .val (.int fx), .val (.long k1), .second, .val (.long v1), .second, .val (.long k2), .second, .val (.long v2), .second, .val (.ref b_1), .val (.int (1 : Int32)), .val (.long (-9223372036854775808 : Int64)), .second, .val (.long k2), .second, .val (.int (1 : Int32)), .unset] [(.int (1 : Int32))])
        refine Go.st (fun _ => XS.iconst X_64.here hx rfl (hb hby at_68)) ?_
        show Go p e below s _ _ _ T_64 (mkF m 69 #[.val (.int nx), .val (.int fx), .val (.long k1), .second, .val (.long v1), .second, .val (.long k2), .second, .val (.long v2), .second, .val (.ref b_1), .val (.int (1 : Int32)), .val (.long (-9223372036854775808 : Int64)), .second, .val (.long k2), .second, .val (.int (1 : Int32)), .unset] [(.int (2 : Int32)), (.int (1 : Int32))])
        refine Go.st (fun _ => XS.icmpYes X_64.here hx rfl (pc0 := 69) (pc' := 81) rfl (hb hby at_69) rfl (tlt (by decide : (1 : Int32) < (2 : Int32))).1 (by decide) (by decide)) ?_
        show Go p e below s _ _ _ T_64 (mkF m 81 #[.val (.int nx), .val (.int fx), .val (.long k1), .second, .val (.long v1), .second, .val (.long k2), .second, .val (.long v2), .second, .val (.ref b_1), .val (.int (1 : Int32)), .val (.long (-9223372036854775808 : Int64)), .second, .val (.long k2), .second, .val (.int (1 : Int32)), .unset] [])
        refine Go.st (fun _ => XS.iload X_64.here hx rfl (hb hby at_81) rfl) ?_
        show Go p e below s _ _ _ T_64 (mkF m 83 #[.val (.int nx), .val (.int fx), .val (.long k1), .second, .val (.long v1), .second, .val (.long k2), .second, .val (.long v2), .second, .val (.ref b_1), .val (.int (1 : Int32)), .val (.long (-9223372036854775808 : Int64)), .second, .val (.long k2), .second, .val (.int (1 : Int32)), .unset] [(.int (1 : Int32))])
        refine Go.st (fun _ => XS.iconst X_64.here hx rfl (hb hby at_83)) ?_
        show Go p e below s _ _ _ T_64 (mkF m 84 #[.val (.int nx), .val (.int fx), .val (.long k1), .second, .val (.long v1), .second, .val (.long k2), .second, .val (.long v2), .second, .val (.ref b_1), .val (.int (1 : Int32)), .val (.long (-9223372036854775808 : Int64)), .second, .val (.long k2), .second, .val (.int (1 : Int32)), .unset] [(.int (3 : Int32)), (.int (1 : Int32))])
        refine Go.st (fun _ => XS.icmpYes X_64.here hx rfl (pc0 := 84) (pc' := 96) rfl (hb hby at_84) rfl (tlt (by decide : (1 : Int32) < (3 : Int32))).1 (by decide) (by decide)) ?_
        show Go p e below s _ _ _ T_64 (mkF m 96 #[.val (.int nx), .val (.int fx), .val (.long k1), .second, .val (.long v1), .second, .val (.long k2), .second, .val (.long v2), .second, .val (.ref b_1), .val (.int (1 : Int32)), .val (.long (-9223372036854775808 : Int64)), .second, .val (.long k2), .second, .val (.int (1 : Int32)), .unset] [])
        refine Go.st (fun _ => XS.aload X_64.here hx rfl (hb hby at_96) rfl rfl) ?_
        show Go p e below s _ _ _ T_64 (mkF m 98 #[.val (.int nx), .val (.int fx), .val (.long k1), .second, .val (.long v1), .second, .val (.long k2), .second, .val (.long v2), .second, .val (.ref b_1), .val (.int (1 : Int32)), .val (.long (-9223372036854775808 : Int64)), .second, .val (.long k2), .second, .val (.int (1 : Int32)), .unset] [(.ref b_1)])
        obtain ⟨cq_67, kq_67, q_67a, q_67b, q_67c⟩ := isOf hZ e_64 p_64_0
        obtain ⟨_, _, ⟨T_67, L_67, kc_67, nc_67⟩, -, X_67, ⟨Lc_67, hQ_67, l_67, y_67, z_67⟩, st_67⟩ := X_64.virtualBack hx (y := (⟨"kasane/util/LongLongMap", "isEmpty", "()Z"⟩ : MethodName)) (z := (⟨"kasane/util/LongLongMap", "isEmpty", "()Z"⟩ : MethodName)) hown (mvT hZ (hw _ (List.mem_of_getElem? (i := 16) rfl))) (mvT hZ (hw _ (List.mem_of_getElem? (i := 17) rfl))) (notFace_of_selects (args := #[]) (mvT hZ (hw _ (List.mem_of_getElem? (i := 19) rfl)))) (mvT hZ (hw _ (List.mem_of_getElem? (i := 19) rfl))) (mvT hZ (hw _ (List.mem_of_getElem? (i := 18) rfl))) (by decide) (backOf (W := 0) (rmEm l Z a0 hw [] b_1 n2__64 h_64 n0 z_64q p_64_2) hZ (hw _ (List.mem_of_getElem? (i := 20) rfl)) (hw _ (List.mem_of_getElem? (i := 2) rfl)) (by decide) (by decide)) q_67a q_67c (g := (mkF m 98 #[.val (.int nx), .val (.int fx), .val (.long k1), .second, .val (.long v1), .second, .val (.long k2), .second, .val (.long v2), .second, .val (.ref b_1), .val (.int (1 : Int32)), .val (.long (-9223372036854775808 : Int64)), .second, .val (.long k2), .second, .val (.int (1 : Int32)), .unset] [(.ref b_1)])) rfl (by rw [hml]; rfl) (Steps.refl _) (argsL := []) (rest := []) (lenOf pd_6 rfl) rfl (by show 2 * 0 + _ ≤ _; exact Nat.le_of_eq rfl) (hb hby at_98) (fun _ _ => ⟨rfl, e_64, (by decide : 2 + 0 ≤ _), (by decide : 20 + 0 ≤ _)⟩)
        dsimp only [Pt.U, Pt.locs, Pt.cells, Pt.slots] at X_67 l_67 y_67 z_67 st_67 hQ_67
        subst l_67 y_67 z_67
        obtain ⟨h_67, e_67⟩ : ∃ hh, T_67.heap = hh := ⟨_, rfl⟩
        rw [e_67] at hQ_67
        obtain ⟨rfl, N_67q, sm_67⟩ := hQ_67
        have N_67 := Fr.app N_64 N_67q
        refine Go.st (fun _ kk => st_67.trans kk) ?_
        rw [sm_67] at e_67
        show Go p e below s _ _ _ T_67 (mkF m 101 #[.val (.int nx), .val (.int fx), .val (.long k1), .second, .val (.long v1), .second, .val (.long k2), .second, .val (.long v2), .second, .val (.ref b_1), .val (.int (1 : Int32)), .val (.long (-9223372036854775808 : Int64)), .second, .val (.long k2), .second, .val (.int (1 : Int32)), .unset] [(.int (b2i (n2__64 = (0 : Int32))))])
        rw [show (b2i (n2__64 = (0 : Int32))) = (0 : Int32) from b2i_neg hk_66]
        show Go p e below s _ _ _ T_67 (mkF m 101 #[.val (.int nx), .val (.int fx), .val (.long k1), .second, .val (.long v1), .second, .val (.long k2), .second, .val (.long v2), .second, .val (.ref b_1), .val (.int (1 : Int32)), .val (.long (-9223372036854775808 : Int64)), .second, .val (.long k2), .second, .val (.int (1 : Int32)), .unset] [(.int (0 : Int32))])
        refine Go.st (fun _ => XS.istore X_67.here hx rfl (hb hby at_101) rfl (l' := #[.val (.int nx), .val (.int fx), .val (.long k1), .second, .val (.long v1), .second, .val (.long k2), .second, .val (.long v2), .second, .val (.ref b_1), .val (.int (1 : Int32)), .val (.long (-9223372036854775808 : Int64)), .second, .val (.long k2), .second, .val (.int (1 : Int32)), .val (.int (0 : Int32))]) rfl) ?_
        show Go p e below s _ _ _ T_67 (mkF m 103 #[.val (.int nx), .val (.int fx), .val (.long k1), .second, .val (.long v1), .second, .val (.long k2), .second, .val (.long v2), .second, .val (.ref b_1), .val (.int (1 : Int32)), .val (.long (-9223372036854775808 : Int64)), .second, .val (.long k2), .second, .val (.int (1 : Int32)), .val (.int (0 : Int32))] [])
        refine Go.st (fun _ => XS.iload X_67.here hx rfl (hb hby at_103) rfl) ?_
        show Go p e below s _ _ _ T_67 (mkF m 105 #[.val (.int nx), .val (.int fx), .val (.long k1), .second, .val (.long v1), .second, .val (.long k2), .second, .val (.long v2), .second, .val (.ref b_1), .val (.int (1 : Int32)), .val (.long (-9223372036854775808 : Int64)), .second, .val (.long k2), .second, .val (.int (1 : Int32)), .val (.int (0 : Int32))] [(.int (1 : Int32))])
        refine Go.st (fun _ => XS.ifNo X_67.here hx rfl (hb hby at_105) rfl ((if0 _ _).trans (feq (by decide : ¬ ((1 : Int32) = (0 : Int32)))).1)) ?_
        show Go p e below s _ _ _ T_67 (mkF m 108 #[.val (.int nx), .val (.int fx), .val (.long k1), .second, .val (.long v1), .second, .val (.long k2), .second, .val (.long v2), .second, .val (.ref b_1), .val (.int (1 : Int32)), .val (.long (-9223372036854775808 : Int64)), .second, .val (.long k2), .second, .val (.int (1 : Int32)), .val (.int (0 : Int32))] [])
        refine Go.st (fun _ => XS.iload X_67.here hx rfl (hb hby at_108) rfl) ?_
        show Go p e below s _ _ _ T_67 (mkF m 110 #[.val (.int nx), .val (.int fx), .val (.long k1), .second, .val (.long v1), .second, .val (.long k2), .second, .val (.long v2), .second, .val (.ref b_1), .val (.int (1 : Int32)), .val (.long (-9223372036854775808 : Int64)), .second, .val (.long k2), .second, .val (.int (1 : Int32)), .val (.int (0 : Int32))] [(.int (0 : Int32))])
        refine Go.st (fun _ => XS.iload X_67.here hx rfl (hb hby at_110) rfl) ?_
        show Go p e below s _ _ _ T_67 (mkF m 112 #[.val (.int nx), .val (.int fx), .val (.long k1), .second, .val (.long v1), .second, .val (.long k2), .second, .val (.long v2), .second, .val (.ref b_1), .val (.int (1 : Int32)), .val (.long (-9223372036854775808 : Int64)), .second, .val (.long k2), .second, .val (.int (1 : Int32)), .val (.int (0 : Int32))] [(.int (1 : Int32)), (.int (0 : Int32))])
        refine Go.st (fun _ => XS.ifYes X_67.here hx rfl (pc0 := 112) (pc' := 119) rfl (hb hby at_112) rfl ((if0 _ _).trans (feq (by decide : ¬ ((1 : Int32) = (0 : Int32)))).2) (by decide) (by decide)) ?_
        show Go p e below s _ _ _ T_67 (mkF m 119 #[.val (.int nx), .val (.int fx), .val (.long k1), .second, .val (.long v1), .second, .val (.long k2), .second, .val (.long v2), .second, .val (.ref b_1), .val (.int (1 : Int32)), .val (.long (-9223372036854775808 : Int64)), .second, .val (.long k2), .second, .val (.int (1 : Int32)), .val (.int (0 : Int32))] [(.int (0 : Int32))])
        refine Go.st (fun _ => XS.iconst X_67.here hx rfl (hb hby at_119)) ?_
        show Go p e below s _ _ _ T_67 (mkF m 120 #[.val (.int nx), .val (.int fx), .val (.long k1), .second, .val (.long v1), .second, .val (.long k2), .second, .val (.long v2), .second, .val (.ref b_1), .val (.int (1 : Int32)), .val (.long (-9223372036854775808 : Int64)), .second, .val (.long k2), .second, .val (.int (1 : Int32)), .val (.int (0 : Int32))] [(.int (0 : Int32)), (.int (0 : Int32))])
        refine Go.st (fun _ => XS.icmpNo X_67.here hx rfl (hb hby at_120) rfl (teq (by decide : (0 : Int32) = (0 : Int32))).2) ?_
        show Go p e below s _ _ _ T_67 (mkF m 123 #[.val (.int nx), .val (.int fx), .val (.long k1), .second, .val (.long v1), .second, .val (.long k2), .second, .val (.long v2), .second, .val (.ref b_1), .val (.int (1 : Int32)), .val (.long (-9223372036854775808 : Int64)), .second, .val (.long k2), .second, .val (.int (1 : Int32)), .val (.int (0 : Int32))] [])
        refine Go.st (fun _ => XS.iload X_67.here hx rfl (hb hby at_123) rfl) ?_
        show Go p e below s _ _ _ T_67 (mkF m 125 #[.val (.int nx), .val (.int fx), .val (.long k1), .second, .val (.long v1), .second, .val (.long k2), .second, .val (.long v2), .second, .val (.ref b_1), .val (.int (1 : Int32)), .val (.long (-9223372036854775808 : Int64)), .second, .val (.long k2), .second, .val (.int (1 : Int32)), .val (.int (0 : Int32))] [(.int (0 : Int32))])
        refine Go.st (fun _ => XS.aload X_67.here hx rfl (hb hby at_125) rfl rfl) ?_
        show Go p e below s _ _ _ T_67 (mkF m 127 #[.val (.int nx), .val (.int fx), .val (.long k1), .second, .val (.long v1), .second, .val (.long k2), .second, .val (.long v2), .second, .val (.ref b_1), .val (.int (1 : Int32)), .val (.long (-9223372036854775808 : Int64)), .second, .val (.long k2), .second, .val (.int (1 : Int32)), .val (.int (0 : Int32))] [(.ref b_1), (.int (0 : Int32))])
        obtain ⟨cq_68, kq_68, q_68a, q_68b, q_68c⟩ := isOf hZ e_67 p_64_0
        obtain ⟨_, _, ⟨T_68, L_68, kc_68, nc_68⟩, -, X_68, ⟨Lc_68, hQ_68, l_68, y_68, z_68⟩, st_68⟩ := X_67.virtualBack hx (y := (⟨"kasane/util/LongLongMap", "size", "()I"⟩ : MethodName)) (z := (⟨"kasane/util/LongLongMap", "size", "()I"⟩ : MethodName)) hown (mvT hZ (hw _ (List.mem_of_getElem? (i := 24) rfl))) (mvT hZ (hw _ (List.mem_of_getElem? (i := 25) rfl))) (notFace_of_selects (args := #[]) (mvT hZ (hw _ (List.mem_of_getElem? (i := 27) rfl)))) (mvT hZ (hw _ (List.mem_of_getElem? (i := 27) rfl))) (mvT hZ (hw _ (List.mem_of_getElem? (i := 26) rfl))) (by decide) (backOf (W := 1) (rmSz l Z a0 hw [] b_1 n2__64 h_64 n0 z_64q p_64_2) hZ (hw _ (List.mem_of_getElem? (i := 28) rfl)) (hw _ (List.mem_of_getElem? (i := 2) rfl)) (by decide) (by decide)) q_68a q_68c (g := (mkF m 127 #[.val (.int nx), .val (.int fx), .val (.long k1), .second, .val (.long v1), .second, .val (.long k2), .second, .val (.long v2), .second, .val (.ref b_1), .val (.int (1 : Int32)), .val (.long (-9223372036854775808 : Int64)), .second, .val (.long k2), .second, .val (.int (1 : Int32)), .val (.int (0 : Int32))] [(.ref b_1), (.int (0 : Int32))])) rfl (by rw [hml]; rfl) (Steps.refl _) (argsL := []) (rest := [(.int (0 : Int32))]) (lenOf pd_2 rfl) rfl (by show 2 * 0 + _ ≤ _; exact Nat.le_of_eq rfl) (hb hby at_127) (fun _ _ => ⟨rfl, e_67, (by decide : 2 + 0 ≤ _), (by decide : 20 + 0 ≤ _)⟩)
        dsimp only [Pt.U, Pt.locs, Pt.cells, Pt.slots] at X_68 l_68 y_68 z_68 st_68 hQ_68
        subst l_68 y_68 z_68
        obtain ⟨h_68, e_68⟩ : ∃ hh, T_68.heap = hh := ⟨_, rfl⟩
        rw [e_68] at hQ_68
        obtain ⟨rfl, N_68q, sm_68⟩ := hQ_68
        have N_68 := Fr.app N_67 N_68q
        refine Go.st (fun _ kk => st_68.trans kk) ?_
        rw [sm_68] at e_68
        show Go p e below s _ _ _ T_68 (mkF m 130 #[.val (.int nx), .val (.int fx), .val (.long k1), .second, .val (.long v1), .second, .val (.long k2), .second, .val (.long v2), .second, .val (.ref b_1), .val (.int (1 : Int32)), .val (.long (-9223372036854775808 : Int64)), .second, .val (.long k2), .second, .val (.int (1 : Int32)), .val (.int (0 : Int32))] [(.int n2__64), (.int (0 : Int32))])
        refine Go.st (fun _ => XS.ifYes X_68.here hx rfl (pc0 := 130) (pc' := 137) rfl (hb hby at_130) rfl ((if0 _ _).trans (feq hk_66).2) (by decide) (by decide)) ?_
        show Go p e below s _ _ _ T_68 (mkF m 137 #[.val (.int nx), .val (.int fx), .val (.long k1), .second, .val (.long v1), .second, .val (.long k2), .second, .val (.long v2), .second, .val (.ref b_1), .val (.int (1 : Int32)), .val (.long (-9223372036854775808 : Int64)), .second, .val (.long k2), .second, .val (.int (1 : Int32)), .val (.int (0 : Int32))] [(.int (0 : Int32))])
        refine Go.st (fun _ => XS.iconst X_68.here hx rfl (hb hby at_137)) ?_
        show Go p e below s _ _ _ T_68 (mkF m 138 #[.val (.int nx), .val (.int fx), .val (.long k1), .second, .val (.long v1), .second, .val (.long k2), .second, .val (.long v2), .second, .val (.ref b_1), .val (.int (1 : Int32)), .val (.long (-9223372036854775808 : Int64)), .second, .val (.long k2), .second, .val (.int (1 : Int32)), .val (.int (0 : Int32))] [(.int (0 : Int32)), (.int (0 : Int32))])
        refine Go.st (fun _ => XS.icmpNo X_68.here hx rfl (hb hby at_138) rfl (teq (by decide : (0 : Int32) = (0 : Int32))).2) ?_
        show Go p e below s _ _ _ T_68 (mkF m 141 #[.val (.int nx), .val (.int fx), .val (.long k1), .second, .val (.long v1), .second, .val (.long k2), .second, .val (.long v2), .second, .val (.ref b_1), .val (.int (1 : Int32)), .val (.long (-9223372036854775808 : Int64)), .second, .val (.long k2), .second, .val (.int (1 : Int32)), .val (.int (0 : Int32))] [])
        refine Go.st (fun _ => XS.iconst X_68.here hx rfl (hb hby at_141)) ?_
        show Go p e below s _ _ _ T_68 (mkF m 142 #[.val (.int nx), .val (.int fx), .val (.long k1), .second, .val (.long v1), .second, .val (.long k2), .second, .val (.long v2), .second, .val (.ref b_1), .val (.int (1 : Int32)), .val (.long (-9223372036854775808 : Int64)), .second, .val (.long k2), .second, .val (.int (1 : Int32)), .val (.int (0 : Int32))] [(.int (1 : Int32))])
        refine Go.st (fun _ => XS.goto X_68.here hx rfl (pc0 := 142) (pc' := 146) rfl (hb hby at_142) (by decide) (by decide)) ?_
        show Go p e below s _ _ _ T_68 (mkF m 146 #[.val (.int nx), .val (.int fx), .val (.long k1), .second, .val (.long v1), .second, .val (.long k2), .second, .val (.long v2), .second, .val (.ref b_1), .val (.int (1 : Int32)), .val (.long (-9223372036854775808 : Int64)), .second, .val (.long k2), .second, .val (.int (1 : Int32)), .val (.int (0 : Int32))] [(.int (1 : Int32))])
        exact Go.retZ X_68 hx hlk Bd.returns (hb hby at_146) rfl (by rw [e_68]; exact ⟨rfl, N_68⟩) (by decide) (by decide)
      · rw [show (nx &&& (3 : Int32)) = (2 : Int32) from hd_61]
        show Go p e below s _ _ _ T_3 (mkF m 49 #[.val (.int nx), .val (.int fx), .val (.long k1), .second, .val (.long v1), .second, .val (.long k2), .second, .val (.long v2), .second, .val (.ref b_1), .val (.int (1 : Int32)), .val (.long (-9223372036854775808 : Int64)), .second, .val (.long k2), .second, .unset, .unset] [(.int (2 : Int32))])
        refine Go.st (fun _ => XS.istore X_3.here hx rfl (hb hby at_49) rfl (l' := #[.val (.int nx), .val (.int fx), .val (.long k1), .second, .val (.long v1), .second, .val (.long k2), .second, .val (.long v2), .second, .val (.ref b_1), .val (.int (1 : Int32)), .val (.long (-9223372036854775808 : Int64)), .second, .val (.long k2), .second, .val (.int (2 : Int32)), .unset]) rfl) ?_
        show Go p e below s _ _ _ T_3 (mkF m 51 #[.val (.int nx), .val (.int fx), .val (.long k1), .second, .val (.long v1), .second, .val (.long k2), .second, .val (.long v2), .second, .val (.ref b_1), .val (.int (1 : Int32)), .val (.long (-9223372036854775808 : Int64)), .second, .val (.long k2), .second, .val (.int (2 : Int32)), .unset] [])
        refine Go.st (fun _ => XS.iload X_3.here hx rfl (hb hby at_51) rfl) ?_
        show Go p e below s _ _ _ T_3 (mkF m 53 #[.val (.int nx), .val (.int fx), .val (.long k1), .second, .val (.long v1), .second, .val (.long k2), .second, .val (.long v2), .second, .val (.ref b_1), .val (.int (1 : Int32)), .val (.long (-9223372036854775808 : Int64)), .second, .val (.long k2), .second, .val (.int (2 : Int32)), .unset] [(.int (2 : Int32))])
        refine Go.st (fun _ => XS.iconst X_3.here hx rfl (hb hby at_53)) ?_
        show Go p e below s _ _ _ T_3 (mkF m 54 #[.val (.int nx), .val (.int fx), .val (.long k1), .second, .val (.long v1), .second, .val (.long k2), .second, .val (.long v2), .second, .val (.ref b_1), .val (.int (1 : Int32)), .val (.long (-9223372036854775808 : Int64)), .second, .val (.long k2), .second, .val (.int (2 : Int32)), .unset] [(.int (1 : Int32)), (.int (2 : Int32))])
        refine Go.st (fun _ => XS.icmpNo X_3.here hx rfl (hb hby at_54) rfl (flt (by decide : ¬ ((2 : Int32) < (1 : Int32)))).1) ?_
        show Go p e below s _ _ _ T_3 (mkF m 57 #[.val (.int nx), .val (.int fx), .val (.long k1), .second, .val (.long v1), .second, .val (.long k2), .second, .val (.long v2), .second, .val (.ref b_1), .val (.int (1 : Int32)), .val (.long (-9223372036854775808 : Int64)), .second, .val (.long k2), .second, .val (.int (2 : Int32)), .unset] [])
        refine Go.st (fun _ => XS.aload X_3.here hx rfl (hb hby at_57) rfl rfl) ?_
        show Go p e below s _ _ _ T_3 (mkF m 59 #[.val (.int nx), .val (.int fx), .val (.long k1), .second, .val (.long v1), .second, .val (.long k2), .second, .val (.long v2), .second, .val (.ref b_1), .val (.int (1 : Int32)), .val (.long (-9223372036854775808 : Int64)), .second, .val (.long k2), .second, .val (.int (2 : Int32)), .unset] [(.ref b_1)])
        refine Go.st (fun _ => XS.lload X_3.here hx rfl (hb hby at_59) rfl) ?_
        show Go p e below s _ _ _ T_3 (mkF m 61 #[.val (.int nx), .val (.int fx), .val (.long k1), .second, .val (.long v1), .second, .val (.long k2), .second, .val (.long v2), .second, .val (.ref b_1), .val (.int (1 : Int32)), .val (.long (-9223372036854775808 : Int64)), .second, .val (.long k2), .second, .val (.int (2 : Int32)), .unset] [(.long (-9223372036854775808 : Int64)), (.ref b_1)])
        refine Go.st (fun _ => XS.lload X_3.here hx rfl (hb hby at_61) rfl) ?_
        show Go p e below s _ _ _ T_3 (mkF m 63 #[.val (.int nx), .val (.int fx), .val (.long k1), .second, .val (.long v1), .second, .val (.long k2), .second, .val (.long v2), .second, .val (.ref b_1), .val (.int (1 : Int32)), .val (.long (-9223372036854775808 : Int64)), .second, .val (.long k2), .second, .val (.int (2 : Int32)), .unset] [(.long v1), (.long (-9223372036854775808 : Int64)), (.ref b_1)])
        obtain ⟨cq_69, kq_69, q_69a, q_69b, q_69c⟩ := isOf hZ e_3 p_2_2
        obtain ⟨_, _, ⟨T_69, L_69, kc_69, nc_69⟩, -, X_69, ⟨Lc_69, hQ_69, l_69, y_69, z_69⟩, st_69⟩ := X_3.virtualBack hx (y := (⟨"kasane/util/LongLongMap", "put", "(JJ)V"⟩ : MethodName)) (z := (⟨"kasane/util/LongLongMap", "put", "(JJ)V"⟩ : MethodName)) hown (mvT hZ (hw _ (List.mem_of_getElem? (i := 29) rfl))) (mvT hZ (hw _ (List.mem_of_getElem? (i := 30) rfl))) (notFace_of_selects (args := #[]) (mvT hZ (hw _ (List.mem_of_getElem? (i := 32) rfl)))) (mvT hZ (hw _ (List.mem_of_getElem? (i := 32) rfl))) (mvT hZ (hw _ (List.mem_of_getElem? (i := 31) rfl))) (by decide) (backOf (W := 0) (rmPu l Z a0 hw [] b_1 (-9223372036854775808 : Int64) v1 t__2 kt__2 [(-9223372036854775808 : Int64), (0 : Int64), (-9223372036854775808 : Int64), (0 : Int64), (-9223372036854775808 : Int64), (0 : Int64), (-9223372036854775808 : Int64), (0 : Int64), (-9223372036854775808 : Int64), (0 : Int64), (-9223372036854775808 : Int64), (0 : Int64), (-9223372036854775808 : Int64), (0 : Int64), (-9223372036854775808 : Int64), (0 : Int64)] (0 : Int32) (0 : Int32) (0 : Int64) h_2 n0 z_2q p_2_2 p_2_3 p_2_4 p_2_5 p_2_6 vm0 gg_1 p_2_1 ne_b_1_t__2 own_inv0 (by decide)) hZ (hw _ (List.mem_of_getElem? (i := 33) rfl)) (hw _ (List.mem_of_getElem? (i := 2) rfl)) (by decide) (by decide)) q_69a q_69c (g := (mkF m 63 #[.val (.int nx), .val (.int fx), .val (.long k1), .second, .val (.long v1), .second, .val (.long k2), .second, .val (.long v2), .second, .val (.ref b_1), .val (.int (1 : Int32)), .val (.long (-9223372036854775808 : Int64)), .second, .val (.long k2), .second, .val (.int (2 : Int32)), .unset] [(.long v1), (.long (-9223372036854775808 : Int64)), (.ref b_1)])) rfl (by rw [hml]; rfl) (Steps.refl _) (argsL := [(.long (-9223372036854775808 : Int64)), (.long v1)]) (rest := []) (lenOf pd_7 rfl) rfl (by show 2 * 0 + _ ≤ _; exact Nat.le_of_eq rfl) (hb hby at_63) (fun _ _ => ⟨rfl, e_3, (by decide : 2 + 0 ≤ _), (by decide : 20 + 0 ≤ _)⟩)
        dsimp only [Pt.U, Pt.locs, Pt.cells, Pt.slots] at X_69 l_69 y_69 z_69 st_69 hQ_69
        subst l_69 y_69 z_69
        obtain ⟨h_69, e_69⟩ : ∃ hh, T_69.heap = hh := ⟨_, rfl⟩
        rw [e_69] at hQ_69
        obtain ⟨ks2__69, n2__69, f2__69, r2__69, rfl, N_69q, K_69, p_69_0, p_69_1, p_69_2, p_69_3, p_69_4, p_69_5, p_69_6, p_69_7⟩ := hQ_69
        have N_69 := Fr.app N_3 N_69q
        refine Go.st (fun _ kk => st_69.trans kk) ?_
        have z_69q : n0 ≤ h_69.size := Nat.le_trans z_2q K_69.1
        show Go p e below s _ _ _ T_69 (mkF m 66 #[.val (.int nx), .val (.int fx), .val (.long k1), .second, .val (.long v1), .second, .val (.long k2), .second, .val (.long v2), .second, .val (.ref b_1), .val (.int (1 : Int32)), .val (.long (-9223372036854775808 : Int64)), .second, .val (.long k2), .second, .val (.int (2 : Int32)), .unset] [])
        have hle_70 : 1 ≤ n2__69.toInt ∧ n2__69.toInt ≤ 1 := by have q1 := p_69_7; have q2 := (trivial : True); have q3 : (0 : Int32).toInt = 0 := (by decide); omega
        have hk_71 : ¬ (n2__69 = (0 : Int32)) := own_pos hle_70.1
        refine Go.st (fun _ => XS.iload X_69.here hx rfl (hb hby at_66) rfl) ?_
        show Go p e below s _ _ _ T_69 (mkF m 68 #[.val (.int nx), .val (.int fx), .val (.long k1), .second, .val (.long v1), .second, .val (.long k2), .second, .val (.long v2), .second, .val (.ref b_1), .val (.int (1 : Int32)), .val (.long (-9223372036854775808 : Int64)), .second, .val (.long k2), .second, .val (.int (2 : Int32)), .unset] [(.int (2 : Int32))])
        refine Go.st (fun _ => XS.iconst X_69.here hx rfl (hb hby at_68)) ?_
        show Go p e below s _ _ _ T_69 (mkF m 69 #[.val (.int nx), .val (.int fx), .val (.long k1), .second, .val (.long v1), .second, .val (.long k2), .second, .val (.long v2), .second, .val (.ref b_1), .val (.int (1 : Int32)), .val (.long (-9223372036854775808 : Int64)), .second, .val (.long k2), .second, .val (.int (2 : Int32)), .unset] [(.int (2 : Int32)), (.int (2 : Int32))])
        refine Go.st (fun _ => XS.icmpNo X_69.here hx rfl (hb hby at_69) rfl (flt (by decide : ¬ ((2 : Int32) < (2 : Int32)))).1) ?_
        show Go p e below s _ _ _ T_69 (mkF m 72 #[.val (.int nx), .val (.int fx), .val (.long k1), .second, .val (.long v1), .second, .val (.long k2), .second, .val (.long v2), .second, .val (.ref b_1), .val (.int (1 : Int32)), .val (.long (-9223372036854775808 : Int64)), .second, .val (.long k2), .second, .val (.int (2 : Int32)), .unset] [])
        refine Go.st (fun _ => XS.aload X_69.here hx rfl (hb hby at_72) rfl rfl) ?_
        show Go p e below s _ _ _ T_69 (mkF m 74 #[.val (.int nx), .val (.int fx), .val (.long k1), .second, .val (.long v1), .second, .val (.long k2), .second, .val (.long v2), .second, .val (.ref b_1), .val (.int (1 : Int32)), .val (.long (-9223372036854775808 : Int64)), .second, .val (.long k2), .second, .val (.int (2 : Int32)), .unset] [(.ref b_1)])
        refine Go.st (fun _ => XS.lload X_69.here hx rfl (hb hby at_74) rfl) ?_
        show Go p e below s _ _ _ T_69 (mkF m 76 #[.val (.int nx), .val (.int fx), .val (.long k1), .second, .val (.long v1), .second, .val (.long k2), .second, .val (.long v2), .second, .val (.ref b_1), .val (.int (1 : Int32)), .val (.long (-9223372036854775808 : Int64)), .second, .val (.long k2), .second, .val (.int (2 : Int32)), .unset] [(.long k2), (.ref b_1)])
        refine Go.st (fun _ => XS.lload X_69.here hx rfl (hb hby at_76) rfl) ?_
        show Go p e below s _ _ _ T_69 (mkF m 78 #[.val (.int nx), .val (.int fx), .val (.long k1), .second, .val (.long v1), .second, .val (.long k2), .second, .val (.long v2), .second, .val (.ref b_1), .val (.int (1 : Int32)), .val (.long (-9223372036854775808 : Int64)), .second, .val (.long k2), .second, .val (.int (2 : Int32)), .unset] [(.long v2), (.long k2), (.ref b_1)])
        obtain ⟨cq_72, kq_72, q_72a, q_72b, q_72c⟩ := isOf hZ e_69 p_69_0
        obtain ⟨_, _, ⟨T_72, L_72, kc_72, nc_72⟩, -, X_72, ⟨Lc_72, hQ_72, l_72, y_72, z_72⟩, st_72⟩ := X_69.virtualBack hx (y := (⟨"kasane/util/LongLongMap", "put", "(JJ)V"⟩ : MethodName)) (z := (⟨"kasane/util/LongLongMap", "put", "(JJ)V"⟩ : MethodName)) hown (mvT hZ (hw _ (List.mem_of_getElem? (i := 29) rfl))) (mvT hZ (hw _ (List.mem_of_getElem? (i := 30) rfl))) (notFace_of_selects (args := #[]) (mvT hZ (hw _ (List.mem_of_getElem? (i := 32) rfl)))) (mvT hZ (hw _ (List.mem_of_getElem? (i := 32) rfl))) (mvT hZ (hw _ (List.mem_of_getElem? (i := 31) rfl))) (by decide) (backOf (W := 0) (rmPu l Z a0 hw [] b_1 k2 v2 t__2 kt__2 ks2__69 n2__69 f2__69 r2__69 h_69 n0 z_69q p_69_0 p_69_1 p_69_2 p_69_3 p_69_4 p_69_5 gg_1 p_2_1 ne_b_1_t__2 p_69_6 (by have q := hle_70; omega)) hZ (hw _ (List.mem_of_getElem? (i := 33) rfl)) (hw _ (List.mem_of_getElem? (i := 2) rfl)) (by decide) (by decide)) q_72a q_72c (g := (mkF m 78 #[.val (.int nx), .val (.int fx), .val (.long k1), .second, .val (.long v1), .second, .val (.long k2), .second, .val (.long v2), .second, .val (.ref b_1), .val (.int (1 : Int32)), .val (.long (-9223372036854775808 : Int64)), .second, .val (.long k2), .second, .val (.int (2 : Int32)), .unset] [(.long v2), (.long k2), (.ref b_1)])) rfl (by rw [hml]; rfl) (Steps.refl _) (argsL := [(.long k2), (.long v2)]) (rest := []) (lenOf pd_7 rfl) rfl (by show 2 * 0 + _ ≤ _; exact Nat.le_of_eq rfl) (hb hby at_78) (fun _ _ => ⟨rfl, e_69, (by decide : 2 + 0 ≤ _), (by decide : 20 + 0 ≤ _)⟩)
        dsimp only [Pt.U, Pt.locs, Pt.cells, Pt.slots] at X_72 l_72 y_72 z_72 st_72 hQ_72
        subst l_72 y_72 z_72
        obtain ⟨h_72, e_72⟩ : ∃ hh, T_72.heap = hh := ⟨_, rfl⟩
        rw [e_72] at hQ_72
        obtain ⟨ks2__72, n2__72, f2__72, r2__72, rfl, N_72q, K_72, p_72_0, p_72_1, p_72_2, p_72_3, p_72_4, p_72_5, p_72_6, p_72_7⟩ := hQ_72
        have N_72 := Fr.app N_69 N_72q
        refine Go.st (fun _ kk => st_72.trans kk) ?_
        have z_72q : n0 ≤ h_72.size := Nat.le_trans z_69q K_72.1
        show Go p e below s _ _ _ T_72 (mkF m 81 #[.val (.int nx), .val (.int fx), .val (.long k1), .second, .val (.long v1), .second, .val (.long k2), .second, .val (.long v2), .second, .val (.ref b_1), .val (.int (1 : Int32)), .val (.long (-9223372036854775808 : Int64)), .second, .val (.long k2), .second, .val (.int (2 : Int32)), .unset] [])
        have hle_73 : 1 ≤ n2__72.toInt ∧ n2__72.toInt ≤ 2 := by have q1 := p_72_7; have q2 := hle_70; omega
        have hk_74 : ¬ (n2__72 = (0 : Int32)) := own_pos hle_73.1
        refine Go.st (fun _ => XS.iload X_72.here hx rfl (hb hby at_81) rfl) ?_
        show Go p e below s _ _ _ T_72 (mkF m 83 #[.val (.int nx), .val (.int fx), .val (.long k1), .second, .val (.long v1), .second, .val (.long k2), .second, .val (.long v2), .second, .val (.ref b_1), .val (.int (1 : Int32)), .val (.long (-9223372036854775808 : Int64)), .second, .val (.long k2), .second, .val (.int (2 : Int32)), .unset] [(.int (2 : Int32))])
        refine Go.st (fun _ => XS.iconst X_72.here hx rfl (hb hby at_83)) ?_
        show Go p e below s _ _ _ T_72 (mkF m 84 #[.val (.int nx), .val (.int fx), .val (.long k1), .second, .val (.long v1), .second, .val (.long k2), .second, .val (.long v2), .second, .val (.ref b_1), .val (.int (1 : Int32)), .val (.long (-9223372036854775808 : Int64)), .second, .val (.long k2), .second, .val (.int (2 : Int32)), .unset] [(.int (3 : Int32)), (.int (2 : Int32))])
        refine Go.st (fun _ => XS.icmpYes X_72.here hx rfl (pc0 := 84) (pc' := 96) rfl (hb hby at_84) rfl (tlt (by decide : (2 : Int32) < (3 : Int32))).1 (by decide) (by decide)) ?_
        show Go p e below s _ _ _ T_72 (mkF m 96 #[.val (.int nx), .val (.int fx), .val (.long k1), .second, .val (.long v1), .second, .val (.long k2), .second, .val (.long v2), .second, .val (.ref b_1), .val (.int (1 : Int32)), .val (.long (-9223372036854775808 : Int64)), .second, .val (.long k2), .second, .val (.int (2 : Int32)), .unset] [])
        refine Go.st (fun _ => XS.aload X_72.here hx rfl (hb hby at_96) rfl rfl) ?_
        show Go p e below s _ _ _ T_72 (mkF m 98 #[.val (.int nx), .val (.int fx), .val (.long k1), .second, .val (.long v1), .second, .val (.long k2), .second, .val (.long v2), .second, .val (.ref b_1), .val (.int (1 : Int32)), .val (.long (-9223372036854775808 : Int64)), .second, .val (.long k2), .second, .val (.int (2 : Int32)), .unset] [(.ref b_1)])
        obtain ⟨cq_75, kq_75, q_75a, q_75b, q_75c⟩ := isOf hZ e_72 p_72_0
        obtain ⟨_, _, ⟨T_75, L_75, kc_75, nc_75⟩, -, X_75, ⟨Lc_75, hQ_75, l_75, y_75, z_75⟩, st_75⟩ := X_72.virtualBack hx (y := (⟨"kasane/util/LongLongMap", "isEmpty", "()Z"⟩ : MethodName)) (z := (⟨"kasane/util/LongLongMap", "isEmpty", "()Z"⟩ : MethodName)) hown (mvT hZ (hw _ (List.mem_of_getElem? (i := 16) rfl))) (mvT hZ (hw _ (List.mem_of_getElem? (i := 17) rfl))) (notFace_of_selects (args := #[]) (mvT hZ (hw _ (List.mem_of_getElem? (i := 19) rfl)))) (mvT hZ (hw _ (List.mem_of_getElem? (i := 19) rfl))) (mvT hZ (hw _ (List.mem_of_getElem? (i := 18) rfl))) (by decide) (backOf (W := 0) (rmEm l Z a0 hw [] b_1 n2__72 h_72 n0 z_72q p_72_2) hZ (hw _ (List.mem_of_getElem? (i := 20) rfl)) (hw _ (List.mem_of_getElem? (i := 2) rfl)) (by decide) (by decide)) q_75a q_75c (g := (mkF m 98 #[.val (.int nx), .val (.int fx), .val (.long k1), .second, .val (.long v1), .second, .val (.long k2), .second, .val (.long v2), .second, .val (.ref b_1), .val (.int (1 : Int32)), .val (.long (-9223372036854775808 : Int64)), .second, .val (.long k2), .second, .val (.int (2 : Int32)), .unset] [(.ref b_1)])) rfl (by rw [hml]; rfl) (Steps.refl _) (argsL := []) (rest := []) (lenOf pd_6 rfl) rfl (by show 2 * 0 + _ ≤ _; exact Nat.le_of_eq rfl) (hb hby at_98) (fun _ _ => ⟨rfl, e_72, (by decide : 2 + 0 ≤ _), (by decide : 20 + 0 ≤ _)⟩)
        dsimp only [Pt.U, Pt.locs, Pt.cells, Pt.slots] at X_75 l_75 y_75 z_75 st_75 hQ_75
        subst l_75 y_75 z_75
        obtain ⟨h_75, e_75⟩ : ∃ hh, T_75.heap = hh := ⟨_, rfl⟩
        rw [e_75] at hQ_75
        obtain ⟨rfl, N_75q, sm_75⟩ := hQ_75
        have N_75 := Fr.app N_72 N_75q
        refine Go.st (fun _ kk => st_75.trans kk) ?_
        rw [sm_75] at e_75
        show Go p e below s _ _ _ T_75 (mkF m 101 #[.val (.int nx), .val (.int fx), .val (.long k1), .second, .val (.long v1), .second, .val (.long k2), .second, .val (.long v2), .second, .val (.ref b_1), .val (.int (1 : Int32)), .val (.long (-9223372036854775808 : Int64)), .second, .val (.long k2), .second, .val (.int (2 : Int32)), .unset] [(.int (b2i (n2__72 = (0 : Int32))))])
        rw [show (b2i (n2__72 = (0 : Int32))) = (0 : Int32) from b2i_neg hk_74]
        show Go p e below s _ _ _ T_75 (mkF m 101 #[.val (.int nx), .val (.int fx), .val (.long k1), .second, .val (.long v1), .second, .val (.long k2), .second, .val (.long v2), .second, .val (.ref b_1), .val (.int (1 : Int32)), .val (.long (-9223372036854775808 : Int64)), .second, .val (.long k2), .second, .val (.int (2 : Int32)), .unset] [(.int (0 : Int32))])
        refine Go.st (fun _ => XS.istore X_75.here hx rfl (hb hby at_101) rfl (l' := #[.val (.int nx), .val (.int fx), .val (.long k1), .second, .val (.long v1), .second, .val (.long k2), .second, .val (.long v2), .second, .val (.ref b_1), .val (.int (1 : Int32)), .val (.long (-9223372036854775808 : Int64)), .second, .val (.long k2), .second, .val (.int (2 : Int32)), .val (.int (0 : Int32))]) rfl) ?_
        show Go p e below s _ _ _ T_75 (mkF m 103 #[.val (.int nx), .val (.int fx), .val (.long k1), .second, .val (.long v1), .second, .val (.long k2), .second, .val (.long v2), .second, .val (.ref b_1), .val (.int (1 : Int32)), .val (.long (-9223372036854775808 : Int64)), .second, .val (.long k2), .second, .val (.int (2 : Int32)), .val (.int (0 : Int32))] [])
        refine Go.st (fun _ => XS.iload X_75.here hx rfl (hb hby at_103) rfl) ?_
        show Go p e below s _ _ _ T_75 (mkF m 105 #[.val (.int nx), .val (.int fx), .val (.long k1), .second, .val (.long v1), .second, .val (.long k2), .second, .val (.long v2), .second, .val (.ref b_1), .val (.int (1 : Int32)), .val (.long (-9223372036854775808 : Int64)), .second, .val (.long k2), .second, .val (.int (2 : Int32)), .val (.int (0 : Int32))] [(.int (1 : Int32))])
        refine Go.st (fun _ => XS.ifNo X_75.here hx rfl (hb hby at_105) rfl ((if0 _ _).trans (feq (by decide : ¬ ((1 : Int32) = (0 : Int32)))).1)) ?_
        show Go p e below s _ _ _ T_75 (mkF m 108 #[.val (.int nx), .val (.int fx), .val (.long k1), .second, .val (.long v1), .second, .val (.long k2), .second, .val (.long v2), .second, .val (.ref b_1), .val (.int (1 : Int32)), .val (.long (-9223372036854775808 : Int64)), .second, .val (.long k2), .second, .val (.int (2 : Int32)), .val (.int (0 : Int32))] [])
        refine Go.st (fun _ => XS.iload X_75.here hx rfl (hb hby at_108) rfl) ?_
        show Go p e below s _ _ _ T_75 (mkF m 110 #[.val (.int nx), .val (.int fx), .val (.long k1), .second, .val (.long v1), .second, .val (.long k2), .second, .val (.long v2), .second, .val (.ref b_1), .val (.int (1 : Int32)), .val (.long (-9223372036854775808 : Int64)), .second, .val (.long k2), .second, .val (.int (2 : Int32)), .val (.int (0 : Int32))] [(.int (0 : Int32))])
        refine Go.st (fun _ => XS.iload X_75.here hx rfl (hb hby at_110) rfl) ?_
        show Go p e below s _ _ _ T_75 (mkF m 112 #[.val (.int nx), .val (.int fx), .val (.long k1), .second, .val (.long v1), .second, .val (.long k2), .second, .val (.long v2), .second, .val (.ref b_1), .val (.int (1 : Int32)), .val (.long (-9223372036854775808 : Int64)), .second, .val (.long k2), .second, .val (.int (2 : Int32)), .val (.int (0 : Int32))] [(.int (2 : Int32)), (.int (0 : Int32))])
        refine Go.st (fun _ => XS.ifYes X_75.here hx rfl (pc0 := 112) (pc' := 119) rfl (hb hby at_112) rfl ((if0 _ _).trans (feq (by decide : ¬ ((2 : Int32) = (0 : Int32)))).2) (by decide) (by decide)) ?_
        show Go p e below s _ _ _ T_75 (mkF m 119 #[.val (.int nx), .val (.int fx), .val (.long k1), .second, .val (.long v1), .second, .val (.long k2), .second, .val (.long v2), .second, .val (.ref b_1), .val (.int (1 : Int32)), .val (.long (-9223372036854775808 : Int64)), .second, .val (.long k2), .second, .val (.int (2 : Int32)), .val (.int (0 : Int32))] [(.int (0 : Int32))])
        refine Go.st (fun _ => XS.iconst X_75.here hx rfl (hb hby at_119)) ?_
        show Go p e below s _ _ _ T_75 (mkF m 120 #[.val (.int nx), .val (.int fx), .val (.long k1), .second, .val (.long v1), .second, .val (.long k2), .second, .val (.long v2), .second, .val (.ref b_1), .val (.int (1 : Int32)), .val (.long (-9223372036854775808 : Int64)), .second, .val (.long k2), .second, .val (.int (2 : Int32)), .val (.int (0 : Int32))] [(.int (0 : Int32)), (.int (0 : Int32))])
        refine Go.st (fun _ => XS.icmpNo X_75.here hx rfl (hb hby at_120) rfl (teq (by decide : (0 : Int32) = (0 : Int32))).2) ?_
        show Go p e below s _ _ _ T_75 (mkF m 123 #[.val (.int nx), .val (.int fx), .val (.long k1), .second, .val (.long v1), .second, .val (.long k2), .second, .val (.long v2), .second, .val (.ref b_1), .val (.int (1 : Int32)), .val (.long (-9223372036854775808 : Int64)), .second, .val (.long k2), .second, .val (.int (2 : Int32)), .val (.int (0 : Int32))] [])
        refine Go.st (fun _ => XS.iload X_75.here hx rfl (hb hby at_123) rfl) ?_
        show Go p e below s _ _ _ T_75 (mkF m 125 #[.val (.int nx), .val (.int fx), .val (.long k1), .second, .val (.long v1), .second, .val (.long k2), .second, .val (.long v2), .second, .val (.ref b_1), .val (.int (1 : Int32)), .val (.long (-9223372036854775808 : Int64)), .second, .val (.long k2), .second, .val (.int (2 : Int32)), .val (.int (0 : Int32))] [(.int (0 : Int32))])
        refine Go.st (fun _ => XS.aload X_75.here hx rfl (hb hby at_125) rfl rfl) ?_
        show Go p e below s _ _ _ T_75 (mkF m 127 #[.val (.int nx), .val (.int fx), .val (.long k1), .second, .val (.long v1), .second, .val (.long k2), .second, .val (.long v2), .second, .val (.ref b_1), .val (.int (1 : Int32)), .val (.long (-9223372036854775808 : Int64)), .second, .val (.long k2), .second, .val (.int (2 : Int32)), .val (.int (0 : Int32))] [(.ref b_1), (.int (0 : Int32))])
        obtain ⟨cq_76, kq_76, q_76a, q_76b, q_76c⟩ := isOf hZ e_75 p_72_0
        obtain ⟨_, _, ⟨T_76, L_76, kc_76, nc_76⟩, -, X_76, ⟨Lc_76, hQ_76, l_76, y_76, z_76⟩, st_76⟩ := X_75.virtualBack hx (y := (⟨"kasane/util/LongLongMap", "size", "()I"⟩ : MethodName)) (z := (⟨"kasane/util/LongLongMap", "size", "()I"⟩ : MethodName)) hown (mvT hZ (hw _ (List.mem_of_getElem? (i := 24) rfl))) (mvT hZ (hw _ (List.mem_of_getElem? (i := 25) rfl))) (notFace_of_selects (args := #[]) (mvT hZ (hw _ (List.mem_of_getElem? (i := 27) rfl)))) (mvT hZ (hw _ (List.mem_of_getElem? (i := 27) rfl))) (mvT hZ (hw _ (List.mem_of_getElem? (i := 26) rfl))) (by decide) (backOf (W := 1) (rmSz l Z a0 hw [] b_1 n2__72 h_72 n0 z_72q p_72_2) hZ (hw _ (List.mem_of_getElem? (i := 28) rfl)) (hw _ (List.mem_of_getElem? (i := 2) rfl)) (by decide) (by decide)) q_76a q_76c (g := (mkF m 127 #[.val (.int nx), .val (.int fx), .val (.long k1), .second, .val (.long v1), .second, .val (.long k2), .second, .val (.long v2), .second, .val (.ref b_1), .val (.int (1 : Int32)), .val (.long (-9223372036854775808 : Int64)), .second, .val (.long k2), .second, .val (.int (2 : Int32)), .val (.int (0 : Int32))] [(.ref b_1), (.int (0 : Int32))])) rfl (by rw [hml]; rfl) (Steps.refl _) (argsL := []) (rest := [(.int (0 : Int32))]) (lenOf pd_2 rfl) rfl (by show 2 * 0 + _ ≤ _; exact Nat.le_of_eq rfl) (hb hby at_127) (fun _ _ => ⟨rfl, e_75, (by decide : 2 + 0 ≤ _), (by decide : 20 + 0 ≤ _)⟩)
        dsimp only [Pt.U, Pt.locs, Pt.cells, Pt.slots] at X_76 l_76 y_76 z_76 st_76 hQ_76
        subst l_76 y_76 z_76
        obtain ⟨h_76, e_76⟩ : ∃ hh, T_76.heap = hh := ⟨_, rfl⟩
        rw [e_76] at hQ_76
        obtain ⟨rfl, N_76q, sm_76⟩ := hQ_76
        have N_76 := Fr.app N_75 N_76q
        refine Go.st (fun _ kk => st_76.trans kk) ?_
        rw [sm_76] at e_76
        show Go p e below s _ _ _ T_76 (mkF m 130 #[.val (.int nx), .val (.int fx), .val (.long k1), .second, .val (.long v1), .second, .val (.long k2), .second, .val (.long v2), .second, .val (.ref b_1), .val (.int (1 : Int32)), .val (.long (-9223372036854775808 : Int64)), .second, .val (.long k2), .second, .val (.int (2 : Int32)), .val (.int (0 : Int32))] [(.int n2__72), (.int (0 : Int32))])
        refine Go.st (fun _ => XS.ifYes X_76.here hx rfl (pc0 := 130) (pc' := 137) rfl (hb hby at_130) rfl ((if0 _ _).trans (feq hk_74).2) (by decide) (by decide)) ?_
        show Go p e below s _ _ _ T_76 (mkF m 137 #[.val (.int nx), .val (.int fx), .val (.long k1), .second, .val (.long v1), .second, .val (.long k2), .second, .val (.long v2), .second, .val (.ref b_1), .val (.int (1 : Int32)), .val (.long (-9223372036854775808 : Int64)), .second, .val (.long k2), .second, .val (.int (2 : Int32)), .val (.int (0 : Int32))] [(.int (0 : Int32))])
        refine Go.st (fun _ => XS.iconst X_76.here hx rfl (hb hby at_137)) ?_
        show Go p e below s _ _ _ T_76 (mkF m 138 #[.val (.int nx), .val (.int fx), .val (.long k1), .second, .val (.long v1), .second, .val (.long k2), .second, .val (.long v2), .second, .val (.ref b_1), .val (.int (1 : Int32)), .val (.long (-9223372036854775808 : Int64)), .second, .val (.long k2), .second, .val (.int (2 : Int32)), .val (.int (0 : Int32))] [(.int (0 : Int32)), (.int (0 : Int32))])
        refine Go.st (fun _ => XS.icmpNo X_76.here hx rfl (hb hby at_138) rfl (teq (by decide : (0 : Int32) = (0 : Int32))).2) ?_
        show Go p e below s _ _ _ T_76 (mkF m 141 #[.val (.int nx), .val (.int fx), .val (.long k1), .second, .val (.long v1), .second, .val (.long k2), .second, .val (.long v2), .second, .val (.ref b_1), .val (.int (1 : Int32)), .val (.long (-9223372036854775808 : Int64)), .second, .val (.long k2), .second, .val (.int (2 : Int32)), .val (.int (0 : Int32))] [])
        refine Go.st (fun _ => XS.iconst X_76.here hx rfl (hb hby at_141)) ?_
        show Go p e below s _ _ _ T_76 (mkF m 142 #[.val (.int nx), .val (.int fx), .val (.long k1), .second, .val (.long v1), .second, .val (.long k2), .second, .val (.long v2), .second, .val (.ref b_1), .val (.int (1 : Int32)), .val (.long (-9223372036854775808 : Int64)), .second, .val (.long k2), .second, .val (.int (2 : Int32)), .val (.int (0 : Int32))] [(.int (1 : Int32))])
        refine Go.st (fun _ => XS.goto X_76.here hx rfl (pc0 := 142) (pc' := 146) rfl (hb hby at_142) (by decide) (by decide)) ?_
        show Go p e below s _ _ _ T_76 (mkF m 146 #[.val (.int nx), .val (.int fx), .val (.long k1), .second, .val (.long v1), .second, .val (.long k2), .second, .val (.long v2), .second, .val (.ref b_1), .val (.int (1 : Int32)), .val (.long (-9223372036854775808 : Int64)), .second, .val (.long k2), .second, .val (.int (2 : Int32)), .val (.int (0 : Int32))] [(.int (1 : Int32))])
        exact Go.retZ X_76 hx hlk Bd.returns (hb hby at_146) rfl (by rw [e_76]; exact ⟨rfl, N_76⟩) (by decide) (by decide)
      · rw [show (nx &&& (3 : Int32)) = (3 : Int32) from hd_61]
        show Go p e below s _ _ _ T_3 (mkF m 49 #[.val (.int nx), .val (.int fx), .val (.long k1), .second, .val (.long v1), .second, .val (.long k2), .second, .val (.long v2), .second, .val (.ref b_1), .val (.int (1 : Int32)), .val (.long (-9223372036854775808 : Int64)), .second, .val (.long k2), .second, .unset, .unset] [(.int (3 : Int32))])
        refine Go.st (fun _ => XS.istore X_3.here hx rfl (hb hby at_49) rfl (l' := #[.val (.int nx), .val (.int fx), .val (.long k1), .second, .val (.long v1), .second, .val (.long k2), .second, .val (.long v2), .second, .val (.ref b_1), .val (.int (1 : Int32)), .val (.long (-9223372036854775808 : Int64)), .second, .val (.long k2), .second, .val (.int (3 : Int32)), .unset]) rfl) ?_
        show Go p e below s _ _ _ T_3 (mkF m 51 #[.val (.int nx), .val (.int fx), .val (.long k1), .second, .val (.long v1), .second, .val (.long k2), .second, .val (.long v2), .second, .val (.ref b_1), .val (.int (1 : Int32)), .val (.long (-9223372036854775808 : Int64)), .second, .val (.long k2), .second, .val (.int (3 : Int32)), .unset] [])
        refine Go.st (fun _ => XS.iload X_3.here hx rfl (hb hby at_51) rfl) ?_
        show Go p e below s _ _ _ T_3 (mkF m 53 #[.val (.int nx), .val (.int fx), .val (.long k1), .second, .val (.long v1), .second, .val (.long k2), .second, .val (.long v2), .second, .val (.ref b_1), .val (.int (1 : Int32)), .val (.long (-9223372036854775808 : Int64)), .second, .val (.long k2), .second, .val (.int (3 : Int32)), .unset] [(.int (3 : Int32))])
        refine Go.st (fun _ => XS.iconst X_3.here hx rfl (hb hby at_53)) ?_
        show Go p e below s _ _ _ T_3 (mkF m 54 #[.val (.int nx), .val (.int fx), .val (.long k1), .second, .val (.long v1), .second, .val (.long k2), .second, .val (.long v2), .second, .val (.ref b_1), .val (.int (1 : Int32)), .val (.long (-9223372036854775808 : Int64)), .second, .val (.long k2), .second, .val (.int (3 : Int32)), .unset] [(.int (1 : Int32)), (.int (3 : Int32))])
        refine Go.st (fun _ => XS.icmpNo X_3.here hx rfl (hb hby at_54) rfl (flt (by decide : ¬ ((3 : Int32) < (1 : Int32)))).1) ?_
        show Go p e below s _ _ _ T_3 (mkF m 57 #[.val (.int nx), .val (.int fx), .val (.long k1), .second, .val (.long v1), .second, .val (.long k2), .second, .val (.long v2), .second, .val (.ref b_1), .val (.int (1 : Int32)), .val (.long (-9223372036854775808 : Int64)), .second, .val (.long k2), .second, .val (.int (3 : Int32)), .unset] [])
        refine Go.st (fun _ => XS.aload X_3.here hx rfl (hb hby at_57) rfl rfl) ?_
        show Go p e below s _ _ _ T_3 (mkF m 59 #[.val (.int nx), .val (.int fx), .val (.long k1), .second, .val (.long v1), .second, .val (.long k2), .second, .val (.long v2), .second, .val (.ref b_1), .val (.int (1 : Int32)), .val (.long (-9223372036854775808 : Int64)), .second, .val (.long k2), .second, .val (.int (3 : Int32)), .unset] [(.ref b_1)])
        refine Go.st (fun _ => XS.lload X_3.here hx rfl (hb hby at_59) rfl) ?_
        show Go p e below s _ _ _ T_3 (mkF m 61 #[.val (.int nx), .val (.int fx), .val (.long k1), .second, .val (.long v1), .second, .val (.long k2), .second, .val (.long v2), .second, .val (.ref b_1), .val (.int (1 : Int32)), .val (.long (-9223372036854775808 : Int64)), .second, .val (.long k2), .second, .val (.int (3 : Int32)), .unset] [(.long (-9223372036854775808 : Int64)), (.ref b_1)])
        refine Go.st (fun _ => XS.lload X_3.here hx rfl (hb hby at_61) rfl) ?_
        show Go p e below s _ _ _ T_3 (mkF m 63 #[.val (.int nx), .val (.int fx), .val (.long k1), .second, .val (.long v1), .second, .val (.long k2), .second, .val (.long v2), .second, .val (.ref b_1), .val (.int (1 : Int32)), .val (.long (-9223372036854775808 : Int64)), .second, .val (.long k2), .second, .val (.int (3 : Int32)), .unset] [(.long v1), (.long (-9223372036854775808 : Int64)), (.ref b_1)])
        obtain ⟨cq_77, kq_77, q_77a, q_77b, q_77c⟩ := isOf hZ e_3 p_2_2
        obtain ⟨_, _, ⟨T_77, L_77, kc_77, nc_77⟩, -, X_77, ⟨Lc_77, hQ_77, l_77, y_77, z_77⟩, st_77⟩ := X_3.virtualBack hx (y := (⟨"kasane/util/LongLongMap", "put", "(JJ)V"⟩ : MethodName)) (z := (⟨"kasane/util/LongLongMap", "put", "(JJ)V"⟩ : MethodName)) hown (mvT hZ (hw _ (List.mem_of_getElem? (i := 29) rfl))) (mvT hZ (hw _ (List.mem_of_getElem? (i := 30) rfl))) (notFace_of_selects (args := #[]) (mvT hZ (hw _ (List.mem_of_getElem? (i := 32) rfl)))) (mvT hZ (hw _ (List.mem_of_getElem? (i := 32) rfl))) (mvT hZ (hw _ (List.mem_of_getElem? (i := 31) rfl))) (by decide) (backOf (W := 0) (rmPu l Z a0 hw [] b_1 (-9223372036854775808 : Int64) v1 t__2 kt__2 [(-9223372036854775808 : Int64), (0 : Int64), (-9223372036854775808 : Int64), (0 : Int64), (-9223372036854775808 : Int64), (0 : Int64), (-9223372036854775808 : Int64), (0 : Int64), (-9223372036854775808 : Int64), (0 : Int64), (-9223372036854775808 : Int64), (0 : Int64), (-9223372036854775808 : Int64), (0 : Int64), (-9223372036854775808 : Int64), (0 : Int64)] (0 : Int32) (0 : Int32) (0 : Int64) h_2 n0 z_2q p_2_2 p_2_3 p_2_4 p_2_5 p_2_6 vm0 gg_1 p_2_1 ne_b_1_t__2 own_inv0 (by decide)) hZ (hw _ (List.mem_of_getElem? (i := 33) rfl)) (hw _ (List.mem_of_getElem? (i := 2) rfl)) (by decide) (by decide)) q_77a q_77c (g := (mkF m 63 #[.val (.int nx), .val (.int fx), .val (.long k1), .second, .val (.long v1), .second, .val (.long k2), .second, .val (.long v2), .second, .val (.ref b_1), .val (.int (1 : Int32)), .val (.long (-9223372036854775808 : Int64)), .second, .val (.long k2), .second, .val (.int (3 : Int32)), .unset] [(.long v1), (.long (-9223372036854775808 : Int64)), (.ref b_1)])) rfl (by rw [hml]; rfl) (Steps.refl _) (argsL := [(.long (-9223372036854775808 : Int64)), (.long v1)]) (rest := []) (lenOf pd_7 rfl) rfl (by show 2 * 0 + _ ≤ _; exact Nat.le_of_eq rfl) (hb hby at_63) (fun _ _ => ⟨rfl, e_3, (by decide : 2 + 0 ≤ _), (by decide : 20 + 0 ≤ _)⟩)
        dsimp only [Pt.U, Pt.locs, Pt.cells, Pt.slots] at X_77 l_77 y_77 z_77 st_77 hQ_77
        subst l_77 y_77 z_77
        obtain ⟨h_77, e_77⟩ : ∃ hh, T_77.heap = hh := ⟨_, rfl⟩
        rw [e_77] at hQ_77
        obtain ⟨ks2__77, n2__77, f2__77, r2__77, rfl, N_77q, K_77, p_77_0, p_77_1, p_77_2, p_77_3, p_77_4, p_77_5, p_77_6, p_77_7⟩ := hQ_77
        have N_77 := Fr.app N_3 N_77q
        refine Go.st (fun _ kk => st_77.trans kk) ?_
        have z_77q : n0 ≤ h_77.size := Nat.le_trans z_2q K_77.1
        show Go p e below s _ _ _ T_77 (mkF m 66 #[.val (.int nx), .val (.int fx), .val (.long k1), .second, .val (.long v1), .second, .val (.long k2), .second, .val (.long v2), .second, .val (.ref b_1), .val (.int (1 : Int32)), .val (.long (-9223372036854775808 : Int64)), .second, .val (.long k2), .second, .val (.int (3 : Int32)), .unset] [])
        have hle_78 : 1 ≤ n2__77.toInt ∧ n2__77.toInt ≤ 1 := by have q1 := p_77_7; have q2 := (trivial : True); have q3 : (0 : Int32).toInt = 0 := (by decide); omega
        have hk_79 : ¬ (n2__77 = (0 : Int32)) := own_pos hle_78.1
        refine Go.st (fun _ => XS.iload X_77.here hx rfl (hb hby at_66) rfl) ?_
        show Go p e below s _ _ _ T_77 (mkF m 68 #[.val (.int nx), .val (.int fx), .val (.long k1), .second, .val (.long v1), .second, .val (.long k2), .second, .val (.long v2), .second, .val (.ref b_1), .val (.int (1 : Int32)), .val (.long (-9223372036854775808 : Int64)), .second, .val (.long k2), .second, .val (.int (3 : Int32)), .unset] [(.int (3 : Int32))])
        refine Go.st (fun _ => XS.iconst X_77.here hx rfl (hb hby at_68)) ?_
        show Go p e below s _ _ _ T_77 (mkF m 69 #[.val (.int nx), .val (.int fx), .val (.long k1), .second, .val (.long v1), .second, .val (.long k2), .second, .val (.long v2), .second, .val (.ref b_1), .val (.int (1 : Int32)), .val (.long (-9223372036854775808 : Int64)), .second, .val (.long k2), .second, .val (.int (3 : Int32)), .unset] [(.int (2 : Int32)), (.int (3 : Int32))])
        refine Go.st (fun _ => XS.icmpNo X_77.here hx rfl (hb hby at_69) rfl (flt (by decide : ¬ ((3 : Int32) < (2 : Int32)))).1) ?_
        show Go p e below s _ _ _ T_77 (mkF m 72 #[.val (.int nx), .val (.int fx), .val (.long k1), .second, .val (.long v1), .second, .val (.long k2), .second, .val (.long v2), .second, .val (.ref b_1), .val (.int (1 : Int32)), .val (.long (-9223372036854775808 : Int64)), .second, .val (.long k2), .second, .val (.int (3 : Int32)), .unset] [])
        refine Go.st (fun _ => XS.aload X_77.here hx rfl (hb hby at_72) rfl rfl) ?_
        show Go p e below s _ _ _ T_77 (mkF m 74 #[.val (.int nx), .val (.int fx), .val (.long k1), .second, .val (.long v1), .second, .val (.long k2), .second, .val (.long v2), .second, .val (.ref b_1), .val (.int (1 : Int32)), .val (.long (-9223372036854775808 : Int64)), .second, .val (.long k2), .second, .val (.int (3 : Int32)), .unset] [(.ref b_1)])
        refine Go.st (fun _ => XS.lload X_77.here hx rfl (hb hby at_74) rfl) ?_
        show Go p e below s _ _ _ T_77 (mkF m 76 #[.val (.int nx), .val (.int fx), .val (.long k1), .second, .val (.long v1), .second, .val (.long k2), .second, .val (.long v2), .second, .val (.ref b_1), .val (.int (1 : Int32)), .val (.long (-9223372036854775808 : Int64)), .second, .val (.long k2), .second, .val (.int (3 : Int32)), .unset] [(.long k2), (.ref b_1)])
        refine Go.st (fun _ => XS.lload X_77.here hx rfl (hb hby at_76) rfl) ?_
        show Go p e below s _ _ _ T_77 (mkF m 78 #[.val (.int nx), .val (.int fx), .val (.long k1), .second, .val (.long v1), .second, .val (.long k2), .second, .val (.long v2), .second, .val (.ref b_1), .val (.int (1 : Int32)), .val (.long (-9223372036854775808 : Int64)), .second, .val (.long k2), .second, .val (.int (3 : Int32)), .unset] [(.long v2), (.long k2), (.ref b_1)])
        obtain ⟨cq_80, kq_80, q_80a, q_80b, q_80c⟩ := isOf hZ e_77 p_77_0
        obtain ⟨_, _, ⟨T_80, L_80, kc_80, nc_80⟩, -, X_80, ⟨Lc_80, hQ_80, l_80, y_80, z_80⟩, st_80⟩ := X_77.virtualBack hx (y := (⟨"kasane/util/LongLongMap", "put", "(JJ)V"⟩ : MethodName)) (z := (⟨"kasane/util/LongLongMap", "put", "(JJ)V"⟩ : MethodName)) hown (mvT hZ (hw _ (List.mem_of_getElem? (i := 29) rfl))) (mvT hZ (hw _ (List.mem_of_getElem? (i := 30) rfl))) (notFace_of_selects (args := #[]) (mvT hZ (hw _ (List.mem_of_getElem? (i := 32) rfl)))) (mvT hZ (hw _ (List.mem_of_getElem? (i := 32) rfl))) (mvT hZ (hw _ (List.mem_of_getElem? (i := 31) rfl))) (by decide) (backOf (W := 0) (rmPu l Z a0 hw [] b_1 k2 v2 t__2 kt__2 ks2__77 n2__77 f2__77 r2__77 h_77 n0 z_77q p_77_0 p_77_1 p_77_2 p_77_3 p_77_4 p_77_5 gg_1 p_2_1 ne_b_1_t__2 p_77_6 (by have q := hle_78; omega)) hZ (hw _ (List.mem_of_getElem? (i := 33) rfl)) (hw _ (List.mem_of_getElem? (i := 2) rfl)) (by decide) (by decide)) q_80a q_80c (g := (mkF m 78 #[.val (.int nx), .val (.int fx), .val (.long k1), .second, .val (.long v1), .second, .val (.long k2), .second, .val (.long v2), .second, .val (.ref b_1), .val (.int (1 : Int32)), .val (.long (-9223372036854775808 : Int64)), .second, .val (.long k2), .second, .val (.int (3 : Int32)), .unset] [(.long v2), (.long k2), (.ref b_1)])) rfl (by rw [hml]; rfl) (Steps.refl _) (argsL := [(.long k2), (.long v2)]) (rest := []) (lenOf pd_7 rfl) rfl (by show 2 * 0 + _ ≤ _; exact Nat.le_of_eq rfl) (hb hby at_78) (fun _ _ => ⟨rfl, e_77, (by decide : 2 + 0 ≤ _), (by decide : 20 + 0 ≤ _)⟩)
        dsimp only [Pt.U, Pt.locs, Pt.cells, Pt.slots] at X_80 l_80 y_80 z_80 st_80 hQ_80
        subst l_80 y_80 z_80
        obtain ⟨h_80, e_80⟩ : ∃ hh, T_80.heap = hh := ⟨_, rfl⟩
        rw [e_80] at hQ_80
        obtain ⟨ks2__80, n2__80, f2__80, r2__80, rfl, N_80q, K_80, p_80_0, p_80_1, p_80_2, p_80_3, p_80_4, p_80_5, p_80_6, p_80_7⟩ := hQ_80
        have N_80 := Fr.app N_77 N_80q
        refine Go.st (fun _ kk => st_80.trans kk) ?_
        have z_80q : n0 ≤ h_80.size := Nat.le_trans z_77q K_80.1
        show Go p e below s _ _ _ T_80 (mkF m 81 #[.val (.int nx), .val (.int fx), .val (.long k1), .second, .val (.long v1), .second, .val (.long k2), .second, .val (.long v2), .second, .val (.ref b_1), .val (.int (1 : Int32)), .val (.long (-9223372036854775808 : Int64)), .second, .val (.long k2), .second, .val (.int (3 : Int32)), .unset] [])
        have hle_81 : 1 ≤ n2__80.toInt ∧ n2__80.toInt ≤ 2 := by have q1 := p_80_7; have q2 := hle_78; omega
        have hk_82 : ¬ (n2__80 = (0 : Int32)) := own_pos hle_81.1
        refine Go.st (fun _ => XS.iload X_80.here hx rfl (hb hby at_81) rfl) ?_
        show Go p e below s _ _ _ T_80 (mkF m 83 #[.val (.int nx), .val (.int fx), .val (.long k1), .second, .val (.long v1), .second, .val (.long k2), .second, .val (.long v2), .second, .val (.ref b_1), .val (.int (1 : Int32)), .val (.long (-9223372036854775808 : Int64)), .second, .val (.long k2), .second, .val (.int (3 : Int32)), .unset] [(.int (3 : Int32))])
        refine Go.st (fun _ => XS.iconst X_80.here hx rfl (hb hby at_83)) ?_
        show Go p e below s _ _ _ T_80 (mkF m 84 #[.val (.int nx), .val (.int fx), .val (.long k1), .second, .val (.long v1), .second, .val (.long k2), .second, .val (.long v2), .second, .val (.ref b_1), .val (.int (1 : Int32)), .val (.long (-9223372036854775808 : Int64)), .second, .val (.long k2), .second, .val (.int (3 : Int32)), .unset] [(.int (3 : Int32)), (.int (3 : Int32))])
        refine Go.st (fun _ => XS.icmpNo X_80.here hx rfl (hb hby at_84) rfl (flt (by decide : ¬ ((3 : Int32) < (3 : Int32)))).1) ?_
        show Go p e below s _ _ _ T_80 (mkF m 87 #[.val (.int nx), .val (.int fx), .val (.long k1), .second, .val (.long v1), .second, .val (.long k2), .second, .val (.long v2), .second, .val (.ref b_1), .val (.int (1 : Int32)), .val (.long (-9223372036854775808 : Int64)), .second, .val (.long k2), .second, .val (.int (3 : Int32)), .unset] [])
        refine Go.st (fun _ => XS.aload X_80.here hx rfl (hb hby at_87) rfl rfl) ?_
        show Go p e below s _ _ _ T_80 (mkF m 89 #[.val (.int nx), .val (.int fx), .val (.long k1), .second, .val (.long v1), .second, .val (.long k2), .second, .val (.long v2), .second, .val (.ref b_1), .val (.int (1 : Int32)), .val (.long (-9223372036854775808 : Int64)), .second, .val (.long k2), .second, .val (.int (3 : Int32)), .unset] [(.ref b_1)])
        refine Go.st (fun _ => XS.lload X_80.here hx rfl (hb hby at_89) rfl) ?_
        show Go p e below s _ _ _ T_80 (mkF m 91 #[.val (.int nx), .val (.int fx), .val (.long k1), .second, .val (.long v1), .second, .val (.long k2), .second, .val (.long v2), .second, .val (.ref b_1), .val (.int (1 : Int32)), .val (.long (-9223372036854775808 : Int64)), .second, .val (.long k2), .second, .val (.int (3 : Int32)), .unset] [(.long k2), (.ref b_1)])
        refine Go.st (fun _ => XS.lload X_80.here hx rfl (hb hby at_91) rfl) ?_
        show Go p e below s _ _ _ T_80 (mkF m 93 #[.val (.int nx), .val (.int fx), .val (.long k1), .second, .val (.long v1), .second, .val (.long k2), .second, .val (.long v2), .second, .val (.ref b_1), .val (.int (1 : Int32)), .val (.long (-9223372036854775808 : Int64)), .second, .val (.long k2), .second, .val (.int (3 : Int32)), .unset] [(.long v1), (.long k2), (.ref b_1)])
        obtain ⟨cq_83, kq_83, q_83a, q_83b, q_83c⟩ := isOf hZ e_80 p_80_0
        obtain ⟨_, _, ⟨T_83, L_83, kc_83, nc_83⟩, -, X_83, ⟨Lc_83, hQ_83, l_83, y_83, z_83⟩, st_83⟩ := X_80.virtualBack hx (y := (⟨"kasane/util/LongLongMap", "put", "(JJ)V"⟩ : MethodName)) (z := (⟨"kasane/util/LongLongMap", "put", "(JJ)V"⟩ : MethodName)) hown (mvT hZ (hw _ (List.mem_of_getElem? (i := 29) rfl))) (mvT hZ (hw _ (List.mem_of_getElem? (i := 30) rfl))) (notFace_of_selects (args := #[]) (mvT hZ (hw _ (List.mem_of_getElem? (i := 32) rfl)))) (mvT hZ (hw _ (List.mem_of_getElem? (i := 32) rfl))) (mvT hZ (hw _ (List.mem_of_getElem? (i := 31) rfl))) (by decide) (backOf (W := 0) (rmPu l Z a0 hw [] b_1 k2 v1 t__2 kt__2 ks2__80 n2__80 f2__80 r2__80 h_80 n0 z_80q p_80_0 p_80_1 p_80_2 p_80_3 p_80_4 p_80_5 gg_1 p_2_1 ne_b_1_t__2 p_80_6 (by have q := hle_81; omega)) hZ (hw _ (List.mem_of_getElem? (i := 33) rfl)) (hw _ (List.mem_of_getElem? (i := 2) rfl)) (by decide) (by decide)) q_83a q_83c (g := (mkF m 93 #[.val (.int nx), .val (.int fx), .val (.long k1), .second, .val (.long v1), .second, .val (.long k2), .second, .val (.long v2), .second, .val (.ref b_1), .val (.int (1 : Int32)), .val (.long (-9223372036854775808 : Int64)), .second, .val (.long k2), .second, .val (.int (3 : Int32)), .unset] [(.long v1), (.long k2), (.ref b_1)])) rfl (by rw [hml]; rfl) (Steps.refl _) (argsL := [(.long k2), (.long v1)]) (rest := []) (lenOf pd_7 rfl) rfl (by show 2 * 0 + _ ≤ _; exact Nat.le_of_eq rfl) (hb hby at_93) (fun _ _ => ⟨rfl, e_80, (by decide : 2 + 0 ≤ _), (by decide : 20 + 0 ≤ _)⟩)
        dsimp only [Pt.U, Pt.locs, Pt.cells, Pt.slots] at X_83 l_83 y_83 z_83 st_83 hQ_83
        subst l_83 y_83 z_83
        obtain ⟨h_83, e_83⟩ : ∃ hh, T_83.heap = hh := ⟨_, rfl⟩
        rw [e_83] at hQ_83
        obtain ⟨ks2__83, n2__83, f2__83, r2__83, rfl, N_83q, K_83, p_83_0, p_83_1, p_83_2, p_83_3, p_83_4, p_83_5, p_83_6, p_83_7⟩ := hQ_83
        have N_83 := Fr.app N_80 N_83q
        refine Go.st (fun _ kk => st_83.trans kk) ?_
        have z_83q : n0 ≤ h_83.size := Nat.le_trans z_80q K_83.1
        show Go p e below s _ _ _ T_83 (mkF m 96 #[.val (.int nx), .val (.int fx), .val (.long k1), .second, .val (.long v1), .second, .val (.long k2), .second, .val (.long v2), .second, .val (.ref b_1), .val (.int (1 : Int32)), .val (.long (-9223372036854775808 : Int64)), .second, .val (.long k2), .second, .val (.int (3 : Int32)), .unset] [])
        have hle_84 : 1 ≤ n2__83.toInt ∧ n2__83.toInt ≤ 3 := by have q1 := p_83_7; have q2 := hle_81; omega
        have hk_85 : ¬ (n2__83 = (0 : Int32)) := own_pos hle_84.1
        refine Go.st (fun _ => XS.aload X_83.here hx rfl (hb hby at_96) rfl rfl) ?_
        show Go p e below s _ _ _ T_83 (mkF m 98 #[.val (.int nx), .val (.int fx), .val (.long k1), .second, .val (.long v1), .second, .val (.long k2), .second, .val (.long v2), .second, .val (.ref b_1), .val (.int (1 : Int32)), .val (.long (-9223372036854775808 : Int64)), .second, .val (.long k2), .second, .val (.int (3 : Int32)), .unset] [(.ref b_1)])
        obtain ⟨cq_86, kq_86, q_86a, q_86b, q_86c⟩ := isOf hZ e_83 p_83_0
        obtain ⟨_, _, ⟨T_86, L_86, kc_86, nc_86⟩, -, X_86, ⟨Lc_86, hQ_86, l_86, y_86, z_86⟩, st_86⟩ := X_83.virtualBack hx (y := (⟨"kasane/util/LongLongMap", "isEmpty", "()Z"⟩ : MethodName)) (z := (⟨"kasane/util/LongLongMap", "isEmpty", "()Z"⟩ : MethodName)) hown (mvT hZ (hw _ (List.mem_of_getElem? (i := 16) rfl))) (mvT hZ (hw _ (List.mem_of_getElem? (i := 17) rfl))) (notFace_of_selects (args := #[]) (mvT hZ (hw _ (List.mem_of_getElem? (i := 19) rfl)))) (mvT hZ (hw _ (List.mem_of_getElem? (i := 19) rfl))) (mvT hZ (hw _ (List.mem_of_getElem? (i := 18) rfl))) (by decide) (backOf (W := 0) (rmEm l Z a0 hw [] b_1 n2__83 h_83 n0 z_83q p_83_2) hZ (hw _ (List.mem_of_getElem? (i := 20) rfl)) (hw _ (List.mem_of_getElem? (i := 2) rfl)) (by decide) (by decide)) q_86a q_86c (g := (mkF m 98 #[.val (.int nx), .val (.int fx), .val (.long k1), .second, .val (.long v1), .second, .val (.long k2), .second, .val (.long v2), .second, .val (.ref b_1), .val (.int (1 : Int32)), .val (.long (-9223372036854775808 : Int64)), .second, .val (.long k2), .second, .val (.int (3 : Int32)), .unset] [(.ref b_1)])) rfl (by rw [hml]; rfl) (Steps.refl _) (argsL := []) (rest := []) (lenOf pd_6 rfl) rfl (by show 2 * 0 + _ ≤ _; exact Nat.le_of_eq rfl) (hb hby at_98) (fun _ _ => ⟨rfl, e_83, (by decide : 2 + 0 ≤ _), (by decide : 20 + 0 ≤ _)⟩)
        dsimp only [Pt.U, Pt.locs, Pt.cells, Pt.slots] at X_86 l_86 y_86 z_86 st_86 hQ_86
        subst l_86 y_86 z_86
        obtain ⟨h_86, e_86⟩ : ∃ hh, T_86.heap = hh := ⟨_, rfl⟩
        rw [e_86] at hQ_86
        obtain ⟨rfl, N_86q, sm_86⟩ := hQ_86
        have N_86 := Fr.app N_83 N_86q
        refine Go.st (fun _ kk => st_86.trans kk) ?_
        rw [sm_86] at e_86
        show Go p e below s _ _ _ T_86 (mkF m 101 #[.val (.int nx), .val (.int fx), .val (.long k1), .second, .val (.long v1), .second, .val (.long k2), .second, .val (.long v2), .second, .val (.ref b_1), .val (.int (1 : Int32)), .val (.long (-9223372036854775808 : Int64)), .second, .val (.long k2), .second, .val (.int (3 : Int32)), .unset] [(.int (b2i (n2__83 = (0 : Int32))))])
        rw [show (b2i (n2__83 = (0 : Int32))) = (0 : Int32) from b2i_neg hk_85]
        show Go p e below s _ _ _ T_86 (mkF m 101 #[.val (.int nx), .val (.int fx), .val (.long k1), .second, .val (.long v1), .second, .val (.long k2), .second, .val (.long v2), .second, .val (.ref b_1), .val (.int (1 : Int32)), .val (.long (-9223372036854775808 : Int64)), .second, .val (.long k2), .second, .val (.int (3 : Int32)), .unset] [(.int (0 : Int32))])
        refine Go.st (fun _ => XS.istore X_86.here hx rfl (hb hby at_101) rfl (l' := #[.val (.int nx), .val (.int fx), .val (.long k1), .second, .val (.long v1), .second, .val (.long k2), .second, .val (.long v2), .second, .val (.ref b_1), .val (.int (1 : Int32)), .val (.long (-9223372036854775808 : Int64)), .second, .val (.long k2), .second, .val (.int (3 : Int32)), .val (.int (0 : Int32))]) rfl) ?_
        show Go p e below s _ _ _ T_86 (mkF m 103 #[.val (.int nx), .val (.int fx), .val (.long k1), .second, .val (.long v1), .second, .val (.long k2), .second, .val (.long v2), .second, .val (.ref b_1), .val (.int (1 : Int32)), .val (.long (-9223372036854775808 : Int64)), .second, .val (.long k2), .second, .val (.int (3 : Int32)), .val (.int (0 : Int32))] [])
        refine Go.st (fun _ => XS.iload X_86.here hx rfl (hb hby at_103) rfl) ?_
        show Go p e below s _ _ _ T_86 (mkF m 105 #[.val (.int nx), .val (.int fx), .val (.long k1), .second, .val (.long v1), .second, .val (.long k2), .second, .val (.long v2), .second, .val (.ref b_1), .val (.int (1 : Int32)), .val (.long (-9223372036854775808 : Int64)), .second, .val (.long k2), .second, .val (.int (3 : Int32)), .val (.int (0 : Int32))] [(.int (1 : Int32))])
        refine Go.st (fun _ => XS.ifNo X_86.here hx rfl (hb hby at_105) rfl ((if0 _ _).trans (feq (by decide : ¬ ((1 : Int32) = (0 : Int32)))).1)) ?_
        show Go p e below s _ _ _ T_86 (mkF m 108 #[.val (.int nx), .val (.int fx), .val (.long k1), .second, .val (.long v1), .second, .val (.long k2), .second, .val (.long v2), .second, .val (.ref b_1), .val (.int (1 : Int32)), .val (.long (-9223372036854775808 : Int64)), .second, .val (.long k2), .second, .val (.int (3 : Int32)), .val (.int (0 : Int32))] [])
        refine Go.st (fun _ => XS.iload X_86.here hx rfl (hb hby at_108) rfl) ?_
        show Go p e below s _ _ _ T_86 (mkF m 110 #[.val (.int nx), .val (.int fx), .val (.long k1), .second, .val (.long v1), .second, .val (.long k2), .second, .val (.long v2), .second, .val (.ref b_1), .val (.int (1 : Int32)), .val (.long (-9223372036854775808 : Int64)), .second, .val (.long k2), .second, .val (.int (3 : Int32)), .val (.int (0 : Int32))] [(.int (0 : Int32))])
        refine Go.st (fun _ => XS.iload X_86.here hx rfl (hb hby at_110) rfl) ?_
        show Go p e below s _ _ _ T_86 (mkF m 112 #[.val (.int nx), .val (.int fx), .val (.long k1), .second, .val (.long v1), .second, .val (.long k2), .second, .val (.long v2), .second, .val (.ref b_1), .val (.int (1 : Int32)), .val (.long (-9223372036854775808 : Int64)), .second, .val (.long k2), .second, .val (.int (3 : Int32)), .val (.int (0 : Int32))] [(.int (3 : Int32)), (.int (0 : Int32))])
        refine Go.st (fun _ => XS.ifYes X_86.here hx rfl (pc0 := 112) (pc' := 119) rfl (hb hby at_112) rfl ((if0 _ _).trans (feq (by decide : ¬ ((3 : Int32) = (0 : Int32)))).2) (by decide) (by decide)) ?_
        show Go p e below s _ _ _ T_86 (mkF m 119 #[.val (.int nx), .val (.int fx), .val (.long k1), .second, .val (.long v1), .second, .val (.long k2), .second, .val (.long v2), .second, .val (.ref b_1), .val (.int (1 : Int32)), .val (.long (-9223372036854775808 : Int64)), .second, .val (.long k2), .second, .val (.int (3 : Int32)), .val (.int (0 : Int32))] [(.int (0 : Int32))])
        refine Go.st (fun _ => XS.iconst X_86.here hx rfl (hb hby at_119)) ?_
        show Go p e below s _ _ _ T_86 (mkF m 120 #[.val (.int nx), .val (.int fx), .val (.long k1), .second, .val (.long v1), .second, .val (.long k2), .second, .val (.long v2), .second, .val (.ref b_1), .val (.int (1 : Int32)), .val (.long (-9223372036854775808 : Int64)), .second, .val (.long k2), .second, .val (.int (3 : Int32)), .val (.int (0 : Int32))] [(.int (0 : Int32)), (.int (0 : Int32))])
        refine Go.st (fun _ => XS.icmpNo X_86.here hx rfl (hb hby at_120) rfl (teq (by decide : (0 : Int32) = (0 : Int32))).2) ?_
        show Go p e below s _ _ _ T_86 (mkF m 123 #[.val (.int nx), .val (.int fx), .val (.long k1), .second, .val (.long v1), .second, .val (.long k2), .second, .val (.long v2), .second, .val (.ref b_1), .val (.int (1 : Int32)), .val (.long (-9223372036854775808 : Int64)), .second, .val (.long k2), .second, .val (.int (3 : Int32)), .val (.int (0 : Int32))] [])
        refine Go.st (fun _ => XS.iload X_86.here hx rfl (hb hby at_123) rfl) ?_
        show Go p e below s _ _ _ T_86 (mkF m 125 #[.val (.int nx), .val (.int fx), .val (.long k1), .second, .val (.long v1), .second, .val (.long k2), .second, .val (.long v2), .second, .val (.ref b_1), .val (.int (1 : Int32)), .val (.long (-9223372036854775808 : Int64)), .second, .val (.long k2), .second, .val (.int (3 : Int32)), .val (.int (0 : Int32))] [(.int (0 : Int32))])
        refine Go.st (fun _ => XS.aload X_86.here hx rfl (hb hby at_125) rfl rfl) ?_
        show Go p e below s _ _ _ T_86 (mkF m 127 #[.val (.int nx), .val (.int fx), .val (.long k1), .second, .val (.long v1), .second, .val (.long k2), .second, .val (.long v2), .second, .val (.ref b_1), .val (.int (1 : Int32)), .val (.long (-9223372036854775808 : Int64)), .second, .val (.long k2), .second, .val (.int (3 : Int32)), .val (.int (0 : Int32))] [(.ref b_1), (.int (0 : Int32))])
        obtain ⟨cq_87, kq_87, q_87a, q_87b, q_87c⟩ := isOf hZ e_86 p_83_0
        obtain ⟨_, _, ⟨T_87, L_87, kc_87, nc_87⟩, -, X_87, ⟨Lc_87, hQ_87, l_87, y_87, z_87⟩, st_87⟩ := X_86.virtualBack hx (y := (⟨"kasane/util/LongLongMap", "size", "()I"⟩ : MethodName)) (z := (⟨"kasane/util/LongLongMap", "size", "()I"⟩ : MethodName)) hown (mvT hZ (hw _ (List.mem_of_getElem? (i := 24) rfl))) (mvT hZ (hw _ (List.mem_of_getElem? (i := 25) rfl))) (notFace_of_selects (args := #[]) (mvT hZ (hw _ (List.mem_of_getElem? (i := 27) rfl)))) (mvT hZ (hw _ (List.mem_of_getElem? (i := 27) rfl))) (mvT hZ (hw _ (List.mem_of_getElem? (i := 26) rfl))) (by decide) (backOf (W := 1) (rmSz l Z a0 hw [] b_1 n2__83 h_83 n0 z_83q p_83_2) hZ (hw _ (List.mem_of_getElem? (i := 28) rfl)) (hw _ (List.mem_of_getElem? (i := 2) rfl)) (by decide) (by decide)) q_87a q_87c (g := (mkF m 127 #[.val (.int nx), .val (.int fx), .val (.long k1), .second, .val (.long v1), .second, .val (.long k2), .second, .val (.long v2), .second, .val (.ref b_1), .val (.int (1 : Int32)), .val (.long (-9223372036854775808 : Int64)), .second, .val (.long k2), .second, .val (.int (3 : Int32)), .val (.int (0 : Int32))] [(.ref b_1), (.int (0 : Int32))])) rfl (by rw [hml]; rfl) (Steps.refl _) (argsL := []) (rest := [(.int (0 : Int32))]) (lenOf pd_2 rfl) rfl (by show 2 * 0 + _ ≤ _; exact Nat.le_of_eq rfl) (hb hby at_127) (fun _ _ => ⟨rfl, e_86, (by decide : 2 + 0 ≤ _), (by decide : 20 + 0 ≤ _)⟩)
        dsimp only [Pt.U, Pt.locs, Pt.cells, Pt.slots] at X_87 l_87 y_87 z_87 st_87 hQ_87
        subst l_87 y_87 z_87
        obtain ⟨h_87, e_87⟩ : ∃ hh, T_87.heap = hh := ⟨_, rfl⟩
        rw [e_87] at hQ_87
        obtain ⟨rfl, N_87q, sm_87⟩ := hQ_87
        have N_87 := Fr.app N_86 N_87q
        refine Go.st (fun _ kk => st_87.trans kk) ?_
        rw [sm_87] at e_87
        show Go p e below s _ _ _ T_87 (mkF m 130 #[.val (.int nx), .val (.int fx), .val (.long k1), .second, .val (.long v1), .second, .val (.long k2), .second, .val (.long v2), .second, .val (.ref b_1), .val (.int (1 : Int32)), .val (.long (-9223372036854775808 : Int64)), .second, .val (.long k2), .second, .val (.int (3 : Int32)), .val (.int (0 : Int32))] [(.int n2__83), (.int (0 : Int32))])
        refine Go.st (fun _ => XS.ifYes X_87.here hx rfl (pc0 := 130) (pc' := 137) rfl (hb hby at_130) rfl ((if0 _ _).trans (feq hk_85).2) (by decide) (by decide)) ?_
        show Go p e below s _ _ _ T_87 (mkF m 137 #[.val (.int nx), .val (.int fx), .val (.long k1), .second, .val (.long v1), .second, .val (.long k2), .second, .val (.long v2), .second, .val (.ref b_1), .val (.int (1 : Int32)), .val (.long (-9223372036854775808 : Int64)), .second, .val (.long k2), .second, .val (.int (3 : Int32)), .val (.int (0 : Int32))] [(.int (0 : Int32))])
        refine Go.st (fun _ => XS.iconst X_87.here hx rfl (hb hby at_137)) ?_
        show Go p e below s _ _ _ T_87 (mkF m 138 #[.val (.int nx), .val (.int fx), .val (.long k1), .second, .val (.long v1), .second, .val (.long k2), .second, .val (.long v2), .second, .val (.ref b_1), .val (.int (1 : Int32)), .val (.long (-9223372036854775808 : Int64)), .second, .val (.long k2), .second, .val (.int (3 : Int32)), .val (.int (0 : Int32))] [(.int (0 : Int32)), (.int (0 : Int32))])
        refine Go.st (fun _ => XS.icmpNo X_87.here hx rfl (hb hby at_138) rfl (teq (by decide : (0 : Int32) = (0 : Int32))).2) ?_
        show Go p e below s _ _ _ T_87 (mkF m 141 #[.val (.int nx), .val (.int fx), .val (.long k1), .second, .val (.long v1), .second, .val (.long k2), .second, .val (.long v2), .second, .val (.ref b_1), .val (.int (1 : Int32)), .val (.long (-9223372036854775808 : Int64)), .second, .val (.long k2), .second, .val (.int (3 : Int32)), .val (.int (0 : Int32))] [])
        refine Go.st (fun _ => XS.iconst X_87.here hx rfl (hb hby at_141)) ?_
        show Go p e below s _ _ _ T_87 (mkF m 142 #[.val (.int nx), .val (.int fx), .val (.long k1), .second, .val (.long v1), .second, .val (.long k2), .second, .val (.long v2), .second, .val (.ref b_1), .val (.int (1 : Int32)), .val (.long (-9223372036854775808 : Int64)), .second, .val (.long k2), .second, .val (.int (3 : Int32)), .val (.int (0 : Int32))] [(.int (1 : Int32))])
        refine Go.st (fun _ => XS.goto X_87.here hx rfl (pc0 := 142) (pc' := 146) rfl (hb hby at_142) (by decide) (by decide)) ?_
        show Go p e below s _ _ _ T_87 (mkF m 146 #[.val (.int nx), .val (.int fx), .val (.long k1), .second, .val (.long v1), .second, .val (.long k2), .second, .val (.long v2), .second, .val (.ref b_1), .val (.int (1 : Int32)), .val (.long (-9223372036854775808 : Int64)), .second, .val (.long k2), .second, .val (.int (3 : Int32)), .val (.int (0 : Int32))] [(.int (1 : Int32))])
        exact Go.retZ X_87 hx hlk Bd.returns (hb hby at_146) rfl (by rw [e_87]; exact ⟨rfl, N_87⟩) (by decide) (by decide)
    · refine Go.st (fun _ => XS.ifNo X_3.here hx rfl (hb hby at_34) rfl ((if0 _ _).trans (feq hc_60).1)) ?_
      show Go p e below s _ _ _ T_3 (mkF m 37 #[.val (.int nx), .val (.int fx), .val (.long k1), .second, .val (.long v1), .second, .val (.long k2), .second, .val (.long v2), .second, .val (.ref b_1), .val (.int (1 : Int32)), .val (.long (-9223372036854775808 : Int64)), .second, .unset, .unset, .unset, .unset] [])
      refine Go.st (fun _ => XS.lload X_3.here hx rfl (hb hby at_37) rfl) ?_
      show Go p e below s _ _ _ T_3 (mkF m 39 #[.val (.int nx), .val (.int fx), .val (.long k1), .second, .val (.long v1), .second, .val (.long k2), .second, .val (.long v2), .second, .val (.ref b_1), .val (.int (1 : Int32)), .val (.long (-9223372036854775808 : Int64)), .second, .unset, .unset, .unset, .unset] [(.long (-9223372036854775808 : Int64))])
      refine Go.st (fun _ => XS.goto X_3.here hx rfl (pc0 := 39) (pc' := 44) rfl (hb hby at_39) (by decide) (by decide)) ?_
      show Go p e below s _ _ _ T_3 (mkF m 44 #[.val (.int nx), .val (.int fx), .val (.long k1), .second, .val (.long v1), .second, .val (.long k2), .second, .val (.long v2), .second, .val (.ref b_1), .val (.int (1 : Int32)), .val (.long (-9223372036854775808 : Int64)), .second, .unset, .unset, .unset, .unset] [(.long (-9223372036854775808 : Int64))])
      refine Go.st (fun _ => XS.lstore X_3.here hx rfl (hb hby at_44) rfl (l' := #[.val (.int nx), .val (.int fx), .val (.long k1), .second, .val (.long v1), .second, .val (.long k2), .second, .val (.long v2), .second, .val (.ref b_1), .val (.int (1 : Int32)), .val (.long (-9223372036854775808 : Int64)), .second, .val (.long (-9223372036854775808 : Int64)), .second, .unset, .unset]) rfl) ?_
      show Go p e below s _ _ _ T_3 (mkF m 46 #[.val (.int nx), .val (.int fx), .val (.long k1), .second, .val (.long v1), .second, .val (.long k2), .second, .val (.long v2), .second, .val (.ref b_1), .val (.int (1 : Int32)), .val (.long (-9223372036854775808 : Int64)), .second, .val (.long (-9223372036854775808 : Int64)), .second, .unset, .unset] [])
      refine Go.st (fun _ => XS.iloadN X_3.here hx rfl (hb hby at_46) rfl) ?_
      show Go p e below s _ _ _ T_3 (mkF m 47 #[.val (.int nx), .val (.int fx), .val (.long k1), .second, .val (.long v1), .second, .val (.long k2), .second, .val (.long v2), .second, .val (.ref b_1), .val (.int (1 : Int32)), .val (.long (-9223372036854775808 : Int64)), .second, .val (.long (-9223372036854775808 : Int64)), .second, .unset, .unset] [(.int nx)])
      refine Go.st (fun _ => XS.iconst X_3.here hx rfl (hb hby at_47)) ?_
      show Go p e below s _ _ _ T_3 (mkF m 48 #[.val (.int nx), .val (.int fx), .val (.long k1), .second, .val (.long v1), .second, .val (.long k2), .second, .val (.long v2), .second, .val (.ref b_1), .val (.int (1 : Int32)), .val (.long (-9223372036854775808 : Int64)), .second, .val (.long (-9223372036854775808 : Int64)), .second, .unset, .unset] [(.int (3 : Int32)), (.int nx)])
      refine Go.st (fun _ => XS.iand X_3.here hx rfl (hb hby at_48) rfl) ?_
      show Go p e below s _ _ _ T_3 (mkF m 49 #[.val (.int nx), .val (.int fx), .val (.long k1), .second, .val (.long v1), .second, .val (.long k2), .second, .val (.long v2), .second, .val (.ref b_1), .val (.int (1 : Int32)), .val (.long (-9223372036854775808 : Int64)), .second, .val (.long (-9223372036854775808 : Int64)), .second, .unset, .unset] [(.int (nx &&& (3 : Int32)))])
      rcases own_and3 nx with hd_88 | hd_88 | hd_88 | hd_88
      · rw [show (nx &&& (3 : Int32)) = (0 : Int32) from hd_88]
        show Go p e below s _ _ _ T_3 (mkF m 49 #[.val (.int nx), .val (.int fx), .val (.long k1), .second, .val (.long v1), .second, .val (.long k2), .second, .val (.long v2), .second, .val (.ref b_1), .val (.int (1 : Int32)), .val (.long (-9223372036854775808 : Int64)), .second, .val (.long (-9223372036854775808 : Int64)), .second, .unset, .unset] [(.int (0 : Int32))])
        refine Go.st (fun _ => XS.istore X_3.here hx rfl (hb hby at_49) rfl (l' := #[.val (.int nx), .val (.int fx), .val (.long k1), .second, .val (.long v1), .second, .val (.long k2), .second, .val (.long v2), .second, .val (.ref b_1), .val (.int (1 : Int32)), .val (.long (-9223372036854775808 : Int64)), .second, .val (.long (-9223372036854775808 : Int64)), .second, .val (.int (0 : Int32)), .unset]) rfl) ?_
        show Go p e below s _ _ _ T_3 (mkF m 51 #[.val (.int nx), .val (.int fx), .val (.long k1), .second, .val (.long v1), .second, .val (.long k2), .second, .val (.long v2), .second, .val (.ref b_1), .val (.int (1 : Int32)), .val (.long (-9223372036854775808 : Int64)), .second, .val (.long (-9223372036854775808 : Int64)), .second, .val (.int (0 : Int32)), .unset] [])
        refine Go.st (fun _ => XS.iload X_3.here hx rfl (hb hby at_51) rfl) ?_
        show Go p e below s _ _ _ T_3 (mkF m 53 #[.val (.int nx), .val (.int fx), .val (.long k1), .second, .val (.long v1), .second, .val (.long k2), .second, .val (.long v2), .second, .val (.ref b_1), .val (.int (1 : Int32)), .val (.long (-9223372036854775808 : Int64)), .second, .val (.long (-9223372036854775808 : Int64)), .second, .val (.int (0 : Int32)), .unset] [(.int (0 : Int32))])
        refine Go.st (fun _ => XS.iconst X_3.here hx rfl (hb hby at_53)) ?_
        show Go p e below s _ _ _ T_3 (mkF m 54 #[.val (.int nx), .val (.int fx), .val (.long k1), .second, .val (.long v1), .second, .val (.long k2), .second, .val (.long v2), .second, .val (.ref b_1), .val (.int (1 : Int32)), .val (.long (-9223372036854775808 : Int64)), .second, .val (.long (-9223372036854775808 : Int64)), .second, .val (.int (0 : Int32)), .unset] [(.int (1 : Int32)), (.int (0 : Int32))])
        refine Go.st (fun _ => XS.icmpYes X_3.here hx rfl (pc0 := 54) (pc' := 66) rfl (hb hby at_54) rfl (tlt (by decide : (0 : Int32) < (1 : Int32))).1 (by decide) (by decide)) ?_
        show Go p e below s _ _ _ T_3 (mkF m 66 #[.val (.int nx), .val (.int fx), .val (.long k1), .second, .val (.long v1), .second, .val (.long k2), .second, .val (.long v2), .second, .val (.ref b_1), .val (.int (1 : Int32)), .val (.long (-9223372036854775808 : Int64)), .second, .val (.long (-9223372036854775808 : Int64)), .second, .val (.int (0 : Int32)), .unset] [])
        refine Go.st (fun _ => XS.iload X_3.here hx rfl (hb hby at_66) rfl) ?_
        show Go p e below s _ _ _ T_3 (mkF m 68 #[.val (.int nx), .val (.int fx), .val (.long k1), .second, .val (.long v1), .second, .val (.long k2), .second, .val (.long v2), .second, .val (.ref b_1), .val (.int (1 : Int32)), .val (.long (-9223372036854775808 : Int64)), .second, .val (.long (-9223372036854775808 : Int64)), .second, .val (.int (0 : Int32)), .unset] [(.int (0 : Int32))])
        refine Go.st (fun _ => XS.iconst X_3.here hx rfl (hb hby at_68)) ?_
        show Go p e below s _ _ _ T_3 (mkF m 69 #[.val (.int nx), .val (.int fx), .val (.long k1), .second, .val (.long v1), .second, .val (.long k2), .second, .val (.long v2), .second, .val (.ref b_1), .val (.int (1 : Int32)), .val (.long (-9223372036854775808 : Int64)), .second, .val (.long (-9223372036854775808 : Int64)), .second, .val (.int (0 : Int32)), .unset] [(.int (2 : Int32)), (.int (0 : Int32))])
        refine Go.st (fun _ => XS.icmpYes X_3.here hx rfl (pc0 := 69) (pc' := 81) rfl (hb hby at_69) rfl (tlt (by decide : (0 : Int32) < (2 : Int32))).1 (by decide) (by decide)) ?_
        show Go p e below s _ _ _ T_3 (mkF m 81 #[.val (.int nx), .val (.int fx), .val (.long k1), .second, .val (.long v1), .second, .val (.long k2), .second, .val (.long v2), .second, .val (.ref b_1), .val (.int (1 : Int32)), .val (.long (-9223372036854775808 : Int64)), .second, .val (.long (-9223372036854775808 : Int64)), .second, .val (.int (0 : Int32)), .unset] [])
        refine Go.st (fun _ => XS.iload X_3.here hx rfl (hb hby at_81) rfl) ?_
        show Go p e below s _ _ _ T_3 (mkF m 83 #[.val (.int nx), .val (.int fx), .val (.long k1), .second, .val (.long v1), .second, .val (.long k2), .second, .val (.long v2), .second, .val (.ref b_1), .val (.int (1 : Int32)), .val (.long (-9223372036854775808 : Int64)), .second, .val (.long (-9223372036854775808 : Int64)), .second, .val (.int (0 : Int32)), .unset] [(.int (0 : Int32))])
        refine Go.st (fun _ => XS.iconst X_3.here hx rfl (hb hby at_83)) ?_
        show Go p e below s _ _ _ T_3 (mkF m 84 #[.val (.int nx), .val (.int fx), .val (.long k1), .second, .val (.long v1), .second, .val (.long k2), .second, .val (.long v2), .second, .val (.ref b_1), .val (.int (1 : Int32)), .val (.long (-9223372036854775808 : Int64)), .second, .val (.long (-9223372036854775808 : Int64)), .second, .val (.int (0 : Int32)), .unset] [(.int (3 : Int32)), (.int (0 : Int32))])
        refine Go.st (fun _ => XS.icmpYes X_3.here hx rfl (pc0 := 84) (pc' := 96) rfl (hb hby at_84) rfl (tlt (by decide : (0 : Int32) < (3 : Int32))).1 (by decide) (by decide)) ?_
        show Go p e below s _ _ _ T_3 (mkF m 96 #[.val (.int nx), .val (.int fx), .val (.long k1), .second, .val (.long v1), .second, .val (.long k2), .second, .val (.long v2), .second, .val (.ref b_1), .val (.int (1 : Int32)), .val (.long (-9223372036854775808 : Int64)), .second, .val (.long (-9223372036854775808 : Int64)), .second, .val (.int (0 : Int32)), .unset] [])
        refine Go.st (fun _ => XS.aload X_3.here hx rfl (hb hby at_96) rfl rfl) ?_
        show Go p e below s _ _ _ T_3 (mkF m 98 #[.val (.int nx), .val (.int fx), .val (.long k1), .second, .val (.long v1), .second, .val (.long k2), .second, .val (.long v2), .second, .val (.ref b_1), .val (.int (1 : Int32)), .val (.long (-9223372036854775808 : Int64)), .second, .val (.long (-9223372036854775808 : Int64)), .second, .val (.int (0 : Int32)), .unset] [(.ref b_1)])
        obtain ⟨cq_89, kq_89, q_89a, q_89b, q_89c⟩ := isOf hZ e_3 p_2_2
        obtain ⟨_, _, ⟨T_89, L_89, kc_89, nc_89⟩, -, X_89, ⟨Lc_89, hQ_89, l_89, y_89, z_89⟩, st_89⟩ := X_3.virtualBack hx (y := (⟨"kasane/util/LongLongMap", "isEmpty", "()Z"⟩ : MethodName)) (z := (⟨"kasane/util/LongLongMap", "isEmpty", "()Z"⟩ : MethodName)) hown (mvT hZ (hw _ (List.mem_of_getElem? (i := 16) rfl))) (mvT hZ (hw _ (List.mem_of_getElem? (i := 17) rfl))) (notFace_of_selects (args := #[]) (mvT hZ (hw _ (List.mem_of_getElem? (i := 19) rfl)))) (mvT hZ (hw _ (List.mem_of_getElem? (i := 19) rfl))) (mvT hZ (hw _ (List.mem_of_getElem? (i := 18) rfl))) (by decide) (backOf (W := 0) (rmEm l Z a0 hw [] b_1 (0 : Int32) h_2 n0 z_2q p_2_4) hZ (hw _ (List.mem_of_getElem? (i := 20) rfl)) (hw _ (List.mem_of_getElem? (i := 2) rfl)) (by decide) (by decide)) q_89a q_89c (g := (mkF m 98 #[.val (.int nx), .val (.int fx), .val (.long k1), .second, .val (.long v1), .second, .val (.long k2), .second, .val (.long v2), .second, .val (.ref b_1), .val (.int (1 : Int32)), .val (.long (-9223372036854775808 : Int64)), .second, .val (.long (-9223372036854775808 : Int64)), .second, .val (.int (0 : Int32)), .unset] [(.ref b_1)])) rfl (by rw [hml]; rfl) (Steps.refl _) (argsL := []) (rest := []) (lenOf pd_6 rfl) rfl (by show 2 * 0 + _ ≤ _; exact Nat.le_of_eq rfl) (hb hby at_98) (fun _ _ => ⟨rfl, e_3, (by decide : 2 + 0 ≤ _), (by decide : 20 + 0 ≤ _)⟩)
        dsimp only [Pt.U, Pt.locs, Pt.cells, Pt.slots] at X_89 l_89 y_89 z_89 st_89 hQ_89
        subst l_89 y_89 z_89
        obtain ⟨h_89, e_89⟩ : ∃ hh, T_89.heap = hh := ⟨_, rfl⟩
        rw [e_89] at hQ_89
        obtain ⟨rfl, N_89q, sm_89⟩ := hQ_89
        have N_89 := Fr.app N_3 N_89q
        refine Go.st (fun _ kk => st_89.trans kk) ?_
        rw [sm_89] at e_89
        show Go p e below s _ _ _ T_89 (mkF m 101 #[.val (.int nx), .val (.int fx), .val (.long k1), .second, .val (.long v1), .second, .val (.long k2), .second, .val (.long v2), .second, .val (.ref b_1), .val (.int (1 : Int32)), .val (.long (-9223372036854775808 : Int64)), .second, .val (.long (-9223372036854775808 : Int64)), .second, .val (.int (0 : Int32)), .unset] [(.int (b2i ((0 : Int32) = (0 : Int32))))])
        rw [show (b2i ((0 : Int32) = (0 : Int32))) = (1 : Int32) from b2i_pos (by decide : (0 : Int32) = (0 : Int32))]
        show Go p e below s _ _ _ T_89 (mkF m 101 #[.val (.int nx), .val (.int fx), .val (.long k1), .second, .val (.long v1), .second, .val (.long k2), .second, .val (.long v2), .second, .val (.ref b_1), .val (.int (1 : Int32)), .val (.long (-9223372036854775808 : Int64)), .second, .val (.long (-9223372036854775808 : Int64)), .second, .val (.int (0 : Int32)), .unset] [(.int (1 : Int32))])
        refine Go.st (fun _ => XS.istore X_89.here hx rfl (hb hby at_101) rfl (l' := #[.val (.int nx), .val (.int fx), .val (.long k1), .second, .val (.long v1), .second, .val (.long k2), .second, .val (.long v2), .second, .val (.ref b_1), .val (.int (1 : Int32)), .val (.long (-9223372036854775808 : Int64)), .second, .val (.long (-9223372036854775808 : Int64)), .second, .val (.int (0 : Int32)), .val (.int (1 : Int32))]) rfl) ?_
        show Go p e below s _ _ _ T_89 (mkF m 103 #[.val (.int nx), .val (.int fx), .val (.long k1), .second, .val (.long v1), .second, .val (.long k2), .second, .val (.long v2), .second, .val (.ref b_1), .val (.int (1 : Int32)), .val (.long (-9223372036854775808 : Int64)), .second, .val (.long (-9223372036854775808 : Int64)), .second, .val (.int (0 : Int32)), .val (.int (1 : Int32))] [])
        refine Go.st (fun _ => XS.iload X_89.here hx rfl (hb hby at_103) rfl) ?_
        show Go p e below s _ _ _ T_89 (mkF m 105 #[.val (.int nx), .val (.int fx), .val (.long k1), .second, .val (.long v1), .second, .val (.long k2), .second, .val (.long v2), .second, .val (.ref b_1), .val (.int (1 : Int32)), .val (.long (-9223372036854775808 : Int64)), .second, .val (.long (-9223372036854775808 : Int64)), .second, .val (.int (0 : Int32)), .val (.int (1 : Int32))] [(.int (1 : Int32))])
        refine Go.st (fun _ => XS.ifNo X_89.here hx rfl (hb hby at_105) rfl ((if0 _ _).trans (feq (by decide : ¬ ((1 : Int32) = (0 : Int32)))).1)) ?_
        show Go p e below s _ _ _ T_89 (mkF m 108 #[.val (.int nx), .val (.int fx), .val (.long k1), .second, .val (.long v1), .second, .val (.long k2), .second, .val (.long v2), .second, .val (.ref b_1), .val (.int (1 : Int32)), .val (.long (-9223372036854775808 : Int64)), .second, .val (.long (-9223372036854775808 : Int64)), .second, .val (.int (0 : Int32)), .val (.int (1 : Int32))] [])
        refine Go.st (fun _ => XS.iload X_89.here hx rfl (hb hby at_108) rfl) ?_
        show Go p e below s _ _ _ T_89 (mkF m 110 #[.val (.int nx), .val (.int fx), .val (.long k1), .second, .val (.long v1), .second, .val (.long k2), .second, .val (.long v2), .second, .val (.ref b_1), .val (.int (1 : Int32)), .val (.long (-9223372036854775808 : Int64)), .second, .val (.long (-9223372036854775808 : Int64)), .second, .val (.int (0 : Int32)), .val (.int (1 : Int32))] [(.int (1 : Int32))])
        refine Go.st (fun _ => XS.iload X_89.here hx rfl (hb hby at_110) rfl) ?_
        show Go p e below s _ _ _ T_89 (mkF m 112 #[.val (.int nx), .val (.int fx), .val (.long k1), .second, .val (.long v1), .second, .val (.long k2), .second, .val (.long v2), .second, .val (.ref b_1), .val (.int (1 : Int32)), .val (.long (-9223372036854775808 : Int64)), .second, .val (.long (-9223372036854775808 : Int64)), .second, .val (.int (0 : Int32)), .val (.int (1 : Int32))] [(.int (0 : Int32)), (.int (1 : Int32))])
        refine Go.st (fun _ => XS.ifNo X_89.here hx rfl (hb hby at_112) rfl ((if0 _ _).trans (teq (by decide : (0 : Int32) = (0 : Int32))).2)) ?_
        show Go p e below s _ _ _ T_89 (mkF m 115 #[.val (.int nx), .val (.int fx), .val (.long k1), .second, .val (.long v1), .second, .val (.long k2), .second, .val (.long v2), .second, .val (.ref b_1), .val (.int (1 : Int32)), .val (.long (-9223372036854775808 : Int64)), .second, .val (.long (-9223372036854775808 : Int64)), .second, .val (.int (0 : Int32)), .val (.int (1 : Int32))] [(.int (1 : Int32))])
        refine Go.st (fun _ => XS.iconst X_89.here hx rfl (hb hby at_115)) ?_
        show Go p e below s _ _ _ T_89 (mkF m 116 #[.val (.int nx), .val (.int fx), .val (.long k1), .second, .val (.long v1), .second, .val (.long k2), .second, .val (.long v2), .second, .val (.ref b_1), .val (.int (1 : Int32)), .val (.long (-9223372036854775808 : Int64)), .second, .val (.long (-9223372036854775808 : Int64)), .second, .val (.int (0 : Int32)), .val (.int (1 : Int32))] [(.int (1 : Int32)), (.int (1 : Int32))])
        refine Go.st (fun _ => XS.goto X_89.here hx rfl (pc0 := 116) (pc' := 120) rfl (hb hby at_116) (by decide) (by decide)) ?_
        show Go p e below s _ _ _ T_89 (mkF m 120 #[.val (.int nx), .val (.int fx), .val (.long k1), .second, .val (.long v1), .second, .val (.long k2), .second, .val (.long v2), .second, .val (.ref b_1), .val (.int (1 : Int32)), .val (.long (-9223372036854775808 : Int64)), .second, .val (.long (-9223372036854775808 : Int64)), .second, .val (.int (0 : Int32)), .val (.int (1 : Int32))] [(.int (1 : Int32)), (.int (1 : Int32))])
        refine Go.st (fun _ => XS.icmpNo X_89.here hx rfl (hb hby at_120) rfl (teq (by decide : (1 : Int32) = (1 : Int32))).2) ?_
        show Go p e below s _ _ _ T_89 (mkF m 123 #[.val (.int nx), .val (.int fx), .val (.long k1), .second, .val (.long v1), .second, .val (.long k2), .second, .val (.long v2), .second, .val (.ref b_1), .val (.int (1 : Int32)), .val (.long (-9223372036854775808 : Int64)), .second, .val (.long (-9223372036854775808 : Int64)), .second, .val (.int (0 : Int32)), .val (.int (1 : Int32))] [])
        refine Go.st (fun _ => XS.iload X_89.here hx rfl (hb hby at_123) rfl) ?_
        show Go p e below s _ _ _ T_89 (mkF m 125 #[.val (.int nx), .val (.int fx), .val (.long k1), .second, .val (.long v1), .second, .val (.long k2), .second, .val (.long v2), .second, .val (.ref b_1), .val (.int (1 : Int32)), .val (.long (-9223372036854775808 : Int64)), .second, .val (.long (-9223372036854775808 : Int64)), .second, .val (.int (0 : Int32)), .val (.int (1 : Int32))] [(.int (1 : Int32))])
        refine Go.st (fun _ => XS.aload X_89.here hx rfl (hb hby at_125) rfl rfl) ?_
        show Go p e below s _ _ _ T_89 (mkF m 127 #[.val (.int nx), .val (.int fx), .val (.long k1), .second, .val (.long v1), .second, .val (.long k2), .second, .val (.long v2), .second, .val (.ref b_1), .val (.int (1 : Int32)), .val (.long (-9223372036854775808 : Int64)), .second, .val (.long (-9223372036854775808 : Int64)), .second, .val (.int (0 : Int32)), .val (.int (1 : Int32))] [(.ref b_1), (.int (1 : Int32))])
        obtain ⟨cq_90, kq_90, q_90a, q_90b, q_90c⟩ := isOf hZ e_89 p_2_2
        obtain ⟨_, _, ⟨T_90, L_90, kc_90, nc_90⟩, -, X_90, ⟨Lc_90, hQ_90, l_90, y_90, z_90⟩, st_90⟩ := X_89.virtualBack hx (y := (⟨"kasane/util/LongLongMap", "size", "()I"⟩ : MethodName)) (z := (⟨"kasane/util/LongLongMap", "size", "()I"⟩ : MethodName)) hown (mvT hZ (hw _ (List.mem_of_getElem? (i := 24) rfl))) (mvT hZ (hw _ (List.mem_of_getElem? (i := 25) rfl))) (notFace_of_selects (args := #[]) (mvT hZ (hw _ (List.mem_of_getElem? (i := 27) rfl)))) (mvT hZ (hw _ (List.mem_of_getElem? (i := 27) rfl))) (mvT hZ (hw _ (List.mem_of_getElem? (i := 26) rfl))) (by decide) (backOf (W := 1) (rmSz l Z a0 hw [] b_1 (0 : Int32) h_2 n0 z_2q p_2_4) hZ (hw _ (List.mem_of_getElem? (i := 28) rfl)) (hw _ (List.mem_of_getElem? (i := 2) rfl)) (by decide) (by decide)) q_90a q_90c (g := (mkF m 127 #[.val (.int nx), .val (.int fx), .val (.long k1), .second, .val (.long v1), .second, .val (.long k2), .second, .val (.long v2), .second, .val (.ref b_1), .val (.int (1 : Int32)), .val (.long (-9223372036854775808 : Int64)), .second, .val (.long (-9223372036854775808 : Int64)), .second, .val (.int (0 : Int32)), .val (.int (1 : Int32))] [(.ref b_1), (.int (1 : Int32))])) rfl (by rw [hml]; rfl) (Steps.refl _) (argsL := []) (rest := [(.int (1 : Int32))]) (lenOf pd_2 rfl) rfl (by show 2 * 0 + _ ≤ _; exact Nat.le_of_eq rfl) (hb hby at_127) (fun _ _ => ⟨rfl, e_89, (by decide : 2 + 0 ≤ _), (by decide : 20 + 0 ≤ _)⟩)
        dsimp only [Pt.U, Pt.locs, Pt.cells, Pt.slots] at X_90 l_90 y_90 z_90 st_90 hQ_90
        subst l_90 y_90 z_90
        obtain ⟨h_90, e_90⟩ : ∃ hh, T_90.heap = hh := ⟨_, rfl⟩
        rw [e_90] at hQ_90
        obtain ⟨rfl, N_90q, sm_90⟩ := hQ_90
        have N_90 := Fr.app N_89 N_90q
        refine Go.st (fun _ kk => st_90.trans kk) ?_
        rw [sm_90] at e_90
        show Go p e below s _ _ _ T_90 (mkF m 130 #[.val (.int nx), .val (.int fx), .val (.long k1), .second, .val (.long v1), .second, .val (.long k2), .second, .val (.long v2), .second, .val (.ref b_1), .val (.int (1 : Int32)), .val (.long (-9223372036854775808 : Int64)), .second, .val (.long (-9223372036854775808 : Int64)), .second, .val (.int (0 : Int32)), .val (.int (1 : Int32))] [(.int (0 : Int32)), (.int (1 : Int32))])
        refine Go.st (fun _ => XS.ifNo X_90.here hx rfl (hb hby at_130) rfl ((if0 _ _).trans (teq (by decide : (0 : Int32) = (0 : Int32))).2)) ?_
        show Go p e below s _ _ _ T_90 (mkF m 133 #[.val (.int nx), .val (.int fx), .val (.long k1), .second, .val (.long v1), .second, .val (.long k2), .second, .val (.long v2), .second, .val (.ref b_1), .val (.int (1 : Int32)), .val (.long (-9223372036854775808 : Int64)), .second, .val (.long (-9223372036854775808 : Int64)), .second, .val (.int (0 : Int32)), .val (.int (1 : Int32))] [(.int (1 : Int32))])
        refine Go.st (fun _ => XS.iconst X_90.here hx rfl (hb hby at_133)) ?_
        show Go p e below s _ _ _ T_90 (mkF m 134 #[.val (.int nx), .val (.int fx), .val (.long k1), .second, .val (.long v1), .second, .val (.long k2), .second, .val (.long v2), .second, .val (.ref b_1), .val (.int (1 : Int32)), .val (.long (-9223372036854775808 : Int64)), .second, .val (.long (-9223372036854775808 : Int64)), .second, .val (.int (0 : Int32)), .val (.int (1 : Int32))] [(.int (1 : Int32)), (.int (1 : Int32))])
        refine Go.st (fun _ => XS.goto X_90.here hx rfl (pc0 := 134) (pc' := 138) rfl (hb hby at_134) (by decide) (by decide)) ?_
        show Go p e below s _ _ _ T_90 (mkF m 138 #[.val (.int nx), .val (.int fx), .val (.long k1), .second, .val (.long v1), .second, .val (.long k2), .second, .val (.long v2), .second, .val (.ref b_1), .val (.int (1 : Int32)), .val (.long (-9223372036854775808 : Int64)), .second, .val (.long (-9223372036854775808 : Int64)), .second, .val (.int (0 : Int32)), .val (.int (1 : Int32))] [(.int (1 : Int32)), (.int (1 : Int32))])
        refine Go.st (fun _ => XS.icmpNo X_90.here hx rfl (hb hby at_138) rfl (teq (by decide : (1 : Int32) = (1 : Int32))).2) ?_
        show Go p e below s _ _ _ T_90 (mkF m 141 #[.val (.int nx), .val (.int fx), .val (.long k1), .second, .val (.long v1), .second, .val (.long k2), .second, .val (.long v2), .second, .val (.ref b_1), .val (.int (1 : Int32)), .val (.long (-9223372036854775808 : Int64)), .second, .val (.long (-9223372036854775808 : Int64)), .second, .val (.int (0 : Int32)), .val (.int (1 : Int32))] [])
        refine Go.st (fun _ => XS.iconst X_90.here hx rfl (hb hby at_141)) ?_
        show Go p e below s _ _ _ T_90 (mkF m 142 #[.val (.int nx), .val (.int fx), .val (.long k1), .second, .val (.long v1), .second, .val (.long k2), .second, .val (.long v2), .second, .val (.ref b_1), .val (.int (1 : Int32)), .val (.long (-9223372036854775808 : Int64)), .second, .val (.long (-9223372036854775808 : Int64)), .second, .val (.int (0 : Int32)), .val (.int (1 : Int32))] [(.int (1 : Int32))])
        refine Go.st (fun _ => XS.goto X_90.here hx rfl (pc0 := 142) (pc' := 146) rfl (hb hby at_142) (by decide) (by decide)) ?_
        show Go p e below s _ _ _ T_90 (mkF m 146 #[.val (.int nx), .val (.int fx), .val (.long k1), .second, .val (.long v1), .second, .val (.long k2), .second, .val (.long v2), .second, .val (.ref b_1), .val (.int (1 : Int32)), .val (.long (-9223372036854775808 : Int64)), .second, .val (.long (-9223372036854775808 : Int64)), .second, .val (.int (0 : Int32)), .val (.int (1 : Int32))] [(.int (1 : Int32))])
        exact Go.retZ X_90 hx hlk Bd.returns (hb hby at_146) rfl (by rw [e_90]; exact ⟨rfl, N_90⟩) (by decide) (by decide)
      · rw [show (nx &&& (3 : Int32)) = (1 : Int32) from hd_88]
        show Go p e below s _ _ _ T_3 (mkF m 49 #[.val (.int nx), .val (.int fx), .val (.long k1), .second, .val (.long v1), .second, .val (.long k2), .second, .val (.long v2), .second, .val (.ref b_1), .val (.int (1 : Int32)), .val (.long (-9223372036854775808 : Int64)), .second, .val (.long (-9223372036854775808 : Int64)), .second, .unset, .unset] [(.int (1 : Int32))])
        refine Go.st (fun _ => XS.istore X_3.here hx rfl (hb hby at_49) rfl (l' := #[.val (.int nx), .val (.int fx), .val (.long k1), .second, .val (.long v1), .second, .val (.long k2), .second, .val (.long v2), .second, .val (.ref b_1), .val (.int (1 : Int32)), .val (.long (-9223372036854775808 : Int64)), .second, .val (.long (-9223372036854775808 : Int64)), .second, .val (.int (1 : Int32)), .unset]) rfl) ?_
        show Go p e below s _ _ _ T_3 (mkF m 51 #[.val (.int nx), .val (.int fx), .val (.long k1), .second, .val (.long v1), .second, .val (.long k2), .second, .val (.long v2), .second, .val (.ref b_1), .val (.int (1 : Int32)), .val (.long (-9223372036854775808 : Int64)), .second, .val (.long (-9223372036854775808 : Int64)), .second, .val (.int (1 : Int32)), .unset] [])
        refine Go.st (fun _ => XS.iload X_3.here hx rfl (hb hby at_51) rfl) ?_
        show Go p e below s _ _ _ T_3 (mkF m 53 #[.val (.int nx), .val (.int fx), .val (.long k1), .second, .val (.long v1), .second, .val (.long k2), .second, .val (.long v2), .second, .val (.ref b_1), .val (.int (1 : Int32)), .val (.long (-9223372036854775808 : Int64)), .second, .val (.long (-9223372036854775808 : Int64)), .second, .val (.int (1 : Int32)), .unset] [(.int (1 : Int32))])
        refine Go.st (fun _ => XS.iconst X_3.here hx rfl (hb hby at_53)) ?_
        show Go p e below s _ _ _ T_3 (mkF m 54 #[.val (.int nx), .val (.int fx), .val (.long k1), .second, .val (.long v1), .second, .val (.long k2), .second, .val (.long v2), .second, .val (.ref b_1), .val (.int (1 : Int32)), .val (.long (-9223372036854775808 : Int64)), .second, .val (.long (-9223372036854775808 : Int64)), .second, .val (.int (1 : Int32)), .unset] [(.int (1 : Int32)), (.int (1 : Int32))])
        refine Go.st (fun _ => XS.icmpNo X_3.here hx rfl (hb hby at_54) rfl (flt (by decide : ¬ ((1 : Int32) < (1 : Int32)))).1) ?_
        show Go p e below s _ _ _ T_3 (mkF m 57 #[.val (.int nx), .val (.int fx), .val (.long k1), .second, .val (.long v1), .second, .val (.long k2), .second, .val (.long v2), .second, .val (.ref b_1), .val (.int (1 : Int32)), .val (.long (-9223372036854775808 : Int64)), .second, .val (.long (-9223372036854775808 : Int64)), .second, .val (.int (1 : Int32)), .unset] [])
        refine Go.st (fun _ => XS.aload X_3.here hx rfl (hb hby at_57) rfl rfl) ?_
        show Go p e below s _ _ _ T_3 (mkF m 59 #[.val (.int nx), .val (.int fx), .val (.long k1), .second, .val (.long v1), .second, .val (.long k2), .second, .val (.long v2), .second, .val (.ref b_1), .val (.int (1 : Int32)), .val (.long (-9223372036854775808 : Int64)), .second, .val (.long (-9223372036854775808 : Int64)), .second, .val (.int (1 : Int32)), .unset] [(.ref b_1)])
        refine Go.st (fun _ => XS.lload X_3.here hx rfl (hb hby at_59) rfl) ?_
        show Go p e below s _ _ _ T_3 (mkF m 61 #[.val (.int nx), .val (.int fx), .val (.long k1), .second, .val (.long v1), .second, .val (.long k2), .second, .val (.long v2), .second, .val (.ref b_1), .val (.int (1 : Int32)), .val (.long (-9223372036854775808 : Int64)), .second, .val (.long (-9223372036854775808 : Int64)), .second, .val (.int (1 : Int32)), .unset] [(.long (-9223372036854775808 : Int64)), (.ref b_1)])
        refine Go.st (fun _ => XS.lload X_3.here hx rfl (hb hby at_61) rfl) ?_
        show Go p e below s _ _ _ T_3 (mkF m 63 #[.val (.int nx), .val (.int fx), .val (.long k1), .second, .val (.long v1), .second, .val (.long k2), .second, .val (.long v2), .second, .val (.ref b_1), .val (.int (1 : Int32)), .val (.long (-9223372036854775808 : Int64)), .second, .val (.long (-9223372036854775808 : Int64)), .second, .val (.int (1 : Int32)), .unset] [(.long v1), (.long (-9223372036854775808 : Int64)), (.ref b_1)])
        obtain ⟨cq_91, kq_91, q_91a, q_91b, q_91c⟩ := isOf hZ e_3 p_2_2
        obtain ⟨_, _, ⟨T_91, L_91, kc_91, nc_91⟩, -, X_91, ⟨Lc_91, hQ_91, l_91, y_91, z_91⟩, st_91⟩ := X_3.virtualBack hx (y := (⟨"kasane/util/LongLongMap", "put", "(JJ)V"⟩ : MethodName)) (z := (⟨"kasane/util/LongLongMap", "put", "(JJ)V"⟩ : MethodName)) hown (mvT hZ (hw _ (List.mem_of_getElem? (i := 29) rfl))) (mvT hZ (hw _ (List.mem_of_getElem? (i := 30) rfl))) (notFace_of_selects (args := #[]) (mvT hZ (hw _ (List.mem_of_getElem? (i := 32) rfl)))) (mvT hZ (hw _ (List.mem_of_getElem? (i := 32) rfl))) (mvT hZ (hw _ (List.mem_of_getElem? (i := 31) rfl))) (by decide) (backOf (W := 0) (rmPu l Z a0 hw [] b_1 (-9223372036854775808 : Int64) v1 t__2 kt__2 [(-9223372036854775808 : Int64), (0 : Int64), (-9223372036854775808 : Int64), (0 : Int64), (-9223372036854775808 : Int64), (0 : Int64), (-9223372036854775808 : Int64), (0 : Int64), (-9223372036854775808 : Int64), (0 : Int64), (-9223372036854775808 : Int64), (0 : Int64), (-9223372036854775808 : Int64), (0 : Int64), (-9223372036854775808 : Int64), (0 : Int64)] (0 : Int32) (0 : Int32) (0 : Int64) h_2 n0 z_2q p_2_2 p_2_3 p_2_4 p_2_5 p_2_6 vm0 gg_1 p_2_1 ne_b_1_t__2 own_inv0 (by decide)) hZ (hw _ (List.mem_of_getElem? (i := 33) rfl)) (hw _ (List.mem_of_getElem? (i := 2) rfl)) (by decide) (by decide)) q_91a q_91c (g := (mkF m 63 #[.val (.int nx), .val (.int fx), .val (.long k1), .second, .val (.long v1), .second, .val (.long k2), .second, .val (.long v2), .second, .val (.ref b_1), .val (.int (1 : Int32)), .val (.long (-9223372036854775808 : Int64)), .second, .val (.long (-9223372036854775808 : Int64)), .second, .val (.int (1 : Int32)), .unset] [(.long v1), (.long (-9223372036854775808 : Int64)), (.ref b_1)])) rfl (by rw [hml]; rfl) (Steps.refl _) (argsL := [(.long (-9223372036854775808 : Int64)), (.long v1)]) (rest := []) (lenOf pd_7 rfl) rfl (by show 2 * 0 + _ ≤ _; exact Nat.le_of_eq rfl) (hb hby at_63) (fun _ _ => ⟨rfl, e_3, (by decide : 2 + 0 ≤ _), (by decide : 20 + 0 ≤ _)⟩)
        dsimp only [Pt.U, Pt.locs, Pt.cells, Pt.slots] at X_91 l_91 y_91 z_91 st_91 hQ_91
        subst l_91 y_91 z_91
        obtain ⟨h_91, e_91⟩ : ∃ hh, T_91.heap = hh := ⟨_, rfl⟩
        rw [e_91] at hQ_91
        obtain ⟨ks2__91, n2__91, f2__91, r2__91, rfl, N_91q, K_91, p_91_0, p_91_1, p_91_2, p_91_3, p_91_4, p_91_5, p_91_6, p_91_7⟩ := hQ_91
        have N_91 := Fr.app N_3 N_91q
        refine Go.st (fun _ kk => st_91.trans kk) ?_
        have z_91q : n0 ≤ h_91.size := Nat.le_trans z_2q K_91.1
        show Go p e below s _ _ _ T_91 (mkF m 66 #[.val (.int nx), .val (.int fx), .val (.long k1), .second, .val (.long v1), .second, .val (.long k2), .second, .val (.long v2), .second, .val (.ref b_1), .val (.int (1 : Int32)), .val (.long (-9223372036854775808 : Int64)), .second, .val (.long (-9223372036854775808 : Int64)), .second, .val (.int (1 : Int32)), .unset] [])
        have hle_92 : 1 ≤ n2__91.toInt ∧ n2__91.toInt ≤ 1 := by have q1 := p_91_7; have q2 := (trivial : True); have q3 : (0 : Int32).toInt = 0 := (by decide); omega
        have hk_93 : ¬ (n2__91 = (0 : Int32)) := own_pos hle_92.1
        refine Go.st (fun _ => XS.iload X_91.here hx rfl (hb hby at_66) rfl) ?_
        show Go p e below s _ _ _ T_91 (mkF m 68 #[.val (.int nx), .val (.int fx), .val (.long k1), .second, .val (.long v1), .second, .val (.long k2), .second, .val (.long v2), .second, .val (.ref b_1), .val (.int (1 : Int32)), .val (.long (-9223372036854775808 : Int64)), .second, .val (.long (-9223372036854775808 : Int64)), .second, .val (.int (1 : Int32)), .unset] [(.int (1 : Int32))])
        refine Go.st (fun _ => XS.iconst X_91.here hx rfl (hb hby at_68)) ?_
        show Go p e below s _ _ _ T_91 (mkF m 69 #[.val (.int nx), .val (.int fx), .val (.long k1), .second, .val (.long v1), .second, .val (.long k2), .second, .val (.long v2), .second, .val (.ref b_1), .val (.int (1 : Int32)), .val (.long (-9223372036854775808 : Int64)), .second, .val (.long (-9223372036854775808 : Int64)), .second, .val (.int (1 : Int32)), .unset] [(.int (2 : Int32)), (.int (1 : Int32))])
        refine Go.st (fun _ => XS.icmpYes X_91.here hx rfl (pc0 := 69) (pc' := 81) rfl (hb hby at_69) rfl (tlt (by decide : (1 : Int32) < (2 : Int32))).1 (by decide) (by decide)) ?_
        show Go p e below s _ _ _ T_91 (mkF m 81 #[.val (.int nx), .val (.int fx), .val (.long k1), .second, .val (.long v1), .second, .val (.long k2), .second, .val (.long v2), .second, .val (.ref b_1), .val (.int (1 : Int32)), .val (.long (-9223372036854775808 : Int64)), .second, .val (.long (-9223372036854775808 : Int64)), .second, .val (.int (1 : Int32)), .unset] [])
        refine Go.st (fun _ => XS.iload X_91.here hx rfl (hb hby at_81) rfl) ?_
        show Go p e below s _ _ _ T_91 (mkF m 83 #[.val (.int nx), .val (.int fx), .val (.long k1), .second, .val (.long v1), .second, .val (.long k2), .second, .val (.long v2), .second, .val (.ref b_1), .val (.int (1 : Int32)), .val (.long (-9223372036854775808 : Int64)), .second, .val (.long (-9223372036854775808 : Int64)), .second, .val (.int (1 : Int32)), .unset] [(.int (1 : Int32))])
        refine Go.st (fun _ => XS.iconst X_91.here hx rfl (hb hby at_83)) ?_
        show Go p e below s _ _ _ T_91 (mkF m 84 #[.val (.int nx), .val (.int fx), .val (.long k1), .second, .val (.long v1), .second, .val (.long k2), .second, .val (.long v2), .second, .val (.ref b_1), .val (.int (1 : Int32)), .val (.long (-9223372036854775808 : Int64)), .second, .val (.long (-9223372036854775808 : Int64)), .second, .val (.int (1 : Int32)), .unset] [(.int (3 : Int32)), (.int (1 : Int32))])
        refine Go.st (fun _ => XS.icmpYes X_91.here hx rfl (pc0 := 84) (pc' := 96) rfl (hb hby at_84) rfl (tlt (by decide : (1 : Int32) < (3 : Int32))).1 (by decide) (by decide)) ?_
        show Go p e below s _ _ _ T_91 (mkF m 96 #[.val (.int nx), .val (.int fx), .val (.long k1), .second, .val (.long v1), .second, .val (.long k2), .second, .val (.long v2), .second, .val (.ref b_1), .val (.int (1 : Int32)), .val (.long (-9223372036854775808 : Int64)), .second, .val (.long (-9223372036854775808 : Int64)), .second, .val (.int (1 : Int32)), .unset] [])
        refine Go.st (fun _ => XS.aload X_91.here hx rfl (hb hby at_96) rfl rfl) ?_
        show Go p e below s _ _ _ T_91 (mkF m 98 #[.val (.int nx), .val (.int fx), .val (.long k1), .second, .val (.long v1), .second, .val (.long k2), .second, .val (.long v2), .second, .val (.ref b_1), .val (.int (1 : Int32)), .val (.long (-9223372036854775808 : Int64)), .second, .val (.long (-9223372036854775808 : Int64)), .second, .val (.int (1 : Int32)), .unset] [(.ref b_1)])
        obtain ⟨cq_94, kq_94, q_94a, q_94b, q_94c⟩ := isOf hZ e_91 p_91_0
        obtain ⟨_, _, ⟨T_94, L_94, kc_94, nc_94⟩, -, X_94, ⟨Lc_94, hQ_94, l_94, y_94, z_94⟩, st_94⟩ := X_91.virtualBack hx (y := (⟨"kasane/util/LongLongMap", "isEmpty", "()Z"⟩ : MethodName)) (z := (⟨"kasane/util/LongLongMap", "isEmpty", "()Z"⟩ : MethodName)) hown (mvT hZ (hw _ (List.mem_of_getElem? (i := 16) rfl))) (mvT hZ (hw _ (List.mem_of_getElem? (i := 17) rfl))) (notFace_of_selects (args := #[]) (mvT hZ (hw _ (List.mem_of_getElem? (i := 19) rfl)))) (mvT hZ (hw _ (List.mem_of_getElem? (i := 19) rfl))) (mvT hZ (hw _ (List.mem_of_getElem? (i := 18) rfl))) (by decide) (backOf (W := 0) (rmEm l Z a0 hw [] b_1 n2__91 h_91 n0 z_91q p_91_2) hZ (hw _ (List.mem_of_getElem? (i := 20) rfl)) (hw _ (List.mem_of_getElem? (i := 2) rfl)) (by decide) (by decide)) q_94a q_94c (g := (mkF m 98 #[.val (.int nx), .val (.int fx), .val (.long k1), .second, .val (.long v1), .second, .val (.long k2), .second, .val (.long v2), .second, .val (.ref b_1), .val (.int (1 : Int32)), .val (.long (-9223372036854775808 : Int64)), .second, .val (.long (-9223372036854775808 : Int64)), .second, .val (.int (1 : Int32)), .unset] [(.ref b_1)])) rfl (by rw [hml]; rfl) (Steps.refl _) (argsL := []) (rest := []) (lenOf pd_6 rfl) rfl (by show 2 * 0 + _ ≤ _; exact Nat.le_of_eq rfl) (hb hby at_98) (fun _ _ => ⟨rfl, e_91, (by decide : 2 + 0 ≤ _), (by decide : 20 + 0 ≤ _)⟩)
        dsimp only [Pt.U, Pt.locs, Pt.cells, Pt.slots] at X_94 l_94 y_94 z_94 st_94 hQ_94
        subst l_94 y_94 z_94
        obtain ⟨h_94, e_94⟩ : ∃ hh, T_94.heap = hh := ⟨_, rfl⟩
        rw [e_94] at hQ_94
        obtain ⟨rfl, N_94q, sm_94⟩ := hQ_94
        have N_94 := Fr.app N_91 N_94q
        refine Go.st (fun _ kk => st_94.trans kk) ?_
        rw [sm_94] at e_94
        show Go p e below s _ _ _ T_94 (mkF m 101 #[.val (.int nx), .val (.int fx), .val (.long k1), .second, .val (.long v1), .second, .val (.long k2), .second, .val (.long v2), .second, .val (.ref b_1), .val (.int (1 : Int32)), .val (.long (-9223372036854775808 : Int64)), .second, .val (.long (-9223372036854775808 : Int64)), .second, .val (.int (1 : Int32)), .unset] [(.int (b2i (n2__91 = (0 : Int32))))])
        rw [show (b2i (n2__91 = (0 : Int32))) = (0 : Int32) from b2i_neg hk_93]
        show Go p e below s _ _ _ T_94 (mkF m 101 #[.val (.int nx), .val (.int fx), .val (.long k1), .second, .val (.long v1), .second, .val (.long k2), .second, .val (.long v2), .second, .val (.ref b_1), .val (.int (1 : Int32)), .val (.long (-9223372036854775808 : Int64)), .second, .val (.long (-9223372036854775808 : Int64)), .second, .val (.int (1 : Int32)), .unset] [(.int (0 : Int32))])
        refine Go.st (fun _ => XS.istore X_94.here hx rfl (hb hby at_101) rfl (l' := #[.val (.int nx), .val (.int fx), .val (.long k1), .second, .val (.long v1), .second, .val (.long k2), .second, .val (.long v2), .second, .val (.ref b_1), .val (.int (1 : Int32)), .val (.long (-9223372036854775808 : Int64)), .second, .val (.long (-9223372036854775808 : Int64)), .second, .val (.int (1 : Int32)), .val (.int (0 : Int32))]) rfl) ?_
        show Go p e below s _ _ _ T_94 (mkF m 103 #[.val (.int nx), .val (.int fx), .val (.long k1), .second, .val (.long v1), .second, .val (.long k2), .second, .val (.long v2), .second, .val (.ref b_1), .val (.int (1 : Int32)), .val (.long (-9223372036854775808 : Int64)), .second, .val (.long (-9223372036854775808 : Int64)), .second, .val (.int (1 : Int32)), .val (.int (0 : Int32))] [])
        refine Go.st (fun _ => XS.iload X_94.here hx rfl (hb hby at_103) rfl) ?_
        show Go p e below s _ _ _ T_94 (mkF m 105 #[.val (.int nx), .val (.int fx), .val (.long k1), .second, .val (.long v1), .second, .val (.long k2), .second, .val (.long v2), .second, .val (.ref b_1), .val (.int (1 : Int32)), .val (.long (-9223372036854775808 : Int64)), .second, .val (.long (-9223372036854775808 : Int64)), .second, .val (.int (1 : Int32)), .val (.int (0 : Int32))] [(.int (1 : Int32))])
        refine Go.st (fun _ => XS.ifNo X_94.here hx rfl (hb hby at_105) rfl ((if0 _ _).trans (feq (by decide : ¬ ((1 : Int32) = (0 : Int32)))).1)) ?_
        show Go p e below s _ _ _ T_94 (mkF m 108 #[.val (.int nx), .val (.int fx), .val (.long k1), .second, .val (.long v1), .second, .val (.long k2), .second, .val (.long v2), .second, .val (.ref b_1), .val (.int (1 : Int32)), .val (.long (-9223372036854775808 : Int64)), .second, .val (.long (-9223372036854775808 : Int64)), .second, .val (.int (1 : Int32)), .val (.int (0 : Int32))] [])
        refine Go.st (fun _ => XS.iload X_94.here hx rfl (hb hby at_108) rfl) ?_
        show Go p e below s _ _ _ T_94 (mkF m 110 #[.val (.int nx), .val (.int fx), .val (.long k1), .second, .val (.long v1), .second, .val (.long k2), .second, .val (.long v2), .second, .val (.ref b_1), .val (.int (1 : Int32)), .val (.long (-9223372036854775808 : Int64)), .second, .val (.long (-9223372036854775808 : Int64)), .second, .val (.int (1 : Int32)), .val (.int (0 : Int32))] [(.int (0 : Int32))])
        refine Go.st (fun _ => XS.iload X_94.here hx rfl (hb hby at_110) rfl) ?_
        show Go p e below s _ _ _ T_94 (mkF m 112 #[.val (.int nx), .val (.int fx), .val (.long k1), .second, .val (.long v1), .second, .val (.long k2), .second, .val (.long v2), .second, .val (.ref b_1), .val (.int (1 : Int32)), .val (.long (-9223372036854775808 : Int64)), .second, .val (.long (-9223372036854775808 : Int64)), .second, .val (.int (1 : Int32)), .val (.int (0 : Int32))] [(.int (1 : Int32)), (.int (0 : Int32))])
        refine Go.st (fun _ => XS.ifYes X_94.here hx rfl (pc0 := 112) (pc' := 119) rfl (hb hby at_112) rfl ((if0 _ _).trans (feq (by decide : ¬ ((1 : Int32) = (0 : Int32)))).2) (by decide) (by decide)) ?_
        show Go p e below s _ _ _ T_94 (mkF m 119 #[.val (.int nx), .val (.int fx), .val (.long k1), .second, .val (.long v1), .second, .val (.long k2), .second, .val (.long v2), .second, .val (.ref b_1), .val (.int (1 : Int32)), .val (.long (-9223372036854775808 : Int64)), .second, .val (.long (-9223372036854775808 : Int64)), .second, .val (.int (1 : Int32)), .val (.int (0 : Int32))] [(.int (0 : Int32))])
        refine Go.st (fun _ => XS.iconst X_94.here hx rfl (hb hby at_119)) ?_
        show Go p e below s _ _ _ T_94 (mkF m 120 #[.val (.int nx), .val (.int fx), .val (.long k1), .second, .val (.long v1), .second, .val (.long k2), .second, .val (.long v2), .second, .val (.ref b_1), .val (.int (1 : Int32)), .val (.long (-9223372036854775808 : Int64)), .second, .val (.long (-9223372036854775808 : Int64)), .second, .val (.int (1 : Int32)), .val (.int (0 : Int32))] [(.int (0 : Int32)), (.int (0 : Int32))])
        refine Go.st (fun _ => XS.icmpNo X_94.here hx rfl (hb hby at_120) rfl (teq (by decide : (0 : Int32) = (0 : Int32))).2) ?_
        show Go p e below s _ _ _ T_94 (mkF m 123 #[.val (.int nx), .val (.int fx), .val (.long k1), .second, .val (.long v1), .second, .val (.long k2), .second, .val (.long v2), .second, .val (.ref b_1), .val (.int (1 : Int32)), .val (.long (-9223372036854775808 : Int64)), .second, .val (.long (-9223372036854775808 : Int64)), .second, .val (.int (1 : Int32)), .val (.int (0 : Int32))] [])
        refine Go.st (fun _ => XS.iload X_94.here hx rfl (hb hby at_123) rfl) ?_
        show Go p e below s _ _ _ T_94 (mkF m 125 #[.val (.int nx), .val (.int fx), .val (.long k1), .second, .val (.long v1), .second, .val (.long k2), .second, .val (.long v2), .second, .val (.ref b_1), .val (.int (1 : Int32)), .val (.long (-9223372036854775808 : Int64)), .second, .val (.long (-9223372036854775808 : Int64)), .second, .val (.int (1 : Int32)), .val (.int (0 : Int32))] [(.int (0 : Int32))])
        refine Go.st (fun _ => XS.aload X_94.here hx rfl (hb hby at_125) rfl rfl) ?_
        show Go p e below s _ _ _ T_94 (mkF m 127 #[.val (.int nx), .val (.int fx), .val (.long k1), .second, .val (.long v1), .second, .val (.long k2), .second, .val (.long v2), .second, .val (.ref b_1), .val (.int (1 : Int32)), .val (.long (-9223372036854775808 : Int64)), .second, .val (.long (-9223372036854775808 : Int64)), .second, .val (.int (1 : Int32)), .val (.int (0 : Int32))] [(.ref b_1), (.int (0 : Int32))])
        obtain ⟨cq_95, kq_95, q_95a, q_95b, q_95c⟩ := isOf hZ e_94 p_91_0
        obtain ⟨_, _, ⟨T_95, L_95, kc_95, nc_95⟩, -, X_95, ⟨Lc_95, hQ_95, l_95, y_95, z_95⟩, st_95⟩ := X_94.virtualBack hx (y := (⟨"kasane/util/LongLongMap", "size", "()I"⟩ : MethodName)) (z := (⟨"kasane/util/LongLongMap", "size", "()I"⟩ : MethodName)) hown (mvT hZ (hw _ (List.mem_of_getElem? (i := 24) rfl))) (mvT hZ (hw _ (List.mem_of_getElem? (i := 25) rfl))) (notFace_of_selects (args := #[]) (mvT hZ (hw _ (List.mem_of_getElem? (i := 27) rfl)))) (mvT hZ (hw _ (List.mem_of_getElem? (i := 27) rfl))) (mvT hZ (hw _ (List.mem_of_getElem? (i := 26) rfl))) (by decide) (backOf (W := 1) (rmSz l Z a0 hw [] b_1 n2__91 h_91 n0 z_91q p_91_2) hZ (hw _ (List.mem_of_getElem? (i := 28) rfl)) (hw _ (List.mem_of_getElem? (i := 2) rfl)) (by decide) (by decide)) q_95a q_95c (g := (mkF m 127 #[.val (.int nx), .val (.int fx), .val (.long k1), .second, .val (.long v1), .second, .val (.long k2), .second, .val (.long v2), .second, .val (.ref b_1), .val (.int (1 : Int32)), .val (.long (-9223372036854775808 : Int64)), .second, .val (.long (-9223372036854775808 : Int64)), .second, .val (.int (1 : Int32)), .val (.int (0 : Int32))] [(.ref b_1), (.int (0 : Int32))])) rfl (by rw [hml]; rfl) (Steps.refl _) (argsL := []) (rest := [(.int (0 : Int32))]) (lenOf pd_2 rfl) rfl (by show 2 * 0 + _ ≤ _; exact Nat.le_of_eq rfl) (hb hby at_127) (fun _ _ => ⟨rfl, e_94, (by decide : 2 + 0 ≤ _), (by decide : 20 + 0 ≤ _)⟩)
        dsimp only [Pt.U, Pt.locs, Pt.cells, Pt.slots] at X_95 l_95 y_95 z_95 st_95 hQ_95
        subst l_95 y_95 z_95
        obtain ⟨h_95, e_95⟩ : ∃ hh, T_95.heap = hh := ⟨_, rfl⟩
        rw [e_95] at hQ_95
        obtain ⟨rfl, N_95q, sm_95⟩ := hQ_95
        have N_95 := Fr.app N_94 N_95q
        refine Go.st (fun _ kk => st_95.trans kk) ?_
        rw [sm_95] at e_95
        show Go p e below s _ _ _ T_95 (mkF m 130 #[.val (.int nx), .val (.int fx), .val (.long k1), .second, .val (.long v1), .second, .val (.long k2), .second, .val (.long v2), .second, .val (.ref b_1), .val (.int (1 : Int32)), .val (.long (-9223372036854775808 : Int64)), .second, .val (.long (-9223372036854775808 : Int64)), .second, .val (.int (1 : Int32)), .val (.int (0 : Int32))] [(.int n2__91), (.int (0 : Int32))])
        refine Go.st (fun _ => XS.ifYes X_95.here hx rfl (pc0 := 130) (pc' := 137) rfl (hb hby at_130) rfl ((if0 _ _).trans (feq hk_93).2) (by decide) (by decide)) ?_
        show Go p e below s _ _ _ T_95 (mkF m 137 #[.val (.int nx), .val (.int fx), .val (.long k1), .second, .val (.long v1), .second, .val (.long k2), .second, .val (.long v2), .second, .val (.ref b_1), .val (.int (1 : Int32)), .val (.long (-9223372036854775808 : Int64)), .second, .val (.long (-9223372036854775808 : Int64)), .second, .val (.int (1 : Int32)), .val (.int (0 : Int32))] [(.int (0 : Int32))])
        refine Go.st (fun _ => XS.iconst X_95.here hx rfl (hb hby at_137)) ?_
        show Go p e below s _ _ _ T_95 (mkF m 138 #[.val (.int nx), .val (.int fx), .val (.long k1), .second, .val (.long v1), .second, .val (.long k2), .second, .val (.long v2), .second, .val (.ref b_1), .val (.int (1 : Int32)), .val (.long (-9223372036854775808 : Int64)), .second, .val (.long (-9223372036854775808 : Int64)), .second, .val (.int (1 : Int32)), .val (.int (0 : Int32))] [(.int (0 : Int32)), (.int (0 : Int32))])
        refine Go.st (fun _ => XS.icmpNo X_95.here hx rfl (hb hby at_138) rfl (teq (by decide : (0 : Int32) = (0 : Int32))).2) ?_
        show Go p e below s _ _ _ T_95 (mkF m 141 #[.val (.int nx), .val (.int fx), .val (.long k1), .second, .val (.long v1), .second, .val (.long k2), .second, .val (.long v2), .second, .val (.ref b_1), .val (.int (1 : Int32)), .val (.long (-9223372036854775808 : Int64)), .second, .val (.long (-9223372036854775808 : Int64)), .second, .val (.int (1 : Int32)), .val (.int (0 : Int32))] [])
        refine Go.st (fun _ => XS.iconst X_95.here hx rfl (hb hby at_141)) ?_
        show Go p e below s _ _ _ T_95 (mkF m 142 #[.val (.int nx), .val (.int fx), .val (.long k1), .second, .val (.long v1), .second, .val (.long k2), .second, .val (.long v2), .second, .val (.ref b_1), .val (.int (1 : Int32)), .val (.long (-9223372036854775808 : Int64)), .second, .val (.long (-9223372036854775808 : Int64)), .second, .val (.int (1 : Int32)), .val (.int (0 : Int32))] [(.int (1 : Int32))])
        refine Go.st (fun _ => XS.goto X_95.here hx rfl (pc0 := 142) (pc' := 146) rfl (hb hby at_142) (by decide) (by decide)) ?_
        show Go p e below s _ _ _ T_95 (mkF m 146 #[.val (.int nx), .val (.int fx), .val (.long k1), .second, .val (.long v1), .second, .val (.long k2), .second, .val (.long v2), .second, .val (.ref b_1), .val (.int (1 : Int32)), .val (.long (-9223372036854775808 : Int64)), .second, .val (.long (-9223372036854775808 : Int64)), .second, .val (.int (1 : Int32)), .val (.int (0 : Int32))] [(.int (1 : Int32))])
        exact Go.retZ X_95 hx hlk Bd.returns (hb hby at_146) rfl (by rw [e_95]; exact ⟨rfl, N_95⟩) (by decide) (by decide)
      · rw [show (nx &&& (3 : Int32)) = (2 : Int32) from hd_88]
        show Go p e below s _ _ _ T_3 (mkF m 49 #[.val (.int nx), .val (.int fx), .val (.long k1), .second, .val (.long v1), .second, .val (.long k2), .second, .val (.long v2), .second, .val (.ref b_1), .val (.int (1 : Int32)), .val (.long (-9223372036854775808 : Int64)), .second, .val (.long (-9223372036854775808 : Int64)), .second, .unset, .unset] [(.int (2 : Int32))])
        refine Go.st (fun _ => XS.istore X_3.here hx rfl (hb hby at_49) rfl (l' := #[.val (.int nx), .val (.int fx), .val (.long k1), .second, .val (.long v1), .second, .val (.long k2), .second, .val (.long v2), .second, .val (.ref b_1), .val (.int (1 : Int32)), .val (.long (-9223372036854775808 : Int64)), .second, .val (.long (-9223372036854775808 : Int64)), .second, .val (.int (2 : Int32)), .unset]) rfl) ?_
        show Go p e below s _ _ _ T_3 (mkF m 51 #[.val (.int nx), .val (.int fx), .val (.long k1), .second, .val (.long v1), .second, .val (.long k2), .second, .val (.long v2), .second, .val (.ref b_1), .val (.int (1 : Int32)), .val (.long (-9223372036854775808 : Int64)), .second, .val (.long (-9223372036854775808 : Int64)), .second, .val (.int (2 : Int32)), .unset] [])
        refine Go.st (fun _ => XS.iload X_3.here hx rfl (hb hby at_51) rfl) ?_
        show Go p e below s _ _ _ T_3 (mkF m 53 #[.val (.int nx), .val (.int fx), .val (.long k1), .second, .val (.long v1), .second, .val (.long k2), .second, .val (.long v2), .second, .val (.ref b_1), .val (.int (1 : Int32)), .val (.long (-9223372036854775808 : Int64)), .second, .val (.long (-9223372036854775808 : Int64)), .second, .val (.int (2 : Int32)), .unset] [(.int (2 : Int32))])
        refine Go.st (fun _ => XS.iconst X_3.here hx rfl (hb hby at_53)) ?_
        show Go p e below s _ _ _ T_3 (mkF m 54 #[.val (.int nx), .val (.int fx), .val (.long k1), .second, .val (.long v1), .second, .val (.long k2), .second, .val (.long v2), .second, .val (.ref b_1), .val (.int (1 : Int32)), .val (.long (-9223372036854775808 : Int64)), .second, .val (.long (-9223372036854775808 : Int64)), .second, .val (.int (2 : Int32)), .unset] [(.int (1 : Int32)), (.int (2 : Int32))])
        refine Go.st (fun _ => XS.icmpNo X_3.here hx rfl (hb hby at_54) rfl (flt (by decide : ¬ ((2 : Int32) < (1 : Int32)))).1) ?_
        show Go p e below s _ _ _ T_3 (mkF m 57 #[.val (.int nx), .val (.int fx), .val (.long k1), .second, .val (.long v1), .second, .val (.long k2), .second, .val (.long v2), .second, .val (.ref b_1), .val (.int (1 : Int32)), .val (.long (-9223372036854775808 : Int64)), .second, .val (.long (-9223372036854775808 : Int64)), .second, .val (.int (2 : Int32)), .unset] [])
        refine Go.st (fun _ => XS.aload X_3.here hx rfl (hb hby at_57) rfl rfl) ?_
        show Go p e below s _ _ _ T_3 (mkF m 59 #[.val (.int nx), .val (.int fx), .val (.long k1), .second, .val (.long v1), .second, .val (.long k2), .second, .val (.long v2), .second, .val (.ref b_1), .val (.int (1 : Int32)), .val (.long (-9223372036854775808 : Int64)), .second, .val (.long (-9223372036854775808 : Int64)), .second, .val (.int (2 : Int32)), .unset] [(.ref b_1)])
        refine Go.st (fun _ => XS.lload X_3.here hx rfl (hb hby at_59) rfl) ?_
        show Go p e below s _ _ _ T_3 (mkF m 61 #[.val (.int nx), .val (.int fx), .val (.long k1), .second, .val (.long v1), .second, .val (.long k2), .second, .val (.long v2), .second, .val (.ref b_1), .val (.int (1 : Int32)), .val (.long (-9223372036854775808 : Int64)), .second, .val (.long (-9223372036854775808 : Int64)), .second, .val (.int (2 : Int32)), .unset] [(.long (-9223372036854775808 : Int64)), (.ref b_1)])
        refine Go.st (fun _ => XS.lload X_3.here hx rfl (hb hby at_61) rfl) ?_
        show Go p e below s _ _ _ T_3 (mkF m 63 #[.val (.int nx), .val (.int fx), .val (.long k1), .second, .val (.long v1), .second, .val (.long k2), .second, .val (.long v2), .second, .val (.ref b_1), .val (.int (1 : Int32)), .val (.long (-9223372036854775808 : Int64)), .second, .val (.long (-9223372036854775808 : Int64)), .second, .val (.int (2 : Int32)), .unset] [(.long v1), (.long (-9223372036854775808 : Int64)), (.ref b_1)])
        obtain ⟨cq_96, kq_96, q_96a, q_96b, q_96c⟩ := isOf hZ e_3 p_2_2
        obtain ⟨_, _, ⟨T_96, L_96, kc_96, nc_96⟩, -, X_96, ⟨Lc_96, hQ_96, l_96, y_96, z_96⟩, st_96⟩ := X_3.virtualBack hx (y := (⟨"kasane/util/LongLongMap", "put", "(JJ)V"⟩ : MethodName)) (z := (⟨"kasane/util/LongLongMap", "put", "(JJ)V"⟩ : MethodName)) hown (mvT hZ (hw _ (List.mem_of_getElem? (i := 29) rfl))) (mvT hZ (hw _ (List.mem_of_getElem? (i := 30) rfl))) (notFace_of_selects (args := #[]) (mvT hZ (hw _ (List.mem_of_getElem? (i := 32) rfl)))) (mvT hZ (hw _ (List.mem_of_getElem? (i := 32) rfl))) (mvT hZ (hw _ (List.mem_of_getElem? (i := 31) rfl))) (by decide) (backOf (W := 0) (rmPu l Z a0 hw [] b_1 (-9223372036854775808 : Int64) v1 t__2 kt__2 [(-9223372036854775808 : Int64), (0 : Int64), (-9223372036854775808 : Int64), (0 : Int64), (-9223372036854775808 : Int64), (0 : Int64), (-9223372036854775808 : Int64), (0 : Int64), (-9223372036854775808 : Int64), (0 : Int64), (-9223372036854775808 : Int64), (0 : Int64), (-9223372036854775808 : Int64), (0 : Int64), (-9223372036854775808 : Int64), (0 : Int64)] (0 : Int32) (0 : Int32) (0 : Int64) h_2 n0 z_2q p_2_2 p_2_3 p_2_4 p_2_5 p_2_6 vm0 gg_1 p_2_1 ne_b_1_t__2 own_inv0 (by decide)) hZ (hw _ (List.mem_of_getElem? (i := 33) rfl)) (hw _ (List.mem_of_getElem? (i := 2) rfl)) (by decide) (by decide)) q_96a q_96c (g := (mkF m 63 #[.val (.int nx), .val (.int fx), .val (.long k1), .second, .val (.long v1), .second, .val (.long k2), .second, .val (.long v2), .second, .val (.ref b_1), .val (.int (1 : Int32)), .val (.long (-9223372036854775808 : Int64)), .second, .val (.long (-9223372036854775808 : Int64)), .second, .val (.int (2 : Int32)), .unset] [(.long v1), (.long (-9223372036854775808 : Int64)), (.ref b_1)])) rfl (by rw [hml]; rfl) (Steps.refl _) (argsL := [(.long (-9223372036854775808 : Int64)), (.long v1)]) (rest := []) (lenOf pd_7 rfl) rfl (by show 2 * 0 + _ ≤ _; exact Nat.le_of_eq rfl) (hb hby at_63) (fun _ _ => ⟨rfl, e_3, (by decide : 2 + 0 ≤ _), (by decide : 20 + 0 ≤ _)⟩)
        dsimp only [Pt.U, Pt.locs, Pt.cells, Pt.slots] at X_96 l_96 y_96 z_96 st_96 hQ_96
        subst l_96 y_96 z_96
        obtain ⟨h_96, e_96⟩ : ∃ hh, T_96.heap = hh := ⟨_, rfl⟩
        rw [e_96] at hQ_96
        obtain ⟨ks2__96, n2__96, f2__96, r2__96, rfl, N_96q, K_96, p_96_0, p_96_1, p_96_2, p_96_3, p_96_4, p_96_5, p_96_6, p_96_7⟩ := hQ_96
        have N_96 := Fr.app N_3 N_96q
        refine Go.st (fun _ kk => st_96.trans kk) ?_
        have z_96q : n0 ≤ h_96.size := Nat.le_trans z_2q K_96.1
        show Go p e below s _ _ _ T_96 (mkF m 66 #[.val (.int nx), .val (.int fx), .val (.long k1), .second, .val (.long v1), .second, .val (.long k2), .second, .val (.long v2), .second, .val (.ref b_1), .val (.int (1 : Int32)), .val (.long (-9223372036854775808 : Int64)), .second, .val (.long (-9223372036854775808 : Int64)), .second, .val (.int (2 : Int32)), .unset] [])
        have hle_97 : 1 ≤ n2__96.toInt ∧ n2__96.toInt ≤ 1 := by have q1 := p_96_7; have q2 := (trivial : True); have q3 : (0 : Int32).toInt = 0 := (by decide); omega
        have hk_98 : ¬ (n2__96 = (0 : Int32)) := own_pos hle_97.1
        refine Go.st (fun _ => XS.iload X_96.here hx rfl (hb hby at_66) rfl) ?_
        show Go p e below s _ _ _ T_96 (mkF m 68 #[.val (.int nx), .val (.int fx), .val (.long k1), .second, .val (.long v1), .second, .val (.long k2), .second, .val (.long v2), .second, .val (.ref b_1), .val (.int (1 : Int32)), .val (.long (-9223372036854775808 : Int64)), .second, .val (.long (-9223372036854775808 : Int64)), .second, .val (.int (2 : Int32)), .unset] [(.int (2 : Int32))])
        refine Go.st (fun _ => XS.iconst X_96.here hx rfl (hb hby at_68)) ?_
        show Go p e below s _ _ _ T_96 (mkF m 69 #[.val (.int nx), .val (.int fx), .val (.long k1), .second, .val (.long v1), .second, .val (.long k2), .second, .val (.long v2), .second, .val (.ref b_1), .val (.int (1 : Int32)), .val (.long (-9223372036854775808 : Int64)), .second, .val (.long (-9223372036854775808 : Int64)), .second, .val (.int (2 : Int32)), .unset] [(.int (2 : Int32)), (.int (2 : Int32))])
        refine Go.st (fun _ => XS.icmpNo X_96.here hx rfl (hb hby at_69) rfl (flt (by decide : ¬ ((2 : Int32) < (2 : Int32)))).1) ?_
        show Go p e below s _ _ _ T_96 (mkF m 72 #[.val (.int nx), .val (.int fx), .val (.long k1), .second, .val (.long v1), .second, .val (.long k2), .second, .val (.long v2), .second, .val (.ref b_1), .val (.int (1 : Int32)), .val (.long (-9223372036854775808 : Int64)), .second, .val (.long (-9223372036854775808 : Int64)), .second, .val (.int (2 : Int32)), .unset] [])
        refine Go.st (fun _ => XS.aload X_96.here hx rfl (hb hby at_72) rfl rfl) ?_
        show Go p e below s _ _ _ T_96 (mkF m 74 #[.val (.int nx), .val (.int fx), .val (.long k1), .second, .val (.long v1), .second, .val (.long k2), .second, .val (.long v2), .second, .val (.ref b_1), .val (.int (1 : Int32)), .val (.long (-9223372036854775808 : Int64)), .second, .val (.long (-9223372036854775808 : Int64)), .second, .val (.int (2 : Int32)), .unset] [(.ref b_1)])
        refine Go.st (fun _ => XS.lload X_96.here hx rfl (hb hby at_74) rfl) ?_
        show Go p e below s _ _ _ T_96 (mkF m 76 #[.val (.int nx), .val (.int fx), .val (.long k1), .second, .val (.long v1), .second, .val (.long k2), .second, .val (.long v2), .second, .val (.ref b_1), .val (.int (1 : Int32)), .val (.long (-9223372036854775808 : Int64)), .second, .val (.long (-9223372036854775808 : Int64)), .second, .val (.int (2 : Int32)), .unset] [(.long (-9223372036854775808 : Int64)), (.ref b_1)])
        refine Go.st (fun _ => XS.lload X_96.here hx rfl (hb hby at_76) rfl) ?_
        show Go p e below s _ _ _ T_96 (mkF m 78 #[.val (.int nx), .val (.int fx), .val (.long k1), .second, .val (.long v1), .second, .val (.long k2), .second, .val (.long v2), .second, .val (.ref b_1), .val (.int (1 : Int32)), .val (.long (-9223372036854775808 : Int64)), .second, .val (.long (-9223372036854775808 : Int64)), .second, .val (.int (2 : Int32)), .unset] [(.long v2), (.long (-9223372036854775808 : Int64)), (.ref b_1)])
        obtain ⟨cq_99, kq_99, q_99a, q_99b, q_99c⟩ := isOf hZ e_96 p_96_0
        obtain ⟨_, _, ⟨T_99, L_99, kc_99, nc_99⟩, -, X_99, ⟨Lc_99, hQ_99, l_99, y_99, z_99⟩, st_99⟩ := X_96.virtualBack hx (y := (⟨"kasane/util/LongLongMap", "put", "(JJ)V"⟩ : MethodName)) (z := (⟨"kasane/util/LongLongMap", "put", "(JJ)V"⟩ : MethodName)) hown (mvT hZ (hw _ (List.mem_of_getElem? (i := 29) rfl))) (mvT hZ (hw _ (List.mem_of_getElem? (i := 30) rfl))) (notFace_of_selects (args := #[]) (mvT hZ (hw _ (List.mem_of_getElem? (i := 32) rfl)))) (mvT hZ (hw _ (List.mem_of_getElem? (i := 32) rfl))) (mvT hZ (hw _ (List.mem_of_getElem? (i := 31) rfl))) (by decide) (backOf (W := 0) (rmPu l Z a0 hw [] b_1 (-9223372036854775808 : Int64) v2 t__2 kt__2 ks2__96 n2__96 f2__96 r2__96 h_96 n0 z_96q p_96_0 p_96_1 p_96_2 p_96_3 p_96_4 p_96_5 gg_1 p_2_1 ne_b_1_t__2 p_96_6 (by have q := hle_97; omega)) hZ (hw _ (List.mem_of_getElem? (i := 33) rfl)) (hw _ (List.mem_of_getElem? (i := 2) rfl)) (by decide) (by decide)) q_99a q_99c (g := (mkF m 78 #[.val (.int nx), .val (.int fx), .val (.long k1), .second, .val (.long v1), .second, .val (.long k2), .second, .val (.long v2), .second, .val (.ref b_1), .val (.int (1 : Int32)), .val (.long (-9223372036854775808 : Int64)), .second, .val (.long (-9223372036854775808 : Int64)), .second, .val (.int (2 : Int32)), .unset] [(.long v2), (.long (-9223372036854775808 : Int64)), (.ref b_1)])) rfl (by rw [hml]; rfl) (Steps.refl _) (argsL := [(.long (-9223372036854775808 : Int64)), (.long v2)]) (rest := []) (lenOf pd_7 rfl) rfl (by show 2 * 0 + _ ≤ _; exact Nat.le_of_eq rfl) (hb hby at_78) (fun _ _ => ⟨rfl, e_96, (by decide : 2 + 0 ≤ _), (by decide : 20 + 0 ≤ _)⟩)
        dsimp only [Pt.U, Pt.locs, Pt.cells, Pt.slots] at X_99 l_99 y_99 z_99 st_99 hQ_99
        subst l_99 y_99 z_99
        obtain ⟨h_99, e_99⟩ : ∃ hh, T_99.heap = hh := ⟨_, rfl⟩
        rw [e_99] at hQ_99
        obtain ⟨ks2__99, n2__99, f2__99, r2__99, rfl, N_99q, K_99, p_99_0, p_99_1, p_99_2, p_99_3, p_99_4, p_99_5, p_99_6, p_99_7⟩ := hQ_99
        have N_99 := Fr.app N_96 N_99q
        refine Go.st (fun _ kk => st_99.trans kk) ?_
        have z_99q : n0 ≤ h_99.size := Nat.le_trans z_96q K_99.1
        show Go p e below s _ _ _ T_99 (mkF m 81 #[.val (.int nx), .val (.int fx), .val (.long k1), .second, .val (.long v1), .second, .val (.long k2), .second, .val (.long v2), .second, .val (.ref b_1), .val (.int (1 : Int32)), .val (.long (-9223372036854775808 : Int64)), .second, .val (.long (-9223372036854775808 : Int64)), .second, .val (.int (2 : Int32)), .unset] [])
        have hle_100 : 1 ≤ n2__99.toInt ∧ n2__99.toInt ≤ 2 := by have q1 := p_99_7; have q2 := hle_97; omega
        have hk_101 : ¬ (n2__99 = (0 : Int32)) := own_pos hle_100.1
        refine Go.st (fun _ => XS.iload X_99.here hx rfl (hb hby at_81) rfl) ?_
        show Go p e below s _ _ _ T_99 (mkF m 83 #[.val (.int nx), .val (.int fx), .val (.long k1), .second, .val (.long v1), .second, .val (.long k2), .second, .val (.long v2), .second, .val (.ref b_1), .val (.int (1 : Int32)), .val (.long (-9223372036854775808 : Int64)), .second, .val (.long (-9223372036854775808 : Int64)), .second, .val (.int (2 : Int32)), .unset] [(.int (2 : Int32))])
        refine Go.st (fun _ => XS.iconst X_99.here hx rfl (hb hby at_83)) ?_
        show Go p e below s _ _ _ T_99 (mkF m 84 #[.val (.int nx), .val (.int fx), .val (.long k1), .second, .val (.long v1), .second, .val (.long k2), .second, .val (.long v2), .second, .val (.ref b_1), .val (.int (1 : Int32)), .val (.long (-9223372036854775808 : Int64)), .second, .val (.long (-9223372036854775808 : Int64)), .second, .val (.int (2 : Int32)), .unset] [(.int (3 : Int32)), (.int (2 : Int32))])
        refine Go.st (fun _ => XS.icmpYes X_99.here hx rfl (pc0 := 84) (pc' := 96) rfl (hb hby at_84) rfl (tlt (by decide : (2 : Int32) < (3 : Int32))).1 (by decide) (by decide)) ?_
        show Go p e below s _ _ _ T_99 (mkF m 96 #[.val (.int nx), .val (.int fx), .val (.long k1), .second, .val (.long v1), .second, .val (.long k2), .second, .val (.long v2), .second, .val (.ref b_1), .val (.int (1 : Int32)), .val (.long (-9223372036854775808 : Int64)), .second, .val (.long (-9223372036854775808 : Int64)), .second, .val (.int (2 : Int32)), .unset] [])
        refine Go.st (fun _ => XS.aload X_99.here hx rfl (hb hby at_96) rfl rfl) ?_
        show Go p e below s _ _ _ T_99 (mkF m 98 #[.val (.int nx), .val (.int fx), .val (.long k1), .second, .val (.long v1), .second, .val (.long k2), .second, .val (.long v2), .second, .val (.ref b_1), .val (.int (1 : Int32)), .val (.long (-9223372036854775808 : Int64)), .second, .val (.long (-9223372036854775808 : Int64)), .second, .val (.int (2 : Int32)), .unset] [(.ref b_1)])
        obtain ⟨cq_102, kq_102, q_102a, q_102b, q_102c⟩ := isOf hZ e_99 p_99_0
        obtain ⟨_, _, ⟨T_102, L_102, kc_102, nc_102⟩, -, X_102, ⟨Lc_102, hQ_102, l_102, y_102, z_102⟩, st_102⟩ := X_99.virtualBack hx (y := (⟨"kasane/util/LongLongMap", "isEmpty", "()Z"⟩ : MethodName)) (z := (⟨"kasane/util/LongLongMap", "isEmpty", "()Z"⟩ : MethodName)) hown (mvT hZ (hw _ (List.mem_of_getElem? (i := 16) rfl))) (mvT hZ (hw _ (List.mem_of_getElem? (i := 17) rfl))) (notFace_of_selects (args := #[]) (mvT hZ (hw _ (List.mem_of_getElem? (i := 19) rfl)))) (mvT hZ (hw _ (List.mem_of_getElem? (i := 19) rfl))) (mvT hZ (hw _ (List.mem_of_getElem? (i := 18) rfl))) (by decide) (backOf (W := 0) (rmEm l Z a0 hw [] b_1 n2__99 h_99 n0 z_99q p_99_2) hZ (hw _ (List.mem_of_getElem? (i := 20) rfl)) (hw _ (List.mem_of_getElem? (i := 2) rfl)) (by decide) (by decide)) q_102a q_102c (g := (mkF m 98 #[.val (.int nx), .val (.int fx), .val (.long k1), .second, .val (.long v1), .second, .val (.long k2), .second, .val (.long v2), .second, .val (.ref b_1), .val (.int (1 : Int32)), .val (.long (-9223372036854775808 : Int64)), .second, .val (.long (-9223372036854775808 : Int64)), .second, .val (.int (2 : Int32)), .unset] [(.ref b_1)])) rfl (by rw [hml]; rfl) (Steps.refl _) (argsL := []) (rest := []) (lenOf pd_6 rfl) rfl (by show 2 * 0 + _ ≤ _; exact Nat.le_of_eq rfl) (hb hby at_98) (fun _ _ => ⟨rfl, e_99, (by decide : 2 + 0 ≤ _), (by decide : 20 + 0 ≤ _)⟩)
        dsimp only [Pt.U, Pt.locs, Pt.cells, Pt.slots] at X_102 l_102 y_102 z_102 st_102 hQ_102
        subst l_102 y_102 z_102
        obtain ⟨h_102, e_102⟩ : ∃ hh, T_102.heap = hh := ⟨_, rfl⟩
        rw [e_102] at hQ_102
        obtain ⟨rfl, N_102q, sm_102⟩ := hQ_102
        have N_102 := Fr.app N_99 N_102q
        refine Go.st (fun _ kk => st_102.trans kk) ?_
        rw [sm_102] at e_102
        show Go p e below s _ _ _ T_102 (mkF m 101 #[.val (.int nx), .val (.int fx), .val (.long k1), .second, .val (.long v1), .second, .val (.long k2), .second, .val (.long v2), .second, .val (.ref b_1), .val (.int (1 : Int32)), .val (.long (-9223372036854775808 : Int64)), .second, .val (.long (-9223372036854775808 : Int64)), .second, .val (.int (2 : Int32)), .unset] [(.int (b2i (n2__99 = (0 : Int32))))])
        rw [show (b2i (n2__99 = (0 : Int32))) = (0 : Int32) from b2i_neg hk_101]
        show Go p e below s _ _ _ T_102 (mkF m 101 #[.val (.int nx), .val (.int fx), .val (.long k1), .second, .val (.long v1), .second, .val (.long k2), .second, .val (.long v2), .second, .val (.ref b_1), .val (.int (1 : Int32)), .val (.long (-9223372036854775808 : Int64)), .second, .val (.long (-9223372036854775808 : Int64)), .second, .val (.int (2 : Int32)), .unset] [(.int (0 : Int32))])
        refine Go.st (fun _ => XS.istore X_102.here hx rfl (hb hby at_101) rfl (l' := #[.val (.int nx), .val (.int fx), .val (.long k1), .second, .val (.long v1), .second, .val (.long k2), .second, .val (.long v2), .second, .val (.ref b_1), .val (.int (1 : Int32)), .val (.long (-9223372036854775808 : Int64)), .second, .val (.long (-9223372036854775808 : Int64)), .second, .val (.int (2 : Int32)), .val (.int (0 : Int32))]) rfl) ?_
        show Go p e below s _ _ _ T_102 (mkF m 103 #[.val (.int nx), .val (.int fx), .val (.long k1), .second, .val (.long v1), .second, .val (.long k2), .second, .val (.long v2), .second, .val (.ref b_1), .val (.int (1 : Int32)), .val (.long (-9223372036854775808 : Int64)), .second, .val (.long (-9223372036854775808 : Int64)), .second, .val (.int (2 : Int32)), .val (.int (0 : Int32))] [])
        refine Go.st (fun _ => XS.iload X_102.here hx rfl (hb hby at_103) rfl) ?_
        show Go p e below s _ _ _ T_102 (mkF m 105 #[.val (.int nx), .val (.int fx), .val (.long k1), .second, .val (.long v1), .second, .val (.long k2), .second, .val (.long v2), .second, .val (.ref b_1), .val (.int (1 : Int32)), .val (.long (-9223372036854775808 : Int64)), .second, .val (.long (-9223372036854775808 : Int64)), .second, .val (.int (2 : Int32)), .val (.int (0 : Int32))] [(.int (1 : Int32))])
        refine Go.st (fun _ => XS.ifNo X_102.here hx rfl (hb hby at_105) rfl ((if0 _ _).trans (feq (by decide : ¬ ((1 : Int32) = (0 : Int32)))).1)) ?_
        show Go p e below s _ _ _ T_102 (mkF m 108 #[.val (.int nx), .val (.int fx), .val (.long k1), .second, .val (.long v1), .second, .val (.long k2), .second, .val (.long v2), .second, .val (.ref b_1), .val (.int (1 : Int32)), .val (.long (-9223372036854775808 : Int64)), .second, .val (.long (-9223372036854775808 : Int64)), .second, .val (.int (2 : Int32)), .val (.int (0 : Int32))] [])
        refine Go.st (fun _ => XS.iload X_102.here hx rfl (hb hby at_108) rfl) ?_
        show Go p e below s _ _ _ T_102 (mkF m 110 #[.val (.int nx), .val (.int fx), .val (.long k1), .second, .val (.long v1), .second, .val (.long k2), .second, .val (.long v2), .second, .val (.ref b_1), .val (.int (1 : Int32)), .val (.long (-9223372036854775808 : Int64)), .second, .val (.long (-9223372036854775808 : Int64)), .second, .val (.int (2 : Int32)), .val (.int (0 : Int32))] [(.int (0 : Int32))])
        refine Go.st (fun _ => XS.iload X_102.here hx rfl (hb hby at_110) rfl) ?_
        show Go p e below s _ _ _ T_102 (mkF m 112 #[.val (.int nx), .val (.int fx), .val (.long k1), .second, .val (.long v1), .second, .val (.long k2), .second, .val (.long v2), .second, .val (.ref b_1), .val (.int (1 : Int32)), .val (.long (-9223372036854775808 : Int64)), .second, .val (.long (-9223372036854775808 : Int64)), .second, .val (.int (2 : Int32)), .val (.int (0 : Int32))] [(.int (2 : Int32)), (.int (0 : Int32))])
        refine Go.st (fun _ => XS.ifYes X_102.here hx rfl (pc0 := 112) (pc' := 119) rfl (hb hby at_112) rfl ((if0 _ _).trans (feq (by decide : ¬ ((2 : Int32) = (0 : Int32)))).2) (by decide) (by decide)) ?_
        show Go p e below s _ _ _ T_102 (mkF m 119 #[.val (.int nx), .val (.int fx), .val (.long k1), .second, .val (.long v1), .second, .val (.long k2), .second, .val (.long v2), .second, .val (.ref b_1), .val (.int (1 : Int32)), .val (.long (-9223372036854775808 : Int64)), .second, .val (.long (-9223372036854775808 : Int64)), .second, .val (.int (2 : Int32)), .val (.int (0 : Int32))] [(.int (0 : Int32))])
        refine Go.st (fun _ => XS.iconst X_102.here hx rfl (hb hby at_119)) ?_
        show Go p e below s _ _ _ T_102 (mkF m 120 #[.val (.int nx), .val (.int fx), .val (.long k1), .second, .val (.long v1), .second, .val (.long k2), .second, .val (.long v2), .second, .val (.ref b_1), .val (.int (1 : Int32)), .val (.long (-9223372036854775808 : Int64)), .second, .val (.long (-9223372036854775808 : Int64)), .second, .val (.int (2 : Int32)), .val (.int (0 : Int32))] [(.int (0 : Int32)), (.int (0 : Int32))])
        refine Go.st (fun _ => XS.icmpNo X_102.here hx rfl (hb hby at_120) rfl (teq (by decide : (0 : Int32) = (0 : Int32))).2) ?_
        show Go p e below s _ _ _ T_102 (mkF m 123 #[.val (.int nx), .val (.int fx), .val (.long k1), .second, .val (.long v1), .second, .val (.long k2), .second, .val (.long v2), .second, .val (.ref b_1), .val (.int (1 : Int32)), .val (.long (-9223372036854775808 : Int64)), .second, .val (.long (-9223372036854775808 : Int64)), .second, .val (.int (2 : Int32)), .val (.int (0 : Int32))] [])
        refine Go.st (fun _ => XS.iload X_102.here hx rfl (hb hby at_123) rfl) ?_
        show Go p e below s _ _ _ T_102 (mkF m 125 #[.val (.int nx), .val (.int fx), .val (.long k1), .second, .val (.long v1), .second, .val (.long k2), .second, .val (.long v2), .second, .val (.ref b_1), .val (.int (1 : Int32)), .val (.long (-9223372036854775808 : Int64)), .second, .val (.long (-9223372036854775808 : Int64)), .second, .val (.int (2 : Int32)), .val (.int (0 : Int32))] [(.int (0 : Int32))])
        refine Go.st (fun _ => XS.aload X_102.here hx rfl (hb hby at_125) rfl rfl) ?_
        show Go p e below s _ _ _ T_102 (mkF m 127 #[.val (.int nx), .val (.int fx), .val (.long k1), .second, .val (.long v1), .second, .val (.long k2), .second, .val (.long v2), .second, .val (.ref b_1), .val (.int (1 : Int32)), .val (.long (-9223372036854775808 : Int64)), .second, .val (.long (-9223372036854775808 : Int64)), .second, .val (.int (2 : Int32)), .val (.int (0 : Int32))] [(.ref b_1), (.int (0 : Int32))])
        obtain ⟨cq_103, kq_103, q_103a, q_103b, q_103c⟩ := isOf hZ e_102 p_99_0
        obtain ⟨_, _, ⟨T_103, L_103, kc_103, nc_103⟩, -, X_103, ⟨Lc_103, hQ_103, l_103, y_103, z_103⟩, st_103⟩ := X_102.virtualBack hx (y := (⟨"kasane/util/LongLongMap", "size", "()I"⟩ : MethodName)) (z := (⟨"kasane/util/LongLongMap", "size", "()I"⟩ : MethodName)) hown (mvT hZ (hw _ (List.mem_of_getElem? (i := 24) rfl))) (mvT hZ (hw _ (List.mem_of_getElem? (i := 25) rfl))) (notFace_of_selects (args := #[]) (mvT hZ (hw _ (List.mem_of_getElem? (i := 27) rfl)))) (mvT hZ (hw _ (List.mem_of_getElem? (i := 27) rfl))) (mvT hZ (hw _ (List.mem_of_getElem? (i := 26) rfl))) (by decide) (backOf (W := 1) (rmSz l Z a0 hw [] b_1 n2__99 h_99 n0 z_99q p_99_2) hZ (hw _ (List.mem_of_getElem? (i := 28) rfl)) (hw _ (List.mem_of_getElem? (i := 2) rfl)) (by decide) (by decide)) q_103a q_103c (g := (mkF m 127 #[.val (.int nx), .val (.int fx), .val (.long k1), .second, .val (.long v1), .second, .val (.long k2), .second, .val (.long v2), .second, .val (.ref b_1), .val (.int (1 : Int32)), .val (.long (-9223372036854775808 : Int64)), .second, .val (.long (-9223372036854775808 : Int64)), .second, .val (.int (2 : Int32)), .val (.int (0 : Int32))] [(.ref b_1), (.int (0 : Int32))])) rfl (by rw [hml]; rfl) (Steps.refl _) (argsL := []) (rest := [(.int (0 : Int32))]) (lenOf pd_2 rfl) rfl (by show 2 * 0 + _ ≤ _; exact Nat.le_of_eq rfl) (hb hby at_127) (fun _ _ => ⟨rfl, e_102, (by decide : 2 + 0 ≤ _), (by decide : 20 + 0 ≤ _)⟩)
        dsimp only [Pt.U, Pt.locs, Pt.cells, Pt.slots] at X_103 l_103 y_103 z_103 st_103 hQ_103
        subst l_103 y_103 z_103
        obtain ⟨h_103, e_103⟩ : ∃ hh, T_103.heap = hh := ⟨_, rfl⟩
        rw [e_103] at hQ_103
        obtain ⟨rfl, N_103q, sm_103⟩ := hQ_103
        have N_103 := Fr.app N_102 N_103q
        refine Go.st (fun _ kk => st_103.trans kk) ?_
        rw [sm_103] at e_103
        show Go p e below s _ _ _ T_103 (mkF m 130 #[.val (.int nx), .val (.int fx), .val (.long k1), .second, .val (.long v1), .second, .val (.long k2), .second, .val (.long v2), .second, .val (.ref b_1), .val (.int (1 : Int32)), .val (.long (-9223372036854775808 : Int64)), .second, .val (.long (-9223372036854775808 : Int64)), .second, .val (.int (2 : Int32)), .val (.int (0 : Int32))] [(.int n2__99), (.int (0 : Int32))])
        refine Go.st (fun _ => XS.ifYes X_103.here hx rfl (pc0 := 130) (pc' := 137) rfl (hb hby at_130) rfl ((if0 _ _).trans (feq hk_101).2) (by decide) (by decide)) ?_
        show Go p e below s _ _ _ T_103 (mkF m 137 #[.val (.int nx), .val (.int fx), .val (.long k1), .second, .val (.long v1), .second, .val (.long k2), .second, .val (.long v2), .second, .val (.ref b_1), .val (.int (1 : Int32)), .val (.long (-9223372036854775808 : Int64)), .second, .val (.long (-9223372036854775808 : Int64)), .second, .val (.int (2 : Int32)), .val (.int (0 : Int32))] [(.int (0 : Int32))])
        refine Go.st (fun _ => XS.iconst X_103.here hx rfl (hb hby at_137)) ?_
        show Go p e below s _ _ _ T_103 (mkF m 138 #[.val (.int nx), .val (.int fx), .val (.long k1), .second, .val (.long v1), .second, .val (.long k2), .second, .val (.long v2), .second, .val (.ref b_1), .val (.int (1 : Int32)), .val (.long (-9223372036854775808 : Int64)), .second, .val (.long (-9223372036854775808 : Int64)), .second, .val (.int (2 : Int32)), .val (.int (0 : Int32))] [(.int (0 : Int32)), (.int (0 : Int32))])
        refine Go.st (fun _ => XS.icmpNo X_103.here hx rfl (hb hby at_138) rfl (teq (by decide : (0 : Int32) = (0 : Int32))).2) ?_
        show Go p e below s _ _ _ T_103 (mkF m 141 #[.val (.int nx), .val (.int fx), .val (.long k1), .second, .val (.long v1), .second, .val (.long k2), .second, .val (.long v2), .second, .val (.ref b_1), .val (.int (1 : Int32)), .val (.long (-9223372036854775808 : Int64)), .second, .val (.long (-9223372036854775808 : Int64)), .second, .val (.int (2 : Int32)), .val (.int (0 : Int32))] [])
        refine Go.st (fun _ => XS.iconst X_103.here hx rfl (hb hby at_141)) ?_
        show Go p e below s _ _ _ T_103 (mkF m 142 #[.val (.int nx), .val (.int fx), .val (.long k1), .second, .val (.long v1), .second, .val (.long k2), .second, .val (.long v2), .second, .val (.ref b_1), .val (.int (1 : Int32)), .val (.long (-9223372036854775808 : Int64)), .second, .val (.long (-9223372036854775808 : Int64)), .second, .val (.int (2 : Int32)), .val (.int (0 : Int32))] [(.int (1 : Int32))])
        refine Go.st (fun _ => XS.goto X_103.here hx rfl (pc0 := 142) (pc' := 146) rfl (hb hby at_142) (by decide) (by decide)) ?_
        show Go p e below s _ _ _ T_103 (mkF m 146 #[.val (.int nx), .val (.int fx), .val (.long k1), .second, .val (.long v1), .second, .val (.long k2), .second, .val (.long v2), .second, .val (.ref b_1), .val (.int (1 : Int32)), .val (.long (-9223372036854775808 : Int64)), .second, .val (.long (-9223372036854775808 : Int64)), .second, .val (.int (2 : Int32)), .val (.int (0 : Int32))] [(.int (1 : Int32))])
        exact Go.retZ X_103 hx hlk Bd.returns (hb hby at_146) rfl (by rw [e_103]; exact ⟨rfl, N_103⟩) (by decide) (by decide)
      · rw [show (nx &&& (3 : Int32)) = (3 : Int32) from hd_88]
        show Go p e below s _ _ _ T_3 (mkF m 49 #[.val (.int nx), .val (.int fx), .val (.long k1), .second, .val (.long v1), .second, .val (.long k2), .second, .val (.long v2), .second, .val (.ref b_1), .val (.int (1 : Int32)), .val (.long (-9223372036854775808 : Int64)), .second, .val (.long (-9223372036854775808 : Int64)), .second, .unset, .unset] [(.int (3 : Int32))])
        refine Go.st (fun _ => XS.istore X_3.here hx rfl (hb hby at_49) rfl (l' := #[.val (.int nx), .val (.int fx), .val (.long k1), .second, .val (.long v1), .second, .val (.long k2), .second, .val (.long v2), .second, .val (.ref b_1), .val (.int (1 : Int32)), .val (.long (-9223372036854775808 : Int64)), .second, .val (.long (-9223372036854775808 : Int64)), .second, .val (.int (3 : Int32)), .unset]) rfl) ?_
        show Go p e below s _ _ _ T_3 (mkF m 51 #[.val (.int nx), .val (.int fx), .val (.long k1), .second, .val (.long v1), .second, .val (.long k2), .second, .val (.long v2), .second, .val (.ref b_1), .val (.int (1 : Int32)), .val (.long (-9223372036854775808 : Int64)), .second, .val (.long (-9223372036854775808 : Int64)), .second, .val (.int (3 : Int32)), .unset] [])
        refine Go.st (fun _ => XS.iload X_3.here hx rfl (hb hby at_51) rfl) ?_
        show Go p e below s _ _ _ T_3 (mkF m 53 #[.val (.int nx), .val (.int fx), .val (.long k1), .second, .val (.long v1), .second, .val (.long k2), .second, .val (.long v2), .second, .val (.ref b_1), .val (.int (1 : Int32)), .val (.long (-9223372036854775808 : Int64)), .second, .val (.long (-9223372036854775808 : Int64)), .second, .val (.int (3 : Int32)), .unset] [(.int (3 : Int32))])
        refine Go.st (fun _ => XS.iconst X_3.here hx rfl (hb hby at_53)) ?_
        show Go p e below s _ _ _ T_3 (mkF m 54 #[.val (.int nx), .val (.int fx), .val (.long k1), .second, .val (.long v1), .second, .val (.long k2), .second, .val (.long v2), .second, .val (.ref b_1), .val (.int (1 : Int32)), .val (.long (-9223372036854775808 : Int64)), .second, .val (.long (-9223372036854775808 : Int64)), .second, .val (.int (3 : Int32)), .unset] [(.int (1 : Int32)), (.int (3 : Int32))])
        refine Go.st (fun _ => XS.icmpNo X_3.here hx rfl (hb hby at_54) rfl (flt (by decide : ¬ ((3 : Int32) < (1 : Int32)))).1) ?_
        show Go p e below s _ _ _ T_3 (mkF m 57 #[.val (.int nx), .val (.int fx), .val (.long k1), .second, .val (.long v1), .second, .val (.long k2), .second, .val (.long v2), .second, .val (.ref b_1), .val (.int (1 : Int32)), .val (.long (-9223372036854775808 : Int64)), .second, .val (.long (-9223372036854775808 : Int64)), .second, .val (.int (3 : Int32)), .unset] [])
        refine Go.st (fun _ => XS.aload X_3.here hx rfl (hb hby at_57) rfl rfl) ?_
        show Go p e below s _ _ _ T_3 (mkF m 59 #[.val (.int nx), .val (.int fx), .val (.long k1), .second, .val (.long v1), .second, .val (.long k2), .second, .val (.long v2), .second, .val (.ref b_1), .val (.int (1 : Int32)), .val (.long (-9223372036854775808 : Int64)), .second, .val (.long (-9223372036854775808 : Int64)), .second, .val (.int (3 : Int32)), .unset] [(.ref b_1)])
        refine Go.st (fun _ => XS.lload X_3.here hx rfl (hb hby at_59) rfl) ?_
        show Go p e below s _ _ _ T_3 (mkF m 61 #[.val (.int nx), .val (.int fx), .val (.long k1), .second, .val (.long v1), .second, .val (.long k2), .second, .val (.long v2), .second, .val (.ref b_1), .val (.int (1 : Int32)), .val (.long (-9223372036854775808 : Int64)), .second, .val (.long (-9223372036854775808 : Int64)), .second, .val (.int (3 : Int32)), .unset] [(.long (-9223372036854775808 : Int64)), (.ref b_1)])
        refine Go.st (fun _ => XS.lload X_3.here hx rfl (hb hby at_61) rfl) ?_
        show Go p e below s _ _ _ T_3 (mkF m 63 #[.val (.int nx), .val (.int fx), .val (.long k1), .second, .val (.long v1), .second, .val (.long k2), .second, .val (.long v2), .second, .val (.ref b_1), .val (.int (1 : Int32)), .val (.long (-9223372036854775808 : Int64)), .second, .val (.long (-9223372036854775808 : Int64)), .second, .val (.int (3 : Int32)), .unset] [(.long v1), (.long (-9223372036854775808 : Int64)), (.ref b_1)])
        obtain ⟨cq_104, kq_104, q_104a, q_104b, q_104c⟩ := isOf hZ e_3 p_2_2
        obtain ⟨_, _, ⟨T_104, L_104, kc_104, nc_104⟩, -, X_104, ⟨Lc_104, hQ_104, l_104, y_104, z_104⟩, st_104⟩ := X_3.virtualBack hx (y := (⟨"kasane/util/LongLongMap", "put", "(JJ)V"⟩ : MethodName)) (z := (⟨"kasane/util/LongLongMap", "put", "(JJ)V"⟩ : MethodName)) hown (mvT hZ (hw _ (List.mem_of_getElem? (i := 29) rfl))) (mvT hZ (hw _ (List.mem_of_getElem? (i := 30) rfl))) (notFace_of_selects (args := #[]) (mvT hZ (hw _ (List.mem_of_getElem? (i := 32) rfl)))) (mvT hZ (hw _ (List.mem_of_getElem? (i := 32) rfl))) (mvT hZ (hw _ (List.mem_of_getElem? (i := 31) rfl))) (by decide) (backOf (W := 0) (rmPu l Z a0 hw [] b_1 (-9223372036854775808 : Int64) v1 t__2 kt__2 [(-9223372036854775808 : Int64), (0 : Int64), (-9223372036854775808 : Int64), (0 : Int64), (-9223372036854775808 : Int64), (0 : Int64), (-9223372036854775808 : Int64), (0 : Int64), (-9223372036854775808 : Int64), (0 : Int64), (-9223372036854775808 : Int64), (0 : Int64), (-9223372036854775808 : Int64), (0 : Int64), (-9223372036854775808 : Int64), (0 : Int64)] (0 : Int32) (0 : Int32) (0 : Int64) h_2 n0 z_2q p_2_2 p_2_3 p_2_4 p_2_5 p_2_6 vm0 gg_1 p_2_1 ne_b_1_t__2 own_inv0 (by decide)) hZ (hw _ (List.mem_of_getElem? (i := 33) rfl)) (hw _ (List.mem_of_getElem? (i := 2) rfl)) (by decide) (by decide)) q_104a q_104c (g := (mkF m 63 #[.val (.int nx), .val (.int fx), .val (.long k1), .second, .val (.long v1), .second, .val (.long k2), .second, .val (.long v2), .second, .val (.ref b_1), .val (.int (1 : Int32)), .val (.long (-9223372036854775808 : Int64)), .second, .val (.long (-9223372036854775808 : Int64)), .second, .val (.int (3 : Int32)), .unset] [(.long v1), (.long (-9223372036854775808 : Int64)), (.ref b_1)])) rfl (by rw [hml]; rfl) (Steps.refl _) (argsL := [(.long (-9223372036854775808 : Int64)), (.long v1)]) (rest := []) (lenOf pd_7 rfl) rfl (by show 2 * 0 + _ ≤ _; exact Nat.le_of_eq rfl) (hb hby at_63) (fun _ _ => ⟨rfl, e_3, (by decide : 2 + 0 ≤ _), (by decide : 20 + 0 ≤ _)⟩)
        dsimp only [Pt.U, Pt.locs, Pt.cells, Pt.slots] at X_104 l_104 y_104 z_104 st_104 hQ_104
        subst l_104 y_104 z_104
        obtain ⟨h_104, e_104⟩ : ∃ hh, T_104.heap = hh := ⟨_, rfl⟩
        rw [e_104] at hQ_104
        obtain ⟨ks2__104, n2__104, f2__104, r2__104, rfl, N_104q, K_104, p_104_0, p_104_1, p_104_2, p_104_3, p_104_4, p_104_5, p_104_6, p_104_7⟩ := hQ_104
        have N_104 := Fr.app N_3 N_104q
        refine Go.st (fun _ kk => st_104.trans kk) ?_
        have z_104q : n0 ≤ h_104.size := Nat.le_trans z_2q K_104.1
        show Go p e below s _ _ _ T_104 (mkF m 66 #[.val (.int nx), .val (.int fx), .val (.long k1), .second, .val (.long v1), .second, .val (.long k2), .second, .val (.long v2), .second, .val (.ref b_1), .val (.int (1 : Int32)), .val (.long (-9223372036854775808 : Int64)), .second, .val (.long (-9223372036854775808 : Int64)), .second, .val (.int (3 : Int32)), .unset] [])
        have hle_105 : 1 ≤ n2__104.toInt ∧ n2__104.toInt ≤ 1 := by have q1 := p_104_7; have q2 := (trivial : True); have q3 : (0 : Int32).toInt = 0 := (by decide); omega
        have hk_106 : ¬ (n2__104 = (0 : Int32)) := own_pos hle_105.1
        refine Go.st (fun _ => XS.iload X_104.here hx rfl (hb hby at_66) rfl) ?_
        show Go p e below s _ _ _ T_104 (mkF m 68 #[.val (.int nx), .val (.int fx), .val (.long k1), .second, .val (.long v1), .second, .val (.long k2), .second, .val (.long v2), .second, .val (.ref b_1), .val (.int (1 : Int32)), .val (.long (-9223372036854775808 : Int64)), .second, .val (.long (-9223372036854775808 : Int64)), .second, .val (.int (3 : Int32)), .unset] [(.int (3 : Int32))])
        refine Go.st (fun _ => XS.iconst X_104.here hx rfl (hb hby at_68)) ?_
        show Go p e below s _ _ _ T_104 (mkF m 69 #[.val (.int nx), .val (.int fx), .val (.long k1), .second, .val (.long v1), .second, .val (.long k2), .second, .val (.long v2), .second, .val (.ref b_1), .val (.int (1 : Int32)), .val (.long (-9223372036854775808 : Int64)), .second, .val (.long (-9223372036854775808 : Int64)), .second, .val (.int (3 : Int32)), .unset] [(.int (2 : Int32)), (.int (3 : Int32))])
        refine Go.st (fun _ => XS.icmpNo X_104.here hx rfl (hb hby at_69) rfl (flt (by decide : ¬ ((3 : Int32) < (2 : Int32)))).1) ?_
        show Go p e below s _ _ _ T_104 (mkF m 72 #[.val (.int nx), .val (.int fx), .val (.long k1), .second, .val (.long v1), .second, .val (.long k2), .second, .val (.long v2), .second, .val (.ref b_1), .val (.int (1 : Int32)), .val (.long (-9223372036854775808 : Int64)), .second, .val (.long (-9223372036854775808 : Int64)), .second, .val (.int (3 : Int32)), .unset] [])
        refine Go.st (fun _ => XS.aload X_104.here hx rfl (hb hby at_72) rfl rfl) ?_
        show Go p e below s _ _ _ T_104 (mkF m 74 #[.val (.int nx), .val (.int fx), .val (.long k1), .second, .val (.long v1), .second, .val (.long k2), .second, .val (.long v2), .second, .val (.ref b_1), .val (.int (1 : Int32)), .val (.long (-9223372036854775808 : Int64)), .second, .val (.long (-9223372036854775808 : Int64)), .second, .val (.int (3 : Int32)), .unset] [(.ref b_1)])
        refine Go.st (fun _ => XS.lload X_104.here hx rfl (hb hby at_74) rfl) ?_
        show Go p e below s _ _ _ T_104 (mkF m 76 #[.val (.int nx), .val (.int fx), .val (.long k1), .second, .val (.long v1), .second, .val (.long k2), .second, .val (.long v2), .second, .val (.ref b_1), .val (.int (1 : Int32)), .val (.long (-9223372036854775808 : Int64)), .second, .val (.long (-9223372036854775808 : Int64)), .second, .val (.int (3 : Int32)), .unset] [(.long (-9223372036854775808 : Int64)), (.ref b_1)])
        refine Go.st (fun _ => XS.lload X_104.here hx rfl (hb hby at_76) rfl) ?_
        show Go p e below s _ _ _ T_104 (mkF m 78 #[.val (.int nx), .val (.int fx), .val (.long k1), .second, .val (.long v1), .second, .val (.long k2), .second, .val (.long v2), .second, .val (.ref b_1), .val (.int (1 : Int32)), .val (.long (-9223372036854775808 : Int64)), .second, .val (.long (-9223372036854775808 : Int64)), .second, .val (.int (3 : Int32)), .unset] [(.long v2), (.long (-9223372036854775808 : Int64)), (.ref b_1)])
        obtain ⟨cq_107, kq_107, q_107a, q_107b, q_107c⟩ := isOf hZ e_104 p_104_0
        obtain ⟨_, _, ⟨T_107, L_107, kc_107, nc_107⟩, -, X_107, ⟨Lc_107, hQ_107, l_107, y_107, z_107⟩, st_107⟩ := X_104.virtualBack hx (y := (⟨"kasane/util/LongLongMap", "put", "(JJ)V"⟩ : MethodName)) (z := (⟨"kasane/util/LongLongMap", "put", "(JJ)V"⟩ : MethodName)) hown (mvT hZ (hw _ (List.mem_of_getElem? (i := 29) rfl))) (mvT hZ (hw _ (List.mem_of_getElem? (i := 30) rfl))) (notFace_of_selects (args := #[]) (mvT hZ (hw _ (List.mem_of_getElem? (i := 32) rfl)))) (mvT hZ (hw _ (List.mem_of_getElem? (i := 32) rfl))) (mvT hZ (hw _ (List.mem_of_getElem? (i := 31) rfl))) (by decide) (backOf (W := 0) (rmPu l Z a0 hw [] b_1 (-9223372036854775808 : Int64) v2 t__2 kt__2 ks2__104 n2__104 f2__104 r2__104 h_104 n0 z_104q p_104_0 p_104_1 p_104_2 p_104_3 p_104_4 p_104_5 gg_1 p_2_1 ne_b_1_t__2 p_104_6 (by have q := hle_105; omega)) hZ (hw _ (List.mem_of_getElem? (i := 33) rfl)) (hw _ (List.mem_of_getElem? (i := 2) rfl)) (by decide) (by decide)) q_107a q_107c (g := (mkF m 78 #[.val (.int nx), .val (.int fx), .val (.long k1), .second, .val (.long v1), .second, .val (.long k2), .second, .val (.long v2), .second, .val (.ref b_1), .val (.int (1 : Int32)), .val (.long (-9223372036854775808 : Int64)), .second, .val (.long (-9223372036854775808 : Int64)), .second, .val (.int (3 : Int32)), .unset] [(.long v2), (.long (-9223372036854775808 : Int64)), (.ref b_1)])) rfl (by rw [hml]; rfl) (Steps.refl _) (argsL := [(.long (-9223372036854775808 : Int64)), (.long v2)]) (rest := []) (lenOf pd_7 rfl) rfl (by show 2 * 0 + _ ≤ _; exact Nat.le_of_eq rfl) (hb hby at_78) (fun _ _ => ⟨rfl, e_104, (by decide : 2 + 0 ≤ _), (by decide : 20 + 0 ≤ _)⟩)
        dsimp only [Pt.U, Pt.locs, Pt.cells, Pt.slots] at X_107 l_107 y_107 z_107 st_107 hQ_107
        subst l_107 y_107 z_107
        obtain ⟨h_107, e_107⟩ : ∃ hh, T_107.heap = hh := ⟨_, rfl⟩
        rw [e_107] at hQ_107
        obtain ⟨ks2__107, n2__107, f2__107, r2__107, rfl, N_107q, K_107, p_107_0, p_107_1, p_107_2, p_107_3, p_107_4, p_107_5, p_107_6, p_107_7⟩ := hQ_107
        have N_107 := Fr.app N_104 N_107q
        refine Go.st (fun _ kk => st_107.trans kk) ?_
        have z_107q : n0 ≤ h_107.size := Nat.le_trans z_104q K_107.1
        show Go p e below s _ _ _ T_107 (mkF m 81 #[.val (.int nx), .val (.int fx), .val (.long k1), .second, .val (.long v1), .second, .val (.long k2), .second, .val (.long v2), .second, .val (.ref b_1), .val (.int (1 : Int32)), .val (.long (-9223372036854775808 : Int64)), .second, .val (.long (-9223372036854775808 : Int64)), .second, .val (.int (3 : Int32)), .unset] [])
        have hle_108 : 1 ≤ n2__107.toInt ∧ n2__107.toInt ≤ 2 := by have q1 := p_107_7; have q2 := hle_105; omega
        have hk_109 : ¬ (n2__107 = (0 : Int32)) := own_pos hle_108.1
        refine Go.st (fun _ => XS.iload X_107.here hx rfl (hb hby at_81) rfl) ?_
        show Go p e below s _ _ _ T_107 (mkF m 83 #[.val (.int nx), .val (.int fx), .val (.long k1), .second, .val (.long v1), .second, .val (.long k2), .second, .val (.long v2), .second, .val (.ref b_1), .val (.int (1 : Int32)), .val (.long (-9223372036854775808 : Int64)), .second, .val (.long (-9223372036854775808 : Int64)), .second, .val (.int (3 : Int32)), .unset] [(.int (3 : Int32))])
        refine Go.st (fun _ => XS.iconst X_107.here hx rfl (hb hby at_83)) ?_
        show Go p e below s _ _ _ T_107 (mkF m 84 #[.val (.int nx), .val (.int fx), .val (.long k1), .second, .val (.long v1), .second, .val (.long k2), .second, .val (.long v2), .second, .val (.ref b_1), .val (.int (1 : Int32)), .val (.long (-9223372036854775808 : Int64)), .second, .val (.long (-9223372036854775808 : Int64)), .second, .val (.int (3 : Int32)), .unset] [(.int (3 : Int32)), (.int (3 : Int32))])
        refine Go.st (fun _ => XS.icmpNo X_107.here hx rfl (hb hby at_84) rfl (flt (by decide : ¬ ((3 : Int32) < (3 : Int32)))).1) ?_
        show Go p e below s _ _ _ T_107 (mkF m 87 #[.val (.int nx), .val (.int fx), .val (.long k1), .second, .val (.long v1), .second, .val (.long k2), .second, .val (.long v2), .second, .val (.ref b_1), .val (.int (1 : Int32)), .val (.long (-9223372036854775808 : Int64)), .second, .val (.long (-9223372036854775808 : Int64)), .second, .val (.int (3 : Int32)), .unset] [])
        refine Go.st (fun _ => XS.aload X_107.here hx rfl (hb hby at_87) rfl rfl) ?_
        show Go p e below s _ _ _ T_107 (mkF m 89 #[.val (.int nx), .val (.int fx), .val (.long k1), .second, .val (.long v1), .second, .val (.long k2), .second, .val (.long v2), .second, .val (.ref b_1), .val (.int (1 : Int32)), .val (.long (-9223372036854775808 : Int64)), .second, .val (.long (-9223372036854775808 : Int64)), .second, .val (.int (3 : Int32)), .unset] [(.ref b_1)])
        refine Go.st (fun _ => XS.lload X_107.here hx rfl (hb hby at_89) rfl) ?_
        show Go p e below s _ _ _ T_107 (mkF m 91 #[.val (.int nx), .val (.int fx), .val (.long k1), .second, .val (.long v1), .second, .val (.long k2), .second, .val (.long v2), .second, .val (.ref b_1), .val (.int (1 : Int32)), .val (.long (-9223372036854775808 : Int64)), .second, .val (.long (-9223372036854775808 : Int64)), .second, .val (.int (3 : Int32)), .unset] [(.long k2), (.ref b_1)])
        refine Go.st (fun _ => XS.lload X_107.here hx rfl (hb hby at_91) rfl) ?_
        show Go p e below s _ _ _ T_107 (mkF m 93 #[.val (.int nx), .val (.int fx), .val (.long k1), .second, .val (.long v1), .second, .val (.long k2), .second, .val (.long v2), .second, .val (.ref b_1), .val (.int (1 : Int32)), .val (.long (-9223372036854775808 : Int64)), .second, .val (.long (-9223372036854775808 : Int64)), .second, .val (.int (3 : Int32)), .unset] [(.long v1), (.long k2), (.ref b_1)])
        obtain ⟨cq_110, kq_110, q_110a, q_110b, q_110c⟩ := isOf hZ e_107 p_107_0
        obtain ⟨_, _, ⟨T_110, L_110, kc_110, nc_110⟩, -, X_110, ⟨Lc_110, hQ_110, l_110, y_110, z_110⟩, st_110⟩ := X_107.virtualBack hx (y := (⟨"kasane/util/LongLongMap", "put", "(JJ)V"⟩ : MethodName)) (z := (⟨"kasane/util/LongLongMap", "put", "(JJ)V"⟩ : MethodName)) hown (mvT hZ (hw _ (List.mem_of_getElem? (i := 29) rfl))) (mvT hZ (hw _ (List.mem_of_getElem? (i := 30) rfl))) (notFace_of_selects (args := #[]) (mvT hZ (hw _ (List.mem_of_getElem? (i := 32) rfl)))) (mvT hZ (hw _ (List.mem_of_getElem? (i := 32) rfl))) (mvT hZ (hw _ (List.mem_of_getElem? (i := 31) rfl))) (by decide) (backOf (W := 0) (rmPu l Z a0 hw [] b_1 k2 v1 t__2 kt__2 ks2__107 n2__107 f2__107 r2__107 h_107 n0 z_107q p_107_0 p_107_1 p_107_2 p_107_3 p_107_4 p_107_5 gg_1 p_2_1 ne_b_1_t__2 p_107_6 (by have q := hle_108; omega)) hZ (hw _ (List.mem_of_getElem? (i := 33) rfl)) (hw _ (List.mem_of_getElem? (i := 2) rfl)) (by decide) (by decide)) q_110a q_110c (g := (mkF m 93 #[.val (.int nx), .val (.int fx), .val (.long k1), .second, .val (.long v1), .second, .val (.long k2), .second, .val (.long v2), .second, .val (.ref b_1), .val (.int (1 : Int32)), .val (.long (-9223372036854775808 : Int64)), .second, .val (.long (-9223372036854775808 : Int64)), .second, .val (.int (3 : Int32)), .unset] [(.long v1), (.long k2), (.ref b_1)])) rfl (by rw [hml]; rfl) (Steps.refl _) (argsL := [(.long k2), (.long v1)]) (rest := []) (lenOf pd_7 rfl) rfl (by show 2 * 0 + _ ≤ _; exact Nat.le_of_eq rfl) (hb hby at_93) (fun _ _ => ⟨rfl, e_107, (by decide : 2 + 0 ≤ _), (by decide : 20 + 0 ≤ _)⟩)
        dsimp only [Pt.U, Pt.locs, Pt.cells, Pt.slots] at X_110 l_110 y_110 z_110 st_110 hQ_110
        subst l_110 y_110 z_110
        obtain ⟨h_110, e_110⟩ : ∃ hh, T_110.heap = hh := ⟨_, rfl⟩
        rw [e_110] at hQ_110
        obtain ⟨ks2__110, n2__110, f2__110, r2__110, rfl, N_110q, K_110, p_110_0, p_110_1, p_110_2, p_110_3, p_110_4, p_110_5, p_110_6, p_110_7⟩ := hQ_110
        have N_110 := Fr.app N_107 N_110q
        refine Go.st (fun _ kk => st_110.trans kk) ?_
        have z_110q : n0 ≤ h_110.size := Nat.le_trans z_107q K_110.1
        show Go p e below s _ _ _ T_110 (mkF m 96 #[.val (.int nx), .val (.int fx), .val (.long k1), .second, .val (.long v1), .second, .val (.long k2), .second, .val (.long v2), .second, .val (.ref b_1), .val (.int (1 : Int32)), .val (.long (-9223372036854775808 : Int64)), .second, .val (.long (-9223372036854775808 : Int64)), .second, .val (.int (3 : Int32)), .unset] [])
        have hle_111 : 1 ≤ n2__110.toInt ∧ n2__110.toInt ≤ 3 := by have q1 := p_110_7; have q2 := hle_108; omega
        have hk_112 : ¬ (n2__110 = (0 : Int32)) := own_pos hle_111.1
        refine Go.st (fun _ => XS.aload X_110.here hx rfl (hb hby at_96) rfl rfl) ?_
        show Go p e below s _ _ _ T_110 (mkF m 98 #[.val (.int nx), .val (.int fx), .val (.long k1), .second, .val (.long v1), .second, .val (.long k2), .second, .val (.long v2), .second, .val (.ref b_1), .val (.int (1 : Int32)), .val (.long (-9223372036854775808 : Int64)), .second, .val (.long (-9223372036854775808 : Int64)), .second, .val (.int (3 : Int32)), .unset] [(.ref b_1)])
        obtain ⟨cq_113, kq_113, q_113a, q_113b, q_113c⟩ := isOf hZ e_110 p_110_0
        obtain ⟨_, _, ⟨T_113, L_113, kc_113, nc_113⟩, -, X_113, ⟨Lc_113, hQ_113, l_113, y_113, z_113⟩, st_113⟩ := X_110.virtualBack hx (y := (⟨"kasane/util/LongLongMap", "isEmpty", "()Z"⟩ : MethodName)) (z := (⟨"kasane/util/LongLongMap", "isEmpty", "()Z"⟩ : MethodName)) hown (mvT hZ (hw _ (List.mem_of_getElem? (i := 16) rfl))) (mvT hZ (hw _ (List.mem_of_getElem? (i := 17) rfl))) (notFace_of_selects (args := #[]) (mvT hZ (hw _ (List.mem_of_getElem? (i := 19) rfl)))) (mvT hZ (hw _ (List.mem_of_getElem? (i := 19) rfl))) (mvT hZ (hw _ (List.mem_of_getElem? (i := 18) rfl))) (by decide) (backOf (W := 0) (rmEm l Z a0 hw [] b_1 n2__110 h_110 n0 z_110q p_110_2) hZ (hw _ (List.mem_of_getElem? (i := 20) rfl)) (hw _ (List.mem_of_getElem? (i := 2) rfl)) (by decide) (by decide)) q_113a q_113c (g := (mkF m 98 #[.val (.int nx), .val (.int fx), .val (.long k1), .second, .val (.long v1), .second, .val (.long k2), .second, .val (.long v2), .second, .val (.ref b_1), .val (.int (1 : Int32)), .val (.long (-9223372036854775808 : Int64)), .second, .val (.long (-9223372036854775808 : Int64)), .second, .val (.int (3 : Int32)), .unset] [(.ref b_1)])) rfl (by rw [hml]; rfl) (Steps.refl _) (argsL := []) (rest := []) (lenOf pd_6 rfl) rfl (by show 2 * 0 + _ ≤ _; exact Nat.le_of_eq rfl) (hb hby at_98) (fun _ _ => ⟨rfl, e_110, (by decide : 2 + 0 ≤ _), (by decide : 20 + 0 ≤ _)⟩)
        dsimp only [Pt.U, Pt.locs, Pt.cells, Pt.slots] at X_113 l_113 y_113 z_113 st_113 hQ_113
        subst l_113 y_113 z_113
        obtain ⟨h_113, e_113⟩ : ∃ hh, T_113.heap = hh := ⟨_, rfl⟩
        rw [e_113] at hQ_113
        obtain ⟨rfl, N_113q, sm_113⟩ := hQ_113
        have N_113 := Fr.app N_110 N_113q
        refine Go.st (fun _ kk => st_113.trans kk) ?_
        rw [sm_113] at e_113
        show Go p e below s _ _ _ T_113 (mkF m 101 #[.val (.int nx), .val (.int fx), .val (.long k1), .second, .val (.long v1), .second, .val (.long k2), .second, .val (.long v2), .second, .val (.ref b_1), .val (.int (1 : Int32)), .val (.long (-9223372036854775808 : Int64)), .second, .val (.long (-9223372036854775808 : Int64)), .second, .val (.int (3 : Int32)), .unset] [(.int (b2i (n2__110 = (0 : Int32))))])
        rw [show (b2i (n2__110 = (0 : Int32))) = (0 : Int32) from b2i_neg hk_112]
        show Go p e below s _ _ _ T_113 (mkF m 101 #[.val (.int nx), .val (.int fx), .val (.long k1), .second, .val (.long v1), .second, .val (.long k2), .second, .val (.long v2), .second, .val (.ref b_1), .val (.int (1 : Int32)), .val (.long (-9223372036854775808 : Int64)), .second, .val (.long (-9223372036854775808 : Int64)), .second, .val (.int (3 : Int32)), .unset] [(.int (0 : Int32))])
        refine Go.st (fun _ => XS.istore X_113.here hx rfl (hb hby at_101) rfl (l' := #[.val (.int nx), .val (.int fx), .val (.long k1), .second, .val (.long v1), .second, .val (.long k2), .second, .val (.long v2), .second, .val (.ref b_1), .val (.int (1 : Int32)), .val (.long (-9223372036854775808 : Int64)), .second, .val (.long (-9223372036854775808 : Int64)), .second, .val (.int (3 : Int32)), .val (.int (0 : Int32))]) rfl) ?_
        show Go p e below s _ _ _ T_113 (mkF m 103 #[.val (.int nx), .val (.int fx), .val (.long k1), .second, .val (.long v1), .second, .val (.long k2), .second, .val (.long v2), .second, .val (.ref b_1), .val (.int (1 : Int32)), .val (.long (-9223372036854775808 : Int64)), .second, .val (.long (-9223372036854775808 : Int64)), .second, .val (.int (3 : Int32)), .val (.int (0 : Int32))] [])
        refine Go.st (fun _ => XS.iload X_113.here hx rfl (hb hby at_103) rfl) ?_
        show Go p e below s _ _ _ T_113 (mkF m 105 #[.val (.int nx), .val (.int fx), .val (.long k1), .second, .val (.long v1), .second, .val (.long k2), .second, .val (.long v2), .second, .val (.ref b_1), .val (.int (1 : Int32)), .val (.long (-9223372036854775808 : Int64)), .second, .val (.long (-9223372036854775808 : Int64)), .second, .val (.int (3 : Int32)), .val (.int (0 : Int32))] [(.int (1 : Int32))])
        refine Go.st (fun _ => XS.ifNo X_113.here hx rfl (hb hby at_105) rfl ((if0 _ _).trans (feq (by decide : ¬ ((1 : Int32) = (0 : Int32)))).1)) ?_
        show Go p e below s _ _ _ T_113 (mkF m 108 #[.val (.int nx), .val (.int fx), .val (.long k1), .second, .val (.long v1), .second, .val (.long k2), .second, .val (.long v2), .second, .val (.ref b_1), .val (.int (1 : Int32)), .val (.long (-9223372036854775808 : Int64)), .second, .val (.long (-9223372036854775808 : Int64)), .second, .val (.int (3 : Int32)), .val (.int (0 : Int32))] [])
        refine Go.st (fun _ => XS.iload X_113.here hx rfl (hb hby at_108) rfl) ?_
        show Go p e below s _ _ _ T_113 (mkF m 110 #[.val (.int nx), .val (.int fx), .val (.long k1), .second, .val (.long v1), .second, .val (.long k2), .second, .val (.long v2), .second, .val (.ref b_1), .val (.int (1 : Int32)), .val (.long (-9223372036854775808 : Int64)), .second, .val (.long (-9223372036854775808 : Int64)), .second, .val (.int (3 : Int32)), .val (.int (0 : Int32))] [(.int (0 : Int32))])
        refine Go.st (fun _ => XS.iload X_113.here hx rfl (hb hby at_110) rfl) ?_
        show Go p e below s _ _ _ T_113 (mkF m 112 #[.val (.int nx), .val (.int fx), .val (.long k1), .second, .val (.long v1), .second, .val (.long k2), .second, .val (.long v2), .second, .val (.ref b_1), .val (.int (1 : Int32)), .val (.long (-9223372036854775808 : Int64)), .second, .val (.long (-9223372036854775808 : Int64)), .second, .val (.int (3 : Int32)), .val (.int (0 : Int32))] [(.int (3 : Int32)), (.int (0 : Int32))])
        refine Go.st (fun _ => XS.ifYes X_113.here hx rfl (pc0 := 112) (pc' := 119) rfl (hb hby at_112) rfl ((if0 _ _).trans (feq (by decide : ¬ ((3 : Int32) = (0 : Int32)))).2) (by decide) (by decide)) ?_
        show Go p e below s _ _ _ T_113 (mkF m 119 #[.val (.int nx), .val (.int fx), .val (.long k1), .second, .val (.long v1), .second, .val (.long k2), .second, .val (.long v2), .second, .val (.ref b_1), .val (.int (1 : Int32)), .val (.long (-9223372036854775808 : Int64)), .second, .val (.long (-9223372036854775808 : Int64)), .second, .val (.int (3 : Int32)), .val (.int (0 : Int32))] [(.int (0 : Int32))])
        refine Go.st (fun _ => XS.iconst X_113.here hx rfl (hb hby at_119)) ?_
        show Go p e below s _ _ _ T_113 (mkF m 120 #[.val (.int nx), .val (.int fx), .val (.long k1), .second, .val (.long v1), .second, .val (.long k2), .second, .val (.long v2), .second, .val (.ref b_1), .val (.int (1 : Int32)), .val (.long (-9223372036854775808 : Int64)), .second, .val (.long (-9223372036854775808 : Int64)), .second, .val (.int (3 : Int32)), .val (.int (0 : Int32))] [(.int (0 : Int32)), (.int (0 : Int32))])
        refine Go.st (fun _ => XS.icmpNo X_113.here hx rfl (hb hby at_120) rfl (teq (by decide : (0 : Int32) = (0 : Int32))).2) ?_
        show Go p e below s _ _ _ T_113 (mkF m 123 #[.val (.int nx), .val (.int fx), .val (.long k1), .second, .val (.long v1), .second, .val (.long k2), .second, .val (.long v2), .second, .val (.ref b_1), .val (.int (1 : Int32)), .val (.long (-9223372036854775808 : Int64)), .second, .val (.long (-9223372036854775808 : Int64)), .second, .val (.int (3 : Int32)), .val (.int (0 : Int32))] [])
        refine Go.st (fun _ => XS.iload X_113.here hx rfl (hb hby at_123) rfl) ?_
        show Go p e below s _ _ _ T_113 (mkF m 125 #[.val (.int nx), .val (.int fx), .val (.long k1), .second, .val (.long v1), .second, .val (.long k2), .second, .val (.long v2), .second, .val (.ref b_1), .val (.int (1 : Int32)), .val (.long (-9223372036854775808 : Int64)), .second, .val (.long (-9223372036854775808 : Int64)), .second, .val (.int (3 : Int32)), .val (.int (0 : Int32))] [(.int (0 : Int32))])
        refine Go.st (fun _ => XS.aload X_113.here hx rfl (hb hby at_125) rfl rfl) ?_
        show Go p e below s _ _ _ T_113 (mkF m 127 #[.val (.int nx), .val (.int fx), .val (.long k1), .second, .val (.long v1), .second, .val (.long k2), .second, .val (.long v2), .second, .val (.ref b_1), .val (.int (1 : Int32)), .val (.long (-9223372036854775808 : Int64)), .second, .val (.long (-9223372036854775808 : Int64)), .second, .val (.int (3 : Int32)), .val (.int (0 : Int32))] [(.ref b_1), (.int (0 : Int32))])
        obtain ⟨cq_114, kq_114, q_114a, q_114b, q_114c⟩ := isOf hZ e_113 p_110_0
        obtain ⟨_, _, ⟨T_114, L_114, kc_114, nc_114⟩, -, X_114, ⟨Lc_114, hQ_114, l_114, y_114, z_114⟩, st_114⟩ := X_113.virtualBack hx (y := (⟨"kasane/util/LongLongMap", "size", "()I"⟩ : MethodName)) (z := (⟨"kasane/util/LongLongMap", "size", "()I"⟩ : MethodName)) hown (mvT hZ (hw _ (List.mem_of_getElem? (i := 24) rfl))) (mvT hZ (hw _ (List.mem_of_getElem? (i := 25) rfl))) (notFace_of_selects (args := #[]) (mvT hZ (hw _ (List.mem_of_getElem? (i := 27) rfl)))) (mvT hZ (hw _ (List.mem_of_getElem? (i := 27) rfl))) (mvT hZ (hw _ (List.mem_of_getElem? (i := 26) rfl))) (by decide) (backOf (W := 1) (rmSz l Z a0 hw [] b_1 n2__110 h_110 n0 z_110q p_110_2) hZ (hw _ (List.mem_of_getElem? (i := 28) rfl)) (hw _ (List.mem_of_getElem? (i := 2) rfl)) (by decide) (by decide)) q_114a q_114c (g := (mkF m 127 #[.val (.int nx), .val (.int fx), .val (.long k1), .second, .val (.long v1), .second, .val (.long k2), .second, .val (.long v2), .second, .val (.ref b_1), .val (.int (1 : Int32)), .val (.long (-9223372036854775808 : Int64)), .second, .val (.long (-9223372036854775808 : Int64)), .second, .val (.int (3 : Int32)), .val (.int (0 : Int32))] [(.ref b_1), (.int (0 : Int32))])) rfl (by rw [hml]; rfl) (Steps.refl _) (argsL := []) (rest := [(.int (0 : Int32))]) (lenOf pd_2 rfl) rfl (by show 2 * 0 + _ ≤ _; exact Nat.le_of_eq rfl) (hb hby at_127) (fun _ _ => ⟨rfl, e_113, (by decide : 2 + 0 ≤ _), (by decide : 20 + 0 ≤ _)⟩)
        dsimp only [Pt.U, Pt.locs, Pt.cells, Pt.slots] at X_114 l_114 y_114 z_114 st_114 hQ_114
        subst l_114 y_114 z_114
        obtain ⟨h_114, e_114⟩ : ∃ hh, T_114.heap = hh := ⟨_, rfl⟩
        rw [e_114] at hQ_114
        obtain ⟨rfl, N_114q, sm_114⟩ := hQ_114
        have N_114 := Fr.app N_113 N_114q
        refine Go.st (fun _ kk => st_114.trans kk) ?_
        rw [sm_114] at e_114
        show Go p e below s _ _ _ T_114 (mkF m 130 #[.val (.int nx), .val (.int fx), .val (.long k1), .second, .val (.long v1), .second, .val (.long k2), .second, .val (.long v2), .second, .val (.ref b_1), .val (.int (1 : Int32)), .val (.long (-9223372036854775808 : Int64)), .second, .val (.long (-9223372036854775808 : Int64)), .second, .val (.int (3 : Int32)), .val (.int (0 : Int32))] [(.int n2__110), (.int (0 : Int32))])
        refine Go.st (fun _ => XS.ifYes X_114.here hx rfl (pc0 := 130) (pc' := 137) rfl (hb hby at_130) rfl ((if0 _ _).trans (feq hk_112).2) (by decide) (by decide)) ?_
        show Go p e below s _ _ _ T_114 (mkF m 137 #[.val (.int nx), .val (.int fx), .val (.long k1), .second, .val (.long v1), .second, .val (.long k2), .second, .val (.long v2), .second, .val (.ref b_1), .val (.int (1 : Int32)), .val (.long (-9223372036854775808 : Int64)), .second, .val (.long (-9223372036854775808 : Int64)), .second, .val (.int (3 : Int32)), .val (.int (0 : Int32))] [(.int (0 : Int32))])
        refine Go.st (fun _ => XS.iconst X_114.here hx rfl (hb hby at_137)) ?_
        show Go p e below s _ _ _ T_114 (mkF m 138 #[.val (.int nx), .val (.int fx), .val (.long k1), .second, .val (.long v1), .second, .val (.long k2), .second, .val (.long v2), .second, .val (.ref b_1), .val (.int (1 : Int32)), .val (.long (-9223372036854775808 : Int64)), .second, .val (.long (-9223372036854775808 : Int64)), .second, .val (.int (3 : Int32)), .val (.int (0 : Int32))] [(.int (0 : Int32)), (.int (0 : Int32))])
        refine Go.st (fun _ => XS.icmpNo X_114.here hx rfl (hb hby at_138) rfl (teq (by decide : (0 : Int32) = (0 : Int32))).2) ?_
        show Go p e below s _ _ _ T_114 (mkF m 141 #[.val (.int nx), .val (.int fx), .val (.long k1), .second, .val (.long v1), .second, .val (.long k2), .second, .val (.long v2), .second, .val (.ref b_1), .val (.int (1 : Int32)), .val (.long (-9223372036854775808 : Int64)), .second, .val (.long (-9223372036854775808 : Int64)), .second, .val (.int (3 : Int32)), .val (.int (0 : Int32))] [])
        refine Go.st (fun _ => XS.iconst X_114.here hx rfl (hb hby at_141)) ?_
        show Go p e below s _ _ _ T_114 (mkF m 142 #[.val (.int nx), .val (.int fx), .val (.long k1), .second, .val (.long v1), .second, .val (.long k2), .second, .val (.long v2), .second, .val (.ref b_1), .val (.int (1 : Int32)), .val (.long (-9223372036854775808 : Int64)), .second, .val (.long (-9223372036854775808 : Int64)), .second, .val (.int (3 : Int32)), .val (.int (0 : Int32))] [(.int (1 : Int32))])
        refine Go.st (fun _ => XS.goto X_114.here hx rfl (pc0 := 142) (pc' := 146) rfl (hb hby at_142) (by decide) (by decide)) ?_
        show Go p e below s _ _ _ T_114 (mkF m 146 #[.val (.int nx), .val (.int fx), .val (.long k1), .second, .val (.long v1), .second, .val (.long k2), .second, .val (.long v2), .second, .val (.ref b_1), .val (.int (1 : Int32)), .val (.long (-9223372036854775808 : Int64)), .second, .val (.long (-9223372036854775808 : Int64)), .second, .val (.int (3 : Int32)), .val (.int (0 : Int32))] [(.int (1 : Int32))])
        exact Go.retZ X_114 hx hlk Bd.returns (hb hby at_146) rfl (by rw [e_114]; exact ⟨rfl, N_114⟩) (by decide) (by decide)
set_option maxRecDepth 65536 in
set_option maxHeartbeats 40000000 in
theorem comes_1 {Post : Tables → Env → Array Value → State → Outcome → State → Prop} (hpost : ∀ tb e args s v u, (limb_1_1.after args s (.returned v) u = true ∧ limb_1_2.after args s (.returned v) u = true ∧ True) → FrameEnd s (.returned v) u (Jvm.fieldLocs frame_1_writes args s ++ Jvm.arrayLocs frame_1_arrays args s ++ Jvm.staticLocs frame_1_statics s) 16 128 → Post tb e args s (.returned v) u) :
    ArmFor flags0 classFile x code maxLocals ret World_1 tables_1 room_1 Calls_1 rest_1 Pre_1 Post := by
  intro l hfl _ _ p e ha hc hk s m args below hf hA hF happ hP
  obtain ⟨hcalls, hrest, hpre⟩ := hP
  obtain ⟨-, -, -, hnamed, -, -, -, hat⟩ := (Spec.applies_iff hf).mp happ
  obtain ⟨hg, hn⟩ := and_e (Cond.before_iff.mp (show (Jvm.Cond.and given_1 narrow_1).before args s = true from hpre))
  obtain ⟨g1, g2⟩ := and_e hg
  obtain ⟨g3, g4⟩ := and_e g2
  obtain ⟨g5, g6⟩ := and_e g4
  obtain ⟨g7, g8⟩ := and_e g6
  obtain ⟨g9, g10⟩ := and_e g8
  obtain ⟨g11, g12⟩ := and_e g10
  obtain ⟨w0, w1, w2, w3, w4, w5, rfl⟩ : ∃ w0 w1 w2 w3 w4 w5 : Value, args = #[w0, w1, w2, w3, w4, w5] := by
    have hs : args.size = 6 := by simpa [Cond.value, given_1] using g1
    obtain ⟨L⟩ := args
    match L, hs with
    | [w0, w1, w2, w3, w4, w5], _ => exact ⟨w0, w1, w2, w3, w4, w5, rfl⟩
  have hw := fun d (hd : d ∈ tables_1) => atoms_spec (ws := Jvm.Cond.code x code maxLocals ret :: tables_1) hat d (List.mem_cons_of_mem _ hd)
  have hfit : Fit s := fun {y c} hc i hi => by
    obtain ⟨ha, rfl⟩ := Array.getElem?_eq_some_iff.mp hc
    have q := List.all_eq_true.mp ((Array.all_eq_true_iff_forall_mem.mp hF) _ (Array.getElem_mem ha)) i (List.mem_range.mpr hi)
    simpa [Array.getElem?_eq_getElem hi] using q
  obtain ⟨i0, ei0⟩ := is_v g3
  obtain rfl : w0 = (.int i0) := Option.some.inj ei0
  obtain ⟨i1, ei1⟩ := is_v g5
  obtain rfl : w1 = (.int i1) := Option.some.inj ei1
  obtain ⟨i2, ei2⟩ := isL_v g7
  obtain rfl : w2 = (.long i2) := Option.some.inj ei2
  obtain ⟨i3, ei3⟩ := isL_v g9
  obtain rfl : w3 = (.long i3) := Option.some.inj ei3
  obtain ⟨i4, ei4⟩ := isL_v g11
  obtain rfl : w4 = (.long i4) := Option.some.inj ei4
  obtain ⟨i5, ei5⟩ := isL_v g12
  obtain rfl : w5 = (.long i5) := Option.some.inj ei5
  obtain ⟨n, o, h1, h2, h3, _, L, rfl, ⟨rfl, N⟩, hq⟩ := rm0 l s _ hw tables_1 i0 i1 i2 i3 i4 i5 s.heap s.heap.size (Nat.le_refl _)  p e ha hc hk s m _ below hf ((Spec.applies_iff_loose hf).mp happ).1 ⟨rfl, State.Warmed39.refl s, rfl⟩ trivial
  refine ⟨n, _, h1, h2, h3, hpost _ _ _ _ _ _ ⟨Cond.after_iff.mpr rfl, Cond.after_iff.mpr (eq_i res_at (Term.int_eval (1)) rfl), trivial⟩ ⟨hq.1, hq.2.1, (hq.2.2.sift fun y hy => Or.inr (N y hy)).mono (by decide) (by decide)⟩⟩
theorem main_1_1 : Claimed_1_1 := comes_1 fun _ _ _ _ _ _ h hF => ⟨h.1, hF⟩
theorem main_1_2 : Claimed_1_2 := comes_1 fun _ _ _ _ _ _ h hF => ⟨h.2.1, hF⟩
end Jvm.Pilot.@@N@@
namespace Jvm.Pilot.@@N@@
open Jvm Jvm.ClassFile Sem Op Lib Jvm.Free Jvm.Stand Jvm.Pilot.@@N@@.Jvm.D
/-! MADE BY PROGRAM (witnessworld.py) out of the Statement's table words and the real class files: 17 classes; the members and pool entries that the words name. The judged class is class 1, her method 1. -/
namespace start1
open Jvm.ClassFile
def u (s : String) : CpInfo := .utf8 (stringToUtf16 s)
/-- a pool by its gaps: so many unusable entries, then the entry; so many at the end -/
def gap : Nat → List CpInfo → List CpInfo
  | 0, r => r
  | n + 1, r => .unusable :: gap n r
def poolList (es : List (Nat × CpInfo)) (last : Nat) : List CpInfo := es.foldr (fun e r => gap e.1 (e.2 :: r)) (gap last [])
def pool (es : List (Nat × CpInfo)) (last : Nat) : Array CpInfo := ⟨poolList es last⟩
def fileOf (pool : Array CpInfo) (this : Nat) (attrs : Array Attribute := #[]) (ms : Array MethodInfo := #[]) (fl : Nat := 33) (sup : Nat := 0) (ifs : Array Nat := #[]) (fds : Array FieldInfo := #[]) : ClassFile where
  minorVersion := 0
  majorVersion := 65
  constantPool := pool
  accessFlags := fl
  thisClass := this
  superClass := sup
  interfaces := ifs
  fields := fds
  methods := ms
  attributes := attrs
def plain (name : String) (sup : Option ClassId) : Class where
  name := name
  kind := .ordinary
  loader := none
  accessFlags := 33
  super := sup
  interfaces := #[]
  cf := none
  fields := #[]
  methods := #[]
  instanceTypes := #[]
  staticTypes := #[]
  resolved := #[]
  callSites := []
  init := .initialized
  statics := none
  mirror := none

def pool0 : Array CpInfo := pool [(5, u "<init>"), (0, u "()V"), (1, .class_ 10), (1, u "java/lang/Object")] 113

def k0c0 : Code := { maxStack := 0, maxLocals := 1, code := object_method_1_code, exceptionTable := #[], attributes := #[] }
def k0m0 : Method := { name := "<init>", desc := "()V", sig := { parameters := [], returnType := none }, accessFlags := 1, code := some k0c0 }
/-- java/lang/Object -/
def k0 : Class := { plain "java/lang/Object" none with
  accessFlags := 33
  interfaces := #[]
  cf := some (fileOf pool0 8 #[] #[{ accessFlags := 1, nameIndex := 5, descriptorIndex := 6, attributes := #[] }] 33 0 #[] #[])
  fields := #[]
  methods := #[k0m0]
  instanceTypes := #[]
  staticTypes := #[]
  resolved := Array.replicate 124 none
  statics := none }

def pool1 : Array CpInfo := pool [(2, .class_ 4), (0, .nameAndType 5 6), (0, u "java/lang/Object"), (0, u "<init>"), (0, u "()V"), (0, .class_ 8), (0, u "kasane/util/LongLongMap"), (0, .methodref 7 3), (0, .methodref 7 11), (0, .nameAndType 12 13), (0, u "isEmpty"), (0, u "()Z"), (2, .long 9223372036854775808), (1, .methodref 7 19), (0, .nameAndType 20 21), (0, u "put"), (0, u "(JJ)V"), (0, .methodref 7 23), (0, .nameAndType 24 25), (0, u "size"), (0, u "()I"), (0, .class_ 27), (0, u "kasane/util/LongLongMapIsEmptyPinLaw"), (2, u "law"), (0, u "(IIJJJJ)Z")] 3

def k1m0 : Method := { name := "<init>", desc := "()V", sig := { parameters := [], returnType := none }, accessFlags := 1, code := none }
def k1c1 : Code := { maxStack := 5, maxLocals := 18, code := code, exceptionTable := #[], attributes := #[] }
def k1m1 : Method := { name := "law", desc := "(IIJJJJ)Z", sig := { parameters := [.int, .int, .long, .long, .long, .long], returnType := some .boolean }, accessFlags := 9, code := some k1c1 }
/-- kasane/util/LongLongMapIsEmptyPinLaw -/
def k1 : Class := { plain "kasane/util/LongLongMapIsEmptyPinLaw" (some 0) with
  accessFlags := 49
  interfaces := #[]
  cf := some (fileOf pool1 26 #[] #[{ accessFlags := 1, nameIndex := 5, descriptorIndex := 6, attributes := #[] }, { accessFlags := 9, nameIndex := 30, descriptorIndex := 31, attributes := #[] }] 49 2 #[] #[])
  fields := #[]
  methods := #[k1m0, k1m1]
  instanceTypes := #[]
  staticTypes := #[]
  resolved := Array.replicate 35 none
  statics := none }

def pool2 : Array CpInfo := pool [(3, .methodref 4 5), (0, .class_ 6), (0, .nameAndType 7 8), (0, u "java/lang/Object"), (0, u "<init>"), (0, u "()V"), (0, .class_ 10), (0, u "kasane/util/LongLongMap"), (0, .methodref 9 12), (0, .nameAndType 13 14), (0, u "freePlaces"), (0, u "(I)[J"), (0, .fieldref 9 16), (0, .nameAndType 17 18), (0, u "places"), (0, u "[J"), (0, .long 9223372036854775808), (1, .fieldref 9 22), (0, .nameAndType 23 24), (0, u "holdsFree"), (0, u "Z"), (0, .fieldref 9 26), (0, .nameAndType 27 28), (0, u "freeValue"), (0, u "J"), (3, u "(J)I"), (0, .fieldref 9 34), (0, .nameAndType 35 36), (0, u "size"), (0, u "I"), (0, .methodref 9 38), (0, .nameAndType 39 32), (0, u "slot"), (0, .methodref 9 41), (0, .nameAndType 42 43), (0, u "next"), (0, u "(I)I"), (0, .methodref 9 45), (0, .nameAndType 46 47), (0, u "capacity"), (0, u "()I"), (13, .methodref 62 63), (0, .class_ 64), (0, .nameAndType 39 65), (0, u "kasane/util/LongMap"), (0, u "(JI)I"), (0, u "FREE"), (1, u "MIN_CAPACITY"), (6, u "put"), (0, u "(JJ)V"), (2, u "isEmpty"), (0, u "()Z")] 22

def k2c0 : Code := { maxStack := 2, maxLocals := 1, code := prog_192_method_1_code, exceptionTable := #[], attributes := #[] }
def k2m0 : Method := { name := "<init>", desc := "()V", sig := { parameters := [], returnType := none }, accessFlags := 1, code := some k2c0 }
def k2c1 : Code := { maxStack := 4, maxLocals := 6, code := prog_192_method_3_code, exceptionTable := #[], attributes := #[] }
def k2m1 : Method := { name := "put", desc := "(JJ)V", sig := { parameters := [.long, .long], returnType := none }, accessFlags := 1, code := some k2c1 }
def k2c2 : Code := { maxStack := 1, maxLocals := 1, code := prog_192_method_5_code, exceptionTable := #[], attributes := #[] }
def k2m2 : Method := { name := "size", desc := "()I", sig := { parameters := [], returnType := some .int }, accessFlags := 1, code := some k2c2 }
def k2c3 : Code := { maxStack := 1, maxLocals := 1, code := prog_192_method_6_code, exceptionTable := #[], attributes := #[] }
def k2m3 : Method := { name := "isEmpty", desc := "()Z", sig := { parameters := [], returnType := some .boolean }, accessFlags := 1, code := some k2c3 }
def k2c4 : Code := { maxStack := 2, maxLocals := 1, code := prog_192_method_9_code, exceptionTable := #[], attributes := #[] }
def k2m4 : Method := { name := "capacity", desc := "()I", sig := { parameters := [], returnType := some .int }, accessFlags := 2, code := some k2c4 }
def k2c5 : Code := { maxStack := 3, maxLocals := 3, code := prog_192_method_10_code, exceptionTable := #[], attributes := #[] }
def k2m5 : Method := { name := "slot", desc := "(J)I", sig := { parameters := [.long], returnType := some .int }, accessFlags := 2, code := some k2c5 }
def k2c6 : Code := { maxStack := 3, maxLocals := 2, code := prog_192_method_11_code, exceptionTable := #[], attributes := #[] }
def k2m6 : Method := { name := "next", desc := "(I)I", sig := { parameters := [.int], returnType := some .int }, accessFlags := 2, code := some k2c6 }
def k2c7 : Code := { maxStack := 4, maxLocals := 3, code := prog_192_method_12_code, exceptionTable := #[], attributes := #[] }
def k2m7 : Method := { name := "freePlaces", desc := "(I)[J", sig := { parameters := [.int], returnType := some (.array .long) }, accessFlags := 10, code := some k2c7 }
/-- kasane/util/LongLongMap -/
def k2 : Class := { plain "kasane/util/LongLongMap" (some 0) with
  accessFlags := 49
  interfaces := #[]
  cf := some (fileOf pool2 9 #[] #[{ accessFlags := 1, nameIndex := 7, descriptorIndex := 8, attributes := #[] }, { accessFlags := 1, nameIndex := 75, descriptorIndex := 76, attributes := #[] }, { accessFlags := 1, nameIndex := 35, descriptorIndex := 47, attributes := #[] }, { accessFlags := 1, nameIndex := 79, descriptorIndex := 80, attributes := #[] }, { accessFlags := 2, nameIndex := 46, descriptorIndex := 47, attributes := #[] }, { accessFlags := 2, nameIndex := 39, descriptorIndex := 32, attributes := #[] }, { accessFlags := 2, nameIndex := 42, descriptorIndex := 43, attributes := #[] }, { accessFlags := 10, nameIndex := 13, descriptorIndex := 14, attributes := #[] }] 49 4 #[] #[{ accessFlags := 26, nameIndex := 66, descriptorIndex := 28, attributes := #[] }, { accessFlags := 26, nameIndex := 68, descriptorIndex := 36, attributes := #[] }, { accessFlags := 2, nameIndex := 17, descriptorIndex := 18, attributes := #[] }, { accessFlags := 2, nameIndex := 35, descriptorIndex := 36, attributes := #[] }, { accessFlags := 2, nameIndex := 23, descriptorIndex := 24, attributes := #[] }, { accessFlags := 2, nameIndex := 27, descriptorIndex := 28, attributes := #[] }])
  fields := #[{ name := "FREE", type := .long, accessFlags := 26, slot := 0, constantValue := 0 }, { name := "MIN_CAPACITY", type := .int, accessFlags := 26, slot := 1, constantValue := 0 }, { name := "places", type := (.array .long), accessFlags := 2, slot := 0, constantValue := 0 }, { name := "size", type := .int, accessFlags := 2, slot := 1, constantValue := 0 }, { name := "holdsFree", type := .boolean, accessFlags := 2, slot := 2, constantValue := 0 }, { name := "freeValue", type := .long, accessFlags := 2, slot := 3, constantValue := 0 }]
  methods := #[k2m0, k2m1, k2m2, k2m3, k2m4, k2m5, k2m6, k2m7]
  instanceTypes := #[(.array .long), .int, .boolean, .long]
  staticTypes := #[.long, .int]
  resolved := Array.replicate 103 none
  statics := none }

def pool3 : Array CpInfo := pool [(2, .class_ 4), (1, u "java/lang/Object"), (0, u "<init>"), (0, u "()V"), (0, .class_ 8), (0, u "kasane/util/LongMap"), (2, u "keys"), (0, u "[J"), (2, u "values"), (0, u "[Ljava/lang/Object;"), (17, u "slot"), (3, u "(I)I"), (2, u "size"), (0, u "I"), (23, u "(JI)I"), (0, .long 11400714819323198485), (3, .methodref 72 73), (0, .class_ 74), (0, .nameAndType 75 38), (0, u "java/lang/Integer"), (0, u "numberOfTrailingZeros"), (0, u "MIN_CAPACITY")] 28

def k3m0 : Method := { name := "<init>", desc := "()V", sig := { parameters := [], returnType := none }, accessFlags := 1, code := none }
def k3c1 : Code := { maxStack := 4, maxLocals := 3, code := prog_194_method_14_code, exceptionTable := #[], attributes := #[] }
def k3m1 : Method := { name := "slot", desc := "(JI)I", sig := { parameters := [.long, .int], returnType := some .int }, accessFlags := 8, code := some k3c1 }
/-- kasane/util/LongMap -/
def k3 : Class := { plain "kasane/util/LongMap" (some 0) with
  accessFlags := 49
  interfaces := #[]
  cf := some (fileOf pool3 7 #[] #[{ accessFlags := 1, nameIndex := 5, descriptorIndex := 6, attributes := #[] }, { accessFlags := 8, nameIndex := 34, descriptorIndex := 66, attributes := #[] }] 49 2 #[] #[{ accessFlags := 26, nameIndex := 76, descriptorIndex := 42, attributes := #[] }, { accessFlags := 2, nameIndex := 11, descriptorIndex := 12, attributes := #[] }, { accessFlags := 2, nameIndex := 15, descriptorIndex := 16, attributes := #[] }, { accessFlags := 2, nameIndex := 41, descriptorIndex := 42, attributes := #[] }])
  fields := #[{ name := "MIN_CAPACITY", type := .int, accessFlags := 26, slot := 0, constantValue := 0 }, { name := "keys", type := (.array .long), accessFlags := 2, slot := 0, constantValue := 0 }, { name := "values", type := (.array (.object "java/lang/Object")), accessFlags := 2, slot := 1, constantValue := 0 }, { name := "size", type := .int, accessFlags := 2, slot := 2, constantValue := 0 }]
  methods := #[k3m0, k3m1]
  instanceTypes := #[(.array .long), (.array (.object "java/lang/Object")), .int]
  staticTypes := #[.int]
  resolved := Array.replicate 105 none
  statics := none }

def pool4 : Array CpInfo := pool [(1, .class_ 2), (0, u "java/io/Serializable"), (0, .class_ 4), (0, u "java/lang/Object")] 2

/-- java/io/Serializable -/
def k4 : Class := { plain "java/io/Serializable" (some 0) with
  accessFlags := 1537
  interfaces := #[]
  cf := some (fileOf pool4 1 #[] #[] 1537 3 #[] #[])
  fields := #[]
  methods := #[]
  instanceTypes := #[]
  staticTypes := #[]
  resolved := Array.replicate 7 none
  statics := none }

def pool5 : Array CpInfo := pool [(2, .class_ 4), (1, u "java/lang/Object"), (0, u "<init>"), (0, u "()V"), (1, .class_ 10), (1, u "java/lang/Number"), (2, .class_ 14), (0, u "java/io/Serializable"), (0, u "serialVersionUID"), (0, u "J")] 20

def k5m0 : Method := { name := "<init>", desc := "()V", sig := { parameters := [], returnType := none }, accessFlags := 1, code := none }
/-- java/lang/Number -/
def k5 : Class := { plain "java/lang/Number" (some 0) with
  accessFlags := 1057
  interfaces := #[4]
  cf := some (fileOf pool5 8 #[] #[{ accessFlags := 1, nameIndex := 5, descriptorIndex := 6, attributes := #[] }] 1057 2 #[13] #[{ accessFlags := 26, nameIndex := 15, descriptorIndex := 16, attributes := #[] }])
  fields := #[{ name := "serialVersionUID", type := .long, accessFlags := 26, slot := 0, constantValue := 0 }]
  methods := #[k5m0]
  instanceTypes := #[]
  staticTypes := #[.long]
  resolved := Array.replicate 37 none
  statics := none }

def pool6 : Array CpInfo := pool [(1, .class_ 2), (0, u "java/lang/Comparable"), (0, .class_ 4), (0, u "java/lang/Object")] 7

/-- java/lang/Comparable -/
def k6 : Class := { plain "java/lang/Comparable" (some 0) with
  accessFlags := 1537
  interfaces := #[]
  cf := some (fileOf pool6 1 #[] #[] 1537 3 #[] #[])
  fields := #[]
  methods := #[]
  instanceTypes := #[]
  staticTypes := #[]
  resolved := Array.replicate 12 none
  statics := none }

def pool7 : Array CpInfo := pool [(1, .class_ 2), (0, u "java/lang/constant/Constable"), (0, .class_ 4), (0, u "java/lang/Object")] 6

/-- java/lang/constant/Constable -/
def k7 : Class := { plain "java/lang/constant/Constable" (some 0) with
  accessFlags := 1537
  interfaces := #[]
  cf := some (fileOf pool7 1 #[] #[] 1537 3 #[] #[])
  fields := #[]
  methods := #[]
  instanceTypes := #[]
  staticTypes := #[]
  resolved := Array.replicate 11 none
  statics := none }

def pool8 : Array CpInfo := pool [(1, .class_ 2), (0, u "java/lang/constant/ConstantDesc"), (0, .class_ 4), (0, u "java/lang/Object")] 32

/-- java/lang/constant/ConstantDesc -/
def k8 : Class := { plain "java/lang/constant/ConstantDesc" (some 0) with
  accessFlags := 1537
  interfaces := #[]
  cf := some (fileOf pool8 1 #[] #[] 1537 3 #[] #[])
  fields := #[]
  methods := #[]
  instanceTypes := #[]
  staticTypes := #[]
  resolved := Array.replicate 37 none
  statics := none }

def pool9 : Array CpInfo := pool [(1, .class_ 2), (0, u "java/lang/Integer"), (16, u "digits"), (0, u "[C"), (33, u "(I)I"), (30, u "DigitOnes"), (0, u "[B"), (2, u "DigitTens"), (99, .class_ 190), (0, u "java/lang/Integer$IntegerCache"), (3, u "I"), (8, .class_ 204), (0, u "java/lang/Number"), (2, u "value"), (56, .integer 65536), (37, u "TYPE"), (0, u "Ljava/lang/Class;"), (0, .class_ 305), (0, u "java/lang/Comparable"), (0, .class_ 307), (0, u "java/lang/constant/Constable"), (0, .class_ 309), (0, u "java/lang/constant/ConstantDesc"), (0, u "MIN_VALUE"), (1, u "MAX_VALUE"), (3, u "SIZE"), (1, u "BYTES"), (1, u "serialVersionUID"), (0, u "J"), (84, u "numberOfTrailingZeros")] 46

def k9c0 : Code := { maxStack := 3, maxLocals := 2, code := jdk_33_method_48_code, exceptionTable := #[], attributes := #[] }
def k9m0 : Method := { name := "numberOfTrailingZeros", desc := "(I)I", sig := { parameters := [.int], returnType := some .int }, accessFlags := 9, code := some k9c0 }
/-- java/lang/Integer -/
def k9 : Class := { plain "java/lang/Integer" (some 5) with
  accessFlags := 49
  interfaces := #[6, 7, 8]
  cf := some (fileOf pool9 1 #[.nestMembers #[189]] #[{ accessFlags := 9, nameIndex := 406, descriptorIndex := 54, attributes := #[] }] 49 203 #[304, 306, 308] #[{ accessFlags := 25, nameIndex := 310, descriptorIndex := 194, attributes := #[] }, { accessFlags := 25, nameIndex := 312, descriptorIndex := 194, attributes := #[] }, { accessFlags := 25, nameIndex := 302, descriptorIndex := 303, attributes := #[] }, { accessFlags := 24, nameIndex := 19, descriptorIndex := 20, attributes := #[] }, { accessFlags := 24, nameIndex := 89, descriptorIndex := 86, attributes := #[] }, { accessFlags := 24, nameIndex := 85, descriptorIndex := 86, attributes := #[] }, { accessFlags := 18, nameIndex := 207, descriptorIndex := 194, attributes := #[] }, { accessFlags := 25, nameIndex := 316, descriptorIndex := 194, attributes := #[] }, { accessFlags := 25, nameIndex := 318, descriptorIndex := 194, attributes := #[] }, { accessFlags := 26, nameIndex := 320, descriptorIndex := 321, attributes := #[] }])
  fields := #[{ name := "MIN_VALUE", type := .int, accessFlags := 25, slot := 0, constantValue := 0 }, { name := "MAX_VALUE", type := .int, accessFlags := 25, slot := 1, constantValue := 0 }, { name := "TYPE", type := (.object "java/lang/Class"), accessFlags := 25, slot := 2, constantValue := 0 }, { name := "digits", type := (.array .char), accessFlags := 24, slot := 3, constantValue := 0 }, { name := "DigitTens", type := (.array .byte), accessFlags := 24, slot := 4, constantValue := 0 }, { name := "DigitOnes", type := (.array .byte), accessFlags := 24, slot := 5, constantValue := 0 }, { name := "value", type := .int, accessFlags := 18, slot := 0, constantValue := 0 }, { name := "SIZE", type := .int, accessFlags := 25, slot := 6, constantValue := 0 }, { name := "BYTES", type := .int, accessFlags := 25, slot := 7, constantValue := 0 }, { name := "serialVersionUID", type := .long, accessFlags := 26, slot := 8, constantValue := 0 }]
  methods := #[k9m0]
  instanceTypes := #[.int]
  staticTypes := #[.int, .int, (.object "java/lang/Class"), (.array .char), (.array .byte), (.array .byte), .int, .int, .long]
  resolved := Array.replicate 453 none
  statics := none }

def pool10 : Array CpInfo := pool [(1, u "java/lang/Cloneable"), (0, .class_ 1), (0, u "java/lang/Object"), (0, .class_ 3)] 3

/-- java/lang/Cloneable -/
def k10 : Class := { plain "java/lang/Cloneable" (some 0) with
  accessFlags := 1537
  interfaces := #[]
  cf := some (fileOf pool10 2 #[] #[] 1537 4 #[] #[])
  fields := #[]
  methods := #[]
  instanceTypes := #[]
  staticTypes := #[]
  resolved := Array.replicate 8 none
  statics := none }

/-- the primitive byte -/
def k11 : Class := { plain "byte" none with kind := .primitive 'B', accessFlags := 0x411 }
/-- [B -/
def k12 : Class := { plain "[B" (some 0) with kind := .array 11 .byte, interfaces := #[10, 4], accessFlags := 1041 }

/-- the primitive int -/
def k13 : Class := { plain "int" none with kind := .primitive 'I', accessFlags := 0x411 }
/-- [I -/
def k14 : Class := { plain "[I" (some 0) with kind := .array 13 .int, interfaces := #[10, 4], accessFlags := 1041 }

/-- the primitive long -/
def k15 : Class := { plain "long" none with kind := .primitive 'J', accessFlags := 0x411 }
/-- [J -/
def k16 : Class := { plain "[J" (some 0) with kind := .array 15 .long, interfaces := #[10, 4], accessFlags := 1041 }

def heap : Heap := #[]
def classes : Array Class := #[k0, k1, k2, k3, k4, k5, k6, k7, k8, k9, k10, k11, k12, k13, k14, k15, k16]
def interned : List (Array UInt16 × Addr) := []
def slotsUsed : Nat := 0
def theMethod : MethodId := ⟨1, 1⟩
def args0 : Array Value := #[.int 5, .int 6, .long 7, .long 8, .long 9, .long 10]
def aboutOver (below : List Frame) : State where
  vm := { classes := classes, interned := interned.toArray }
  heap := heap
  slotsUsed := slotsUsed
  threads := #[{ frames := .invoking theMethod args0 :: below }]
def below0 : List Frame := [.native { method := ⟨0, 0⟩, args := #[] }]
def about1 : State := aboutOver below0
def p0 : Program := .bare "" "" ""
def e0 : Env := launch0.env 0 0 0
theorem w_frames : about1.frames = Frame.invoking theMethod args0 :: below0 := rfl
set_option maxRecDepth 65536 in
theorem w_args : argsFit about1.vm theMethod args0 = true := by decide +kernel
set_option maxRecDepth 65536 in
theorem w_heap : heapFits about1 = true := by decide +kernel
set_option maxRecDepth 65536 in
theorem w_runnable : about1.curStatus? = some .runnable := by decide +kernel
set_option maxRecDepth 65536 in
theorem w_alone : about1.alone = true := by decide +kernel
set_option maxRecDepth 65536 in
theorem w_named : about1.methodNamed? x = some theMethod := by decide +kernel
set_option maxRecDepth 65536 in
theorem w_hears : about1.hears theMethod below0 = true := by decide +kernel
set_option maxRecDepth 65536 in
theorem w_ripe : about1.ripe theMethod args0 below0 = true := by decide +kernel
theorem w_running : about1.status = .running := rfl
set_option maxRecDepth 65536 in
theorem w_room : about1.hasRoom e0.platform room_1 = true :=
  launch0.hasRoom_least _ room_1 (by decide +kernel) (by decide +kernel) (by decide +kernel) (by decide +kernel) (by decide +kernel) (by decide +kernel)
theorem allAtoms_all (ts : List Jvm.Cond) (a : Array Jvm.Value) (st : Jvm.State) : (allAtoms ts).before a st = ts.all (fun c => c.before a st) := by
  induction ts with
  | nil => rfl
  | cons c t ih =>
    show (Jvm.Cond.and c (allAtoms t)).before a st = _
    rw [Jvm.Cond.before_and, ih, List.all_cons]
def words1 : List Jvm.Cond := Jvm.Cond.code x code maxLocals ret :: tables_1
/-- a 'code' word, met by the world's own term for the bytes: nothing is compared byte by byte -/
theorem code_word {y : MethodName} {bytes : ByteArray} {mx : Nat} {rt : Option FieldType} {a : Array Value} {s : State} {m : MethodId} {meth : Method} {c : Code} (h1 : s.methodNamed? y = some m) (h2 : s.vm.method? m = some meth) (h3 : meth.code = some c) (h4 : c.code = bytes)
    (h5 : (c.maxLocals == mx && c.exceptionTable.isEmpty && decide (c.maxStack ≤ mostOperands) && decide (meth.sig.returnType = rt) && !meth.locks && decide (parseMethodDescriptor y.desc = some meth.sig)) = true) : (Jvm.Cond.code y bytes mx rt).before a s = true := by
  simp only [Bool.and_eq_true, beq_iff_eq, Bool.not_eq_true', decide_eq_true_eq] at h5
  obtain ⟨⟨⟨⟨⟨g1, g2⟩, g3⟩, g4⟩, g5⟩, g6⟩ := h5
  simp [Cond.before, Cond.holds, Cond.value, h1, h2, h3, h4, g1, g2, g3, g4, g5, g6]
def isCode : Jvm.Cond → Bool
  | .code _ _ _ _ => true
  | _ => false
theorem all_split {L : List Jvm.Cond} {P : Jvm.Cond → Bool} (h1 : L.all (fun c => isCode c || P c) = true) (h2 : ∀ c ∈ L.filter isCode, P c = true) : L.all P = true := by
  refine List.all_eq_true.mpr fun c hc => ?_
  have h := List.all_eq_true.mp h1 c hc
  rcases Bool.eq_false_or_eq_true (isCode c) with hi | hi
  · exact h2 c (List.mem_filter.mpr ⟨hc, hi⟩)
  · simpa [hi] using h
set_option maxRecDepth 65536 in
theorem w_c0 : (Jvm.Cond.code x code maxLocals ret).before args0 about1 = true := code_word (m := ⟨1, 1⟩) (meth := k1m1) (c := k1c1) (by decide +kernel) rfl rfl rfl (by decide +kernel)
set_option maxRecDepth 65536 in
theorem w_c1 : (Jvm.Cond.code ({ cls := "kasane/util/LongLongMap", name := "<init>", desc := "()V" } : Jvm.MethodName) prog_192_method_1_code (1 : Nat) (Option.none : Option Jvm.ClassFile.FieldType)).before args0 about1 = true := code_word (m := ⟨2, 0⟩) (meth := k2m0) (c := k2c0) (by decide +kernel) rfl rfl rfl (by decide +kernel)
set_option maxRecDepth 65536 in
theorem w_c2 : (Jvm.Cond.code ({ cls := "java/lang/Object", name := "<init>", desc := "()V" } : Jvm.MethodName) object_method_1_code (1 : Nat) (Option.none : Option Jvm.ClassFile.FieldType)).before args0 about1 = true := code_word (m := ⟨0, 0⟩) (meth := k0m0) (c := k0c0) (by decide +kernel) rfl rfl rfl (by decide +kernel)
set_option maxRecDepth 65536 in
theorem w_c3 : (Jvm.Cond.code ({ cls := "kasane/util/LongLongMap", name := "freePlaces", desc := "(I)[J" } : Jvm.MethodName) prog_192_method_12_code (3 : Nat) (Option.some (Jvm.ClassFile.FieldType.array Jvm.ClassFile.FieldType.long))).before args0 about1 = true := code_word (m := ⟨2, 7⟩) (meth := k2m7) (c := k2c7) (by decide +kernel) rfl rfl rfl (by decide +kernel)
set_option maxRecDepth 65536 in
theorem w_c4 : (Jvm.Cond.code ({ cls := "kasane/util/LongLongMap", name := "isEmpty", desc := "()Z" } : Jvm.MethodName) prog_192_method_6_code (1 : Nat) (Option.some Jvm.ClassFile.FieldType.boolean)).before args0 about1 = true := code_word (m := ⟨2, 3⟩) (meth := k2m3) (c := k2c3) (by decide +kernel) rfl rfl rfl (by decide +kernel)
set_option maxRecDepth 65536 in
theorem w_c5 : (Jvm.Cond.code ({ cls := "kasane/util/LongLongMap", name := "size", desc := "()I" } : Jvm.MethodName) prog_192_method_5_code (1 : Nat) (Option.some Jvm.ClassFile.FieldType.int)).before args0 about1 = true := code_word (m := ⟨2, 2⟩) (meth := k2m2) (c := k2c2) (by decide +kernel) rfl rfl rfl (by decide +kernel)
set_option maxRecDepth 65536 in
theorem w_c6 : (Jvm.Cond.code ({ cls := "kasane/util/LongLongMap", name := "put", desc := "(JJ)V" } : Jvm.MethodName) prog_192_method_3_code (6 : Nat) (Option.none : Option Jvm.ClassFile.FieldType)).before args0 about1 = true := code_word (m := ⟨2, 1⟩) (meth := k2m1) (c := k2c1) (by decide +kernel) rfl rfl rfl (by decide +kernel)
set_option maxRecDepth 65536 in
theorem w_c7 : (Jvm.Cond.code ({ cls := "kasane/util/LongLongMap", name := "slot", desc := "(J)I" } : Jvm.MethodName) prog_192_method_10_code (3 : Nat) (Option.some Jvm.ClassFile.FieldType.int)).before args0 about1 = true := code_word (m := ⟨2, 5⟩) (meth := k2m5) (c := k2c5) (by decide +kernel) rfl rfl rfl (by decide +kernel)
set_option maxRecDepth 65536 in
theorem w_c8 : (Jvm.Cond.code ({ cls := "kasane/util/LongLongMap", name := "capacity", desc := "()I" } : Jvm.MethodName) prog_192_method_9_code (1 : Nat) (Option.some Jvm.ClassFile.FieldType.int)).before args0 about1 = true := code_word (m := ⟨2, 4⟩) (meth := k2m4) (c := k2c4) (by decide +kernel) rfl rfl rfl (by decide +kernel)
set_option maxRecDepth 65536 in
theorem w_c9 : (Jvm.Cond.code ({ cls := "kasane/util/LongMap", name := "slot", desc := "(JI)I" } : Jvm.MethodName) prog_194_method_14_code (3 : Nat) (Option.some Jvm.ClassFile.FieldType.int)).before args0 about1 = true := code_word (m := ⟨3, 1⟩) (meth := k3m1) (c := k3c1) (by decide +kernel) rfl rfl rfl (by decide +kernel)
set_option maxRecDepth 65536 in
theorem w_c10 : (Jvm.Cond.code ({ cls := "java/lang/Integer", name := "numberOfTrailingZeros", desc := "(I)I" } : Jvm.MethodName) jdk_33_method_48_code (2 : Nat) (Option.some Jvm.ClassFile.FieldType.int)).before args0 about1 = true := code_word (m := ⟨9, 0⟩) (meth := k9m0) (c := k9c0) (by decide +kernel) rfl rfl rfl (by decide +kernel)
set_option maxRecDepth 65536 in
theorem w_c11 : (Jvm.Cond.code ({ cls := "kasane/util/LongLongMap", name := "next", desc := "(I)I" } : Jvm.MethodName) prog_192_method_11_code (2 : Nat) (Option.some Jvm.ClassFile.FieldType.int)).before args0 about1 = true := code_word (m := ⟨2, 6⟩) (meth := k2m6) (c := k2c6) (by decide +kernel) rfl rfl rfl (by decide +kernel)
def codes1 : List Jvm.Cond := [Jvm.Cond.code x code maxLocals ret, Jvm.Cond.code ({ cls := "kasane/util/LongLongMap", name := "<init>", desc := "()V" } : Jvm.MethodName) prog_192_method_1_code (1 : Nat) (Option.none : Option Jvm.ClassFile.FieldType), Jvm.Cond.code ({ cls := "java/lang/Object", name := "<init>", desc := "()V" } : Jvm.MethodName) object_method_1_code (1 : Nat) (Option.none : Option Jvm.ClassFile.FieldType), Jvm.Cond.code ({ cls := "kasane/util/LongLongMap", name := "freePlaces", desc := "(I)[J" } : Jvm.MethodName) prog_192_method_12_code (3 : Nat) (Option.some (Jvm.ClassFile.FieldType.array Jvm.ClassFile.FieldType.long)), Jvm.Cond.code ({ cls := "kasane/util/LongLongMap", name := "isEmpty", desc := "()Z" } : Jvm.MethodName) prog_192_method_6_code (1 : Nat) (Option.some Jvm.ClassFile.FieldType.boolean), Jvm.Cond.code ({ cls := "kasane/util/LongLongMap", name := "size", desc := "()I" } : Jvm.MethodName) prog_192_method_5_code (1 : Nat) (Option.some Jvm.ClassFile.FieldType.int), Jvm.Cond.code ({ cls := "kasane/util/LongLongMap", name := "put", desc := "(JJ)V" } : Jvm.MethodName) prog_192_method_3_code (6 : Nat) (Option.none : Option Jvm.ClassFile.FieldType), Jvm.Cond.code ({ cls := "kasane/util/LongLongMap", name := "slot", desc := "(J)I" } : Jvm.MethodName) prog_192_method_10_code (3 : Nat) (Option.some Jvm.ClassFile.FieldType.int), Jvm.Cond.code ({ cls := "kasane/util/LongLongMap", name := "capacity", desc := "()I" } : Jvm.MethodName) prog_192_method_9_code (1 : Nat) (Option.some Jvm.ClassFile.FieldType.int), Jvm.Cond.code ({ cls := "kasane/util/LongMap", name := "slot", desc := "(JI)I" } : Jvm.MethodName) prog_194_method_14_code (3 : Nat) (Option.some Jvm.ClassFile.FieldType.int), Jvm.Cond.code ({ cls := "java/lang/Integer", name := "numberOfTrailingZeros", desc := "(I)I" } : Jvm.MethodName) jdk_33_method_48_code (2 : Nat) (Option.some Jvm.ClassFile.FieldType.int), Jvm.Cond.code ({ cls := "kasane/util/LongLongMap", name := "next", desc := "(I)I" } : Jvm.MethodName) prog_192_method_11_code (2 : Nat) (Option.some Jvm.ClassFile.FieldType.int)]
set_option maxRecDepth 65536 in
theorem codes_eq : words1.filter isCode = codes1 := rfl
theorem w_codes : ∀ c ∈ words1.filter isCode, c.before args0 about1 = true := by
  rw [codes_eq]
  intro c hc
  simp only [codes1, List.mem_cons, List.not_mem_nil, or_false] at hc
  rcases hc with rfl | rfl | rfl | rfl | rfl | rfl | rfl | rfl | rfl | rfl | rfl | rfl
  · exact w_c0
  · exact w_c1
  · exact w_c2
  · exact w_c3
  · exact w_c4
  · exact w_c5
  · exact w_c6
  · exact w_c7
  · exact w_c8
  · exact w_c9
  · exact w_c10
  · exact w_c11
set_option maxRecDepth 65536 in
theorem w_t1 : (words1.take 24).all (fun c => isCode c || c.before args0 about1) = true := by decide +kernel
set_option maxRecDepth 65536 in
theorem w_t2 : ((words1.drop 24).take 24).all (fun c => isCode c || c.before args0 about1) = true := by decide +kernel
set_option maxRecDepth 65536 in
theorem w_t3 : ((words1.drop 24).drop 24).all (fun c => isCode c || c.before args0 about1) = true := by decide +kernel
theorem w_tables : (allAtoms (Jvm.Cond.code x code maxLocals ret :: tables_1)).before args0 about1 = true := by
  rw [allAtoms_all]
  show words1.all (fun c => c.before args0 about1) = true
  refine all_split ?_ w_codes
  rw [← List.take_append_drop 24 words1, List.all_append, w_t1, ← List.take_append_drop 24 (words1.drop 24), List.all_append, w_t2, w_t3]
  rfl
set_option maxRecDepth 65536 in
theorem w_case : (Jvm.Cond.and given_1 narrow_1).before args0 about1 = true := by decide +kernel
theorem w_applies : (headSpec (Jvm.Cond.code x code maxLocals ret :: tables_1) room_1).applies x e0.platform about1 = true :=
  (Spec.applies_iff w_frames).mpr ⟨w_running, w_runnable, w_alone, w_named, w_hears, w_ripe, w_room, w_tables⟩
theorem atStart : AtStart classFile x code maxLocals ret World_1 tables_1 room_1 Calls_1 rest_1 Pre_1 launch0 p0 e0 about1 theMethod args0 below0 :=
  ⟨lists_1, trivial, launch0.admits_env _ _ _, launch0.least_env, fairChoices_fair.cas, fairChoices_fair.clock, w_frames, w_args, w_heap, w_applies, trivial, trivial, w_case⟩
end start1
theorem witness_1 : WitnessClaimed_1 := ⟨start1.p0, start1.e0, start1.about1, start1.theMethod, start1.args0, start1.below0, start1.atStart⟩
end Jvm.Pilot.@@N@@
