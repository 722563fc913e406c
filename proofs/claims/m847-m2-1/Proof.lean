import JvmDerived
import JvmDerived.Pilot.@@N@@Statement
import JvmDerived.Pilot.@@N@@Code
set_option linter.unusedVariables false
set_option linter.unusedSimpArgs false
namespace Jvm.OwnKit
open Sem ClassFile Op Lib Jvm.Stand Jvm.Free Jvm.LawKit Jvm.RoadKit
/-- from the frame g over T the run ends, and what it leaves is Q's -/
def Go (p : Program) (e : Env) (below : List Frame) (s : State) (Q : Option Value → Heap → List Loc → Prop) (C S : Nat) (T : State) (g : JFrame) : Prop :=
  ∃ s₂ o, Steps p.tables e below (T.setTop g) s₂ ∧ s₂.status = .running ∧ Ended s₂ below o ∧ ∃ v L, o = .returned v ∧ Q v s₂.heap L ∧ FrameEnd s o s₂ L C S
section OwnGo
variable {p : Program} {l : Launch} {e : Env} {R : Room} {s : State} {m : MethodId} {args : Array Value} {below : List Frame} {meth : Method} {c : Code} {T T' : State} {locs : List Loc} {cells slots : Nat} {Q : Option Value → Heap → List Loc → Prop} {C S : Nat} {g g' : JFrame}
theorem Go.st (h : ∀ t, Steps p.tables e below (T'.setTop g') t → Steps p.tables e below (T.setTop g) t) (k : Go p e below s Q C S T' g') : Go p e below s Q C S T g := by
  obtain ⟨s₂, o, h1, h2⟩ := k
  exact ⟨s₂, o, h _ h1, h2⟩
theorem Go.eq (q : g = g') (k : Go p e below s Q C S T g') : Go p e below s Q C S T g := q ▸ k
theorem Go.retV (X : Stand p l e R s m args below meth c T locs cells slots) (hx : p.tables.exec = Jvm.exec) (hlk : meth.locks = false) {pc : Nat} {Ls : Array Slot} {w : Value} {t : FieldType} {i : Instr} {rest : List Value} (hret : meth.sig.returnType = some t) (hn : narrow t w = w)
    (hi : (i = .ireturn ∧ (t = .int ∨ t = .boolean ∨ t = .byte ∨ t = .char ∨ t = .short) ∧ ∃ z, w = .int z) ∨ (i = .lreturn ∧ t = .long ∧ ∃ z, w = .long z) ∨ (i = .dreturn ∧ t = .double ∧ ∃ z, w = .double z) ∨ (i = .freturn ∧ t = .float ∧ ∃ z, w = .float z) ∨ (i = .areturn ∧ t.isReference = true ∧ w.isRef = true))
    (hd : decode c.code pc = .ok (i, 1)) (hQ : Q (some w) T.heap locs) (hc : cells ≤ C) (hs : slots ≤ S) : Go p e below s Q C S T (mkF m pc Ls (w :: rest)) := by
  obtain ⟨fs, hr, hrun, hended, hW, hsame⟩ := X.leave (v := some w) (fun h => by rw [hret] at h; cases h) hlk
  exact ⟨_, _, retOut X hx hret hn hi hd hr, hrun, hended, _, _, rfl, hQ, ⟨_, rfl⟩, hW, hsame.mono hc hs⟩
theorem Go.retI (X : Stand p l e R s m args below meth c T locs cells slots) (hx : p.tables.exec = Jvm.exec) (hlk : meth.locks = false) {pc : Nat} {Ls : Array Slot} {z : Int32} {rest : List Value} (hret : meth.sig.returnType = some .int) (hd : decode c.code pc = .ok (.ireturn, 1)) (hQ : Q (some (.int z)) T.heap locs) (hc : cells ≤ C) (hs : slots ≤ S) : Go p e below s Q C S T (mkF m pc Ls (.int z :: rest)) :=
  Go.retV X hx hlk hret rfl (Or.inl ⟨rfl, Or.inl rfl, _, rfl⟩) hd hQ hc hs
theorem Go.retZ (X : Stand p l e R s m args below meth c T locs cells slots) (hx : p.tables.exec = Jvm.exec) (hlk : meth.locks = false) {pc : Nat} {Ls : Array Slot} {z : Int32} {rest : List Value} (hret : meth.sig.returnType = some .boolean) (hd : decode c.code pc = .ok (.ireturn, 1)) (hn : narrow .boolean (.int z) = .int z) (hQ : Q (some (.int z)) T.heap locs) (hc : cells ≤ C) (hs : slots ≤ S) : Go p e below s Q C S T (mkF m pc Ls (.int z :: rest)) :=
  Go.retV X hx hlk hret hn (Or.inl ⟨rfl, Or.inr (Or.inl rfl), _, rfl⟩) hd hQ hc hs
theorem Go.retB (X : Stand p l e R s m args below meth c T locs cells slots) (hx : p.tables.exec = Jvm.exec) (hlk : meth.locks = false) {pc : Nat} {Ls : Array Slot} {z : Int32} {rest : List Value} (hret : meth.sig.returnType = some .byte) (hd : decode c.code pc = .ok (.ireturn, 1)) (hn : narrow .byte (.int z) = .int z) (hQ : Q (some (.int z)) T.heap locs) (hc : cells ≤ C) (hs : slots ≤ S) : Go p e below s Q C S T (mkF m pc Ls (.int z :: rest)) :=
  Go.retV X hx hlk hret hn (Or.inl ⟨rfl, Or.inr (Or.inr (Or.inl rfl)), _, rfl⟩) hd hQ hc hs
theorem Go.retC (X : Stand p l e R s m args below meth c T locs cells slots) (hx : p.tables.exec = Jvm.exec) (hlk : meth.locks = false) {pc : Nat} {Ls : Array Slot} {z : Int32} {rest : List Value} (hret : meth.sig.returnType = some .char) (hd : decode c.code pc = .ok (.ireturn, 1)) (hn : narrow .char (.int z) = .int z) (hQ : Q (some (.int z)) T.heap locs) (hc : cells ≤ C) (hs : slots ≤ S) : Go p e below s Q C S T (mkF m pc Ls (.int z :: rest)) :=
  Go.retV X hx hlk hret hn (Or.inl ⟨rfl, Or.inr (Or.inr (Or.inr (Or.inl rfl))), _, rfl⟩) hd hQ hc hs
theorem Go.retJ (X : Stand p l e R s m args below meth c T locs cells slots) (hx : p.tables.exec = Jvm.exec) (hlk : meth.locks = false) {pc : Nat} {Ls : Array Slot} {z : Int64} {rest : List Value} (hret : meth.sig.returnType = some .long) (hd : decode c.code pc = .ok (.lreturn, 1)) (hQ : Q (some (.long z)) T.heap locs) (hc : cells ≤ C) (hs : slots ≤ S) : Go p e below s Q C S T (mkF m pc Ls (.long z :: rest)) :=
  Go.retV X hx hlk hret rfl (Or.inr (Or.inl ⟨rfl, rfl, _, rfl⟩)) hd hQ hc hs
theorem own_nar_ref {t : FieldType} {w : Value} (hw : w.isRef = true) : narrow t w = w := by
  rcases ref_cases hw with rfl | ⟨_, rfl⟩ <;> cases t <;> rfl
theorem Go.retA (X : Stand p l e R s m args below meth c T locs cells slots) (hx : p.tables.exec = Jvm.exec) (hlk : meth.locks = false) {pc : Nat} {Ls : Array Slot} {w : Value} {t : FieldType} {rest : List Value} (hret : meth.sig.returnType = some t) (ht : t.isReference = true) (hw : w.isRef = true) (hd : decode c.code pc = .ok (.areturn, 1)) (hQ : Q (some w) T.heap locs) (hc : cells ≤ C) (hs : slots ≤ S) : Go p e below s Q C S T (mkF m pc Ls (w :: rest)) :=
  Go.retV X hx hlk hret (own_nar_ref hw) (Or.inr (Or.inr (Or.inr (Or.inr ⟨rfl, ht, hw⟩)))) hd hQ hc hs
theorem Go.ret0 (X : Stand p l e R s m args below meth c T locs cells slots) (hx : p.tables.exec = Jvm.exec) (hlk : meth.locks = false) {pc : Nat} {Ls : Array Slot} (hret : meth.sig.returnType = none) (hd : decode c.code pc = .ok (.return_, 1)) (hQ : Q none T.heap locs) (hc : cells ≤ C) (hs : slots ≤ S) : Go p e below s Q C S T (mkF m pc Ls []) := by
  obtain ⟨fs, hr, hrun, hended, hW, hsame⟩ := X.leave (v := none) (fun _ => rfl) hlk
  exact ⟨_, _, X.returnOut hx hret hd hr, hrun, hended, _, _, rfl, hQ, ⟨_, rfl⟩, hW, hsame.mono hc hs⟩
end OwnGo
/-- a proposition as Java's boolean -/
def b2i (P : Prop) [Decidable P] : Int32 := if P then 1 else 0
theorem b2i_pos {P : Prop} [Decidable P] (h : P) : b2i P = 1 := if_pos h
theorem b2i_neg {P : Prop} [Decidable P] (h : ¬ P) : b2i P = 0 := if_neg h
theorem b2i_ne {P : Prop} [Decidable P] (h : P) : ¬ b2i P = 0 := by rw [b2i_pos h]; decide
theorem b2i_zero {P : Prop} [Decidable P] (h : ¬ P) : b2i P = 0 := b2i_neg h
theorem own_b2i_t {P : Prop} [Decidable P] (h : P) : some (Value.int 1) = some (Value.int (b2i P)) := by rw [b2i_pos h]
theorem own_b2i_f {P : Prop} [Decidable P] (h : ¬ P) : some (Value.int 0) = some (Value.int (b2i P)) := by rw [b2i_neg h]
theorem own_nb (y : Int32) : nar .byte (y.toInt8.toInt32) = y.toInt8.toInt32 := by
  show y.toInt8.toInt32.toInt8.toInt32 = y.toInt8.toInt32
  simp
theorem own_nc (y : Int32) : nar .char (y.toUInt32.toUInt16.toUInt32.toInt32) = y.toUInt32.toUInt16.toUInt32.toInt32 := by
  show (y.toUInt32.toUInt16.toUInt32.toInt32).toUInt32.toUInt16.toUInt32.toInt32 = y.toUInt32.toUInt16.toUInt32.toInt32
  rw [UInt32.toUInt32_toInt32, UInt16.toUInt16_toUInt32]
theorem own_nbv (y : Int32) : narrow .byte (.int (y.toInt8.toInt32)) = .int (y.toInt8.toInt32) := congrArg Value.int (own_nb y)
theorem own_and1 (a : Int32) : a &&& (1 : Int32) = (0 : Int32) ∨ a &&& (1 : Int32) = (1 : Int32) := and_one a
theorem own_and3 (a : Int32) : a &&& (3 : Int32) = (0 : Int32) ∨ a &&& (3 : Int32) = (1 : Int32) ∨ a &&& (3 : Int32) = (2 : Int32) ∨ a &&& (3 : Int32) = (3 : Int32) := by
  have e := c_mask a 3 2 (by decide) (by decide)
  have h : (a &&& (3 : Int32)).toInt = 0 ∨ (a &&& (3 : Int32)).toInt = 1 ∨ (a &&& (3 : Int32)).toInt = 2 ∨ (a &&& (3 : Int32)).toInt = 3 := by omega
  rcases h with h | h | h | h
  · exact Or.inl (Int32.toInt_inj.mp (h.trans (by decide)))
  · exact Or.inr (Or.inl (Int32.toInt_inj.mp (h.trans (by decide))))
  · exact Or.inr (Or.inr (Or.inl (Int32.toInt_inj.mp (h.trans (by decide)))))
  · exact Or.inr (Or.inr (Or.inr (Int32.toInt_inj.mp (h.trans (by decide)))))
theorem own_ord {s : State} {args : Array Value} {t : Term} {a : Addr} {C n d : String} {k : Int32} (ev : t.eval args s none [] s = some (.ref a)) (h : (Jvm.Cond.eq (Term.field t C n d) (Term.int k)).value args s none s [] = some true) : Fld s s.heap a C n d (.int k) := by
  obtain ⟨u, w, hu, hw, k1, k2⟩ := cmp_v (Or.inl h)
  have hw' : (Term.int k).eval args s none [] s = some (.int k) := Term.int_eval k
  cases hw.symm.trans hw'
  obtain ⟨z, rfl⟩ : ∃ z, u = .int z := k2
  have hz : z = k := gotT (Cond.eq_ints hu hw') h
  subst hz
  exact Fld.start ((fld_at ev).symm.trans hu)
section OwnBounds
variable {c a b : Int32} {n : Int}
theorem own_i1 (h : c < a) (q : a.toInt ≤ b.toInt) : c < b := by rw [Int32.lt_iff_toInt_lt] at *; omega
theorem own_i2 (h : ¬ a < c) (q : a.toInt < b.toInt) : c < b := by rw [Int32.lt_iff_toInt_lt] at *; omega
theorem own_i3 (h : ¬ c < a) (q : b.toInt ≤ a.toInt) : ¬ c < b := by rw [Int32.lt_iff_toInt_lt] at *; omega
theorem own_i4 (h : a < c) (q : b.toInt ≤ a.toInt + 1) : ¬ c < b := by rw [Int32.lt_iff_toInt_lt] at *; omega
theorem own_j1 (h : c < a) (q : a.toInt ≤ b.toInt + 1) : ¬ b < c := by rw [Int32.lt_iff_toInt_lt] at *; omega
theorem own_j2 (h : ¬ a < c) (q : a.toInt ≤ b.toInt) : ¬ b < c := by rw [Int32.lt_iff_toInt_lt] at *; omega
theorem own_j3 (h : ¬ c < a) (q : b.toInt < a.toInt) : b < c := by rw [Int32.lt_iff_toInt_lt] at *; omega
theorem own_j4 (h : a < c) (q : b.toInt ≤ a.toInt) : b < c := by rw [Int32.lt_iff_toInt_lt] at *; omega
theorem own_k1 (h : c < a) (q : a.toInt ≤ b.toInt) : ¬ c = b := fun e => by rw [e, Int32.lt_iff_toInt_lt] at h; omega
theorem own_k2 (h : ¬ a < c) (q : a.toInt < b.toInt) : ¬ c = b := fun e => by rw [e, Int32.lt_iff_toInt_lt] at h; omega
theorem own_k3 (h : ¬ c < a) (q : b.toInt < a.toInt) : ¬ c = b := fun e => by rw [e, Int32.lt_iff_toInt_lt] at h; omega
theorem own_k4 (h : a < c) (q : b.toInt ≤ a.toInt) : ¬ c = b := fun e => by rw [e, Int32.lt_iff_toInt_lt] at h; omega
theorem own_c1 (h : c < a) (q : a.toInt = n) : c.toInt < n := by rw [Int32.lt_iff_toInt_lt] at h; omega
theorem own_c2 (h : ¬ a < c) (q : a.toInt = n) : c.toInt ≤ n := by rw [Int32.lt_iff_toInt_lt] at h; omega
theorem own_c3 (h : ¬ c < a) (q : a.toInt = n) : n ≤ c.toInt := by rw [Int32.lt_iff_toInt_lt] at h; omega
theorem own_c4 (h : a < c) (q : a.toInt = n) : n < c.toInt := by rw [Int32.lt_iff_toInt_lt] at h; omega
theorem own_c5 (h : c = a) (q : a.toInt = n) : c.toInt = n := by rw [h]; exact q
theorem own_c6 (h : ¬ c = a) (q : a.toInt = n) : ¬ c.toInt = n := fun e => h (Int32.toInt_inj.mp (e.trans q.symm))
end OwnBounds
theorem own_addc {a b c d : Int32} (h : b + c = d) : (a + b) + c = a + d := by rw [Int32.add_assoc, h]
theorem own_byte_of {v : Value} (h : fits .byte v = true) : ∃ w, v = .int w ∧ narrow .byte (.int w) = .int w := by
  cases v with
  | int w =>
    refine ⟨w, rfl, ?_⟩
    obtain ⟨h1, h2⟩ := rng_byte h
    have e := c_i2b w
    have e1 : (-128 : Int32).toInt = -128 := by decide
    have e2 : (127 : Int32).toInt = 127 := by decide
    rw [Int32.lt_iff_toInt_lt, e1] at h1
    rw [Int32.lt_iff_toInt_lt, e2] at h2
    have e3 : w.toInt8.toInt32 = w := Int32.toInt_inj.mp (by omega)
    exact congrArg Value.int e3
  | _ => simp [fits] at h
theorem own_arv_nostat {Z : State} {h : Heap} {a : Addr} {k : ClassId} {ty : FieldType} {z : Int32} {vs : List Value} {dv : Value} (F : Arv Z h a k ty z vs dv) : ∀ cell : Cell, h[a]? = some cell → cell.vm.isStatics = false := by
  obtain ⟨c, A, -⟩ := F
  intro cell hc
  cases A.1.symm.trans hc
  exact A.plain
theorem own_selP {s : State} {args args' : Array Value} {y y' : MethodName} (hsel : (Jvm.Cond.selects y'.cls y' y').before args s = true) (he : y.cls = y'.cls) (hp : s.PrivateAt y) (hi : (Jvm.Cond.instanceMethod y).before args s = true) (hy : y.cls ≠ "java/lang/invoke/MethodHandle" ∧ y.cls ≠ "java/lang/invoke/VarHandle") : (Jvm.Cond.selects y.cls y y).before args s = true := by
  obtain ⟨c2, r2, m2, -, -, q3, -, kP, hkP, hkPi⟩ := Cond.selects_spec hsel
  exact Jvm.Stand.selects_self_of_private (by rw [he]; exact findClass_of_methodNamed q3) hkP hkPi hp hi hy
theorem own_irr {a : Int32} : ¬ (a < a) := Int32.lt_irrefl
theorem own_irrL {a : Int64} : ¬ (a < a) := Int64.lt_irrefl
theorem own_sta_keep {Z : State} {h h' : Heap} {C n d : String} {v : Value} {ws : List Addr} (F : Sta Z h C n d v) (K : Keep h h' ws) (q : ∀ x ∈ ws, ∀ cell : Cell, h[x]? = some cell → cell.vm.isStatics = false) : Sta Z h' C n d v := by
  obtain ⟨cf, i, k, f, st, cell, h1, h2, h3, h4, h5, h6, h7⟩ := F
  refine ⟨cf, i, k, f, st, cell, h1, h2, h3, h4, K.2.1 _ _ h5 (fun hm => ?_), h6, h7⟩
  have := q _ hm _ h5
  rw [h6] at this
  cases this
end Jvm.OwnKit
namespace Jvm.Pilot.@@N@@
open Jvm Jvm.ClassFile Sem Op Lib Jvm.Free Jvm.Stand Jvm.LawKit Jvm.RoadKit Jvm.OwnKit Bundle Jvm.Pilot.@@N@@.Jvm.D
theorem own_mod (a : Int32) : ((a &&& (2147483647 : Int32)) % (14 : Int32)) = (0 : Int32) ∨ ((a &&& (2147483647 : Int32)) % (14 : Int32)) = (1 : Int32) ∨ ((a &&& (2147483647 : Int32)) % (14 : Int32)) = (2 : Int32) ∨ ((a &&& (2147483647 : Int32)) % (14 : Int32)) = (3 : Int32) ∨ ((a &&& (2147483647 : Int32)) % (14 : Int32)) = (4 : Int32) ∨ ((a &&& (2147483647 : Int32)) % (14 : Int32)) = (5 : Int32) ∨ ((a &&& (2147483647 : Int32)) % (14 : Int32)) = (6 : Int32) ∨ ((a &&& (2147483647 : Int32)) % (14 : Int32)) = (7 : Int32) ∨ ((a &&& (2147483647 : Int32)) % (14 : Int32)) = (8 : Int32) ∨ ((a &&& (2147483647 : Int32)) % (14 : Int32)) = (9 : Int32) ∨ ((a &&& (2147483647 : Int32)) % (14 : Int32)) = (10 : Int32) ∨ ((a &&& (2147483647 : Int32)) % (14 : Int32)) = (11 : Int32) ∨ ((a &&& (2147483647 : Int32)) % (14 : Int32)) = (12 : Int32) ∨ ((a &&& (2147483647 : Int32)) % (14 : Int32)) = (13 : Int32) := by
  have e1 := c_mask a 2147483647 31 (by decide) (by decide)
  have e2 := (c_irem (a &&& (2147483647 : Int32)) (14 : Int32) 14 (by decide)).1 (by rw [e1]; omega)
  have h : ((a &&& (2147483647 : Int32)) % (14 : Int32)).toInt = 0 ∨ ((a &&& (2147483647 : Int32)) % (14 : Int32)).toInt = 1 ∨ ((a &&& (2147483647 : Int32)) % (14 : Int32)).toInt = 2 ∨ ((a &&& (2147483647 : Int32)) % (14 : Int32)).toInt = 3 ∨ ((a &&& (2147483647 : Int32)) % (14 : Int32)).toInt = 4 ∨ ((a &&& (2147483647 : Int32)) % (14 : Int32)).toInt = 5 ∨ ((a &&& (2147483647 : Int32)) % (14 : Int32)).toInt = 6 ∨ ((a &&& (2147483647 : Int32)) % (14 : Int32)).toInt = 7 ∨ ((a &&& (2147483647 : Int32)) % (14 : Int32)).toInt = 8 ∨ ((a &&& (2147483647 : Int32)) % (14 : Int32)).toInt = 9 ∨ ((a &&& (2147483647 : Int32)) % (14 : Int32)).toInt = 10 ∨ ((a &&& (2147483647 : Int32)) % (14 : Int32)).toInt = 11 ∨ ((a &&& (2147483647 : Int32)) % (14 : Int32)).toInt = 12 ∨ ((a &&& (2147483647 : Int32)) % (14 : Int32)).toInt = 13 := by omega
  have q : ∀ {x y : Int32}, x.toInt = y.toInt → x = y := Int32.toInt_inj.mp
  rcases h with h | h | h | h | h | h | h | h | h | h | h | h | h | h
  · exact Or.inl (q (h.trans (by decide)))
  · exact Or.inr (Or.inl (q (h.trans (by decide))))
  · exact Or.inr (Or.inr (Or.inl (q (h.trans (by decide)))))
  · exact Or.inr (Or.inr (Or.inr (Or.inl (q (h.trans (by decide))))))
  · exact Or.inr (Or.inr (Or.inr (Or.inr (Or.inl (q (h.trans (by decide)))))))
  · exact Or.inr (Or.inr (Or.inr (Or.inr (Or.inr (Or.inl (q (h.trans (by decide))))))))
  · exact Or.inr (Or.inr (Or.inr (Or.inr (Or.inr (Or.inr (Or.inl (q (h.trans (by decide)))))))))
  · exact Or.inr (Or.inr (Or.inr (Or.inr (Or.inr (Or.inr (Or.inr (Or.inl (q (h.trans (by decide))))))))))
  · exact Or.inr (Or.inr (Or.inr (Or.inr (Or.inr (Or.inr (Or.inr (Or.inr (Or.inl (q (h.trans (by decide)))))))))))
  · exact Or.inr (Or.inr (Or.inr (Or.inr (Or.inr (Or.inr (Or.inr (Or.inr (Or.inr (Or.inl (q (h.trans (by decide))))))))))))
  · exact Or.inr (Or.inr (Or.inr (Or.inr (Or.inr (Or.inr (Or.inr (Or.inr (Or.inr (Or.inr (Or.inl (q (h.trans (by decide)))))))))))))
  · exact Or.inr (Or.inr (Or.inr (Or.inr (Or.inr (Or.inr (Or.inr (Or.inr (Or.inr (Or.inr (Or.inr (Or.inl (q (h.trans (by decide))))))))))))))
  · exact Or.inr (Or.inr (Or.inr (Or.inr (Or.inr (Or.inr (Or.inr (Or.inr (Or.inr (Or.inr (Or.inr (Or.inr (Or.inl (q (h.trans (by decide)))))))))))))))
  · exact Or.inr (Or.inr (Or.inr (Or.inr (Or.inr (Or.inr (Or.inr (Or.inr (Or.inr (Or.inr (Or.inr (Or.inr (Or.inr ((q (h.trans (by decide))))))))))))))))
theorem d1_0 : decode method_3_code 0 = .ok (.iload_n 0, 1) := by decide +kernel
theorem d1_1 : decode method_3_code 1 = .ok (.ifCond .ne 7, 3) := by decide +kernel
theorem d1_4 : decode method_3_code 4 = .ok (.getstatic 28, 3) := by decide +kernel
theorem d1_7 : decode method_3_code 7 = .ok (.areturn, 1) := by decide +kernel
theorem pn_0 : plainName "com/example/moat/moat/xpath/OperatorFlippedPinLaw" = true := by first | (simp [plainName, overriddenIn]; done) | decide +kernel
theorem ef_rmP0 (m : MethodId)  : entryFrame m #[(.int (0 : Int32))] 1 = mkF m 0 #[.val (.int (0 : Int32))] [] := by first | (simp [entryFrame, mkF, argsToLocals, Value.category]; done) | rfl
def QrmP0 (Z : State) (u_OR : Addr) (h0 : Heap) (n0 : Nat) (rV : Option Value) (hE : Heap) (LE : List Loc) : Prop := rV = some (.ref u_OR) ∧ Fr n0 LE ∧ hE = h0
set_option maxRecDepth 65536 in
set_option maxHeartbeats 40000000 in
theorem rmP0 (l : Launch) (Z : State) (a0 : Array Value) (hw : ∀ d ∈ tables_1, d.before a0 Z = true) (ws : List Jvm.Cond) (u_OR : Addr) (h0 : Heap) (n0 : Nat) (Z0 : n0 ≤ h0.size) (S_OR : Sta Z h0 "com/example/moat/moat/xpath/Operation$Operator" "OR" "Lcom/example/moat/moat/xpath/Operation$Operator;" (.ref u_OR)) :
    MetFree l (⟨"com/example/moat/moat/xpath/OperatorFlippedPinLaw", "pick", "(I)Lcom/example/moat/moat/xpath/Operation$Operator;"⟩ : MethodName) (head1 (Jvm.Cond.code (⟨"com/example/moat/moat/xpath/OperatorFlippedPinLaw", "pick", "(I)Lcom/example/moat/moat/xpath/Operation$Operator;"⟩ : MethodName) method_3_code 1 (some (.object "com/example/moat/moat/xpath/Operation$Operator")) :: ws) ({ frames := 0, cells := 0, slots := 0, locals := 0 } : Room)) (fun aA UA => aA = #[(.int (0 : Int32))] ∧ Z.Warmed39 UA.vm ∧ UA.heap = h0) (fun _ _ _ _ _ => True) (fun _ UA oA UB => ∃ rV LE, oA = .returned rV ∧ QrmP0 Z u_OR h0 n0 rV UB.heap LE ∧ FrameEnd UA oA UB LE ({ frames := 0, cells := 0, slots := 0, locals := 0 } : Room).cells ({ frames := 0, cells := 0, slots := 0, locals := 0 } : Room).slots) := by
  refine MetFree.of_bodySF (plainFor_of_name pn_0) hisR ?_
  intro p e s m args below meth c s₁ Bd hml0 hP hK
  obtain ⟨rfl, hZ, hh⟩ := hP
  have hx := Bd.exec
  have hby := Bd.bytes
  have hml : c.maxLocals = 1 := hml0
  have hown : s.vm.findClass "com/example/moat/moat/xpath/OperatorFlippedPinLaw" = some m.cls := findClass_of_methodNamed Bd.named
  have hnm := (name_of_methodNamed Bd.named Bd.method).1
  have hlk := Bd.notSynchronized
  have X0 : Stand p l e ({ frames := 0, cells := 0, slots := 0, locals := 0 } : Room) s m #[(.int (0 : Int32))] below meth c s₁ [] 0 0 := Stand.of_body Bd
  have e0 : s₁.heap = h0 := by rw [← hh, Bd.state]; rfl
  have N0 := Fr.nil n0
  show Go p e below s (QrmP0 Z u_OR h0 n0) ({ frames := 0, cells := 0, slots := 0, locals := 0 } : Room).cells ({ frames := 0, cells := 0, slots := 0, locals := 0 } : Room).slots s₁ (entryFrame m #[(.int (0 : Int32))] 1)
  refine Go.eq (ef_rmP0 m ) ?_
  show Go p e below s _ _ _ s₁ (mkF m 0 #[.val (.int (0 : Int32))] [])
  refine Go.st (fun _ => XS.iloadN X0.here hx rfl (hb hby d1_0) rfl) ?_
  show Go p e below s _ _ _ s₁ (mkF m 1 #[.val (.int (0 : Int32))] [(.int (0 : Int32))])
  refine Go.st (fun _ => XS.ifNo X0.here hx rfl (hb hby d1_1) rfl ((if0 _ _).trans (teq (by decide : (0 : Int32) = (0 : Int32))).2)) ?_
  show Go p e below s _ _ _ s₁ (mkF m 4 #[.val (.int (0 : Int32))] [])
  obtain ⟨T1, X1, e1, st1⟩ := getS2 X0 hx hZ hown (host := "") (Or.inl (hw _ (List.mem_of_getElem? (i := 5) rfl))) Via.refl e0 S_OR (g := (mkF m 4 #[.val (.int (0 : Int32))] [])) rfl (hb hby d1_4)
  refine Go.st st1 ?_
  show Go p e below s _ _ _ T1 (mkF m 7 #[.val (.int (0 : Int32))] [(.ref u_OR)])
  exact Go.retA X1 hx hlk Bd.returns rfl rfl (hb hby d1_7) (by rw [e1]; exact ⟨rfl, N0, rfl⟩) (by decide) (by decide)
theorem d3_0 : decode method_4_code 0 = .ok (.aload_n 0, 1) := by decide +kernel
theorem d3_1 : decode method_4_code 1 = .ok (.getstatic 28, 3) := by decide +kernel
theorem d3_4 : decode method_4_code 4 = .ok (.if_acmp .ne 5, 3) := by decide +kernel
theorem d3_7 : decode method_4_code 7 = .ok (.iconst 0, 1) := by decide +kernel
theorem d3_8 : decode method_4_code 8 = .ok (.ireturn, 1) := by decide +kernel
theorem ef_rmX0 (m : MethodId) (u_OR : Addr) : entryFrame m #[(.ref u_OR)] 1 = mkF m 0 #[.val (.ref u_OR)] [] := by first | (simp [entryFrame, mkF, argsToLocals, Value.category]; done) | rfl
def QrmX0 (Z : State) (u_OR : Addr) (h0 : Heap) (n0 : Nat) (rV : Option Value) (hE : Heap) (LE : List Loc) : Prop := rV = some (.int (0 : Int32)) ∧ Fr n0 LE ∧ hE = h0
set_option maxRecDepth 65536 in
set_option maxHeartbeats 40000000 in
theorem rmX0 (l : Launch) (Z : State) (a0 : Array Value) (hw : ∀ d ∈ tables_1, d.before a0 Z = true) (ws : List Jvm.Cond) (u_OR : Addr) (h0 : Heap) (n0 : Nat) (Z0 : n0 ≤ h0.size) (S_OR : Sta Z h0 "com/example/moat/moat/xpath/Operation$Operator" "OR" "Lcom/example/moat/moat/xpath/Operation$Operator;" (.ref u_OR)) :
    MetFree l (⟨"com/example/moat/moat/xpath/OperatorFlippedPinLaw", "index", "(Lcom/example/moat/moat/xpath/Operation$Operator;)I"⟩ : MethodName) (head1 (Jvm.Cond.code (⟨"com/example/moat/moat/xpath/OperatorFlippedPinLaw", "index", "(Lcom/example/moat/moat/xpath/Operation$Operator;)I"⟩ : MethodName) method_4_code 1 (some .int) :: ws) ({ frames := 0, cells := 0, slots := 0, locals := 0 } : Room)) (fun aA UA => aA = #[(.ref u_OR)] ∧ Z.Warmed39 UA.vm ∧ UA.heap = h0) (fun _ _ _ _ _ => True) (fun _ UA oA UB => ∃ rV LE, oA = .returned rV ∧ QrmX0 Z u_OR h0 n0 rV UB.heap LE ∧ FrameEnd UA oA UB LE ({ frames := 0, cells := 0, slots := 0, locals := 0 } : Room).cells ({ frames := 0, cells := 0, slots := 0, locals := 0 } : Room).slots) := by
  refine MetFree.of_bodySF (plainFor_of_name pn_0) hisR ?_
  intro p e s m args below meth c s₁ Bd hml0 hP hK
  obtain ⟨rfl, hZ, hh⟩ := hP
  have hx := Bd.exec
  have hby := Bd.bytes
  have hml : c.maxLocals = 1 := hml0
  have hown : s.vm.findClass "com/example/moat/moat/xpath/OperatorFlippedPinLaw" = some m.cls := findClass_of_methodNamed Bd.named
  have hnm := (name_of_methodNamed Bd.named Bd.method).1
  have hlk := Bd.notSynchronized
  have X0 : Stand p l e ({ frames := 0, cells := 0, slots := 0, locals := 0 } : Room) s m #[(.ref u_OR)] below meth c s₁ [] 0 0 := Stand.of_body Bd
  have e0 : s₁.heap = h0 := by rw [← hh, Bd.state]; rfl
  have N0 := Fr.nil n0
  show Go p e below s (QrmX0 Z u_OR h0 n0) ({ frames := 0, cells := 0, slots := 0, locals := 0 } : Room).cells ({ frames := 0, cells := 0, slots := 0, locals := 0 } : Room).slots s₁ (entryFrame m #[(.ref u_OR)] 1)
  refine Go.eq (ef_rmX0 m u_OR) ?_
  show Go p e below s _ _ _ s₁ (mkF m 0 #[.val (.ref u_OR)] [])
  refine Go.st (fun _ => XS.aloadN X0.here hx rfl (hb hby d3_0) rfl rfl) ?_
  show Go p e below s _ _ _ s₁ (mkF m 1 #[.val (.ref u_OR)] [(.ref u_OR)])
  obtain ⟨T1, X1, e1, st1⟩ := getS2 X0 hx hZ hown (host := "") (Or.inl (hw _ (List.mem_of_getElem? (i := 5) rfl))) Via.refl e0 S_OR (g := (mkF m 1 #[.val (.ref u_OR)] [(.ref u_OR)])) rfl (hb hby d3_1)
  refine Go.st st1 ?_
  show Go p e below s _ _ _ T1 (mkF m 4 #[.val (.ref u_OR)] [(.ref u_OR), (.ref u_OR)])
  refine Go.st (fun _ => Jvm.RoadKit.acmp (g := (mkF m 4 #[.val (.ref u_OR)] [(.ref u_OR), (.ref u_OR)])) X1 hx rfl rfl rfl (pc0 := 4) (pc' := 7) (same := true) rfl (hb hby d3_4) rfl (decide_eq_true rfl) (by decide) (by decide)) ?_
  show Go p e below s _ _ _ T1 (mkF m 7 #[.val (.ref u_OR)] [])
  refine Go.st (fun _ => XS.iconst X1.here hx rfl (hb hby d3_7)) ?_
  show Go p e below s _ _ _ T1 (mkF m 8 #[.val (.ref u_OR)] [(.int (0 : Int32))])
  exact Go.retI X1 hx hlk Bd.returns (hb hby d3_8) (by rw [e1]; exact ⟨rfl, N0, rfl⟩) (by decide) (by decide)
theorem d1_8 : decode method_3_code 8 = .ok (.iload_n 0, 1) := by decide +kernel
theorem d1_9 : decode method_3_code 9 = .ok (.iconst 1, 1) := by decide +kernel
theorem d1_10 : decode method_3_code 10 = .ok (.if_icmp .ne 7, 3) := by decide +kernel
theorem d1_13 : decode method_3_code 13 = .ok (.getstatic 32, 3) := by decide +kernel
theorem d1_16 : decode method_3_code 16 = .ok (.areturn, 1) := by decide +kernel
theorem ef_rmP1 (m : MethodId)  : entryFrame m #[(.int (1 : Int32))] 1 = mkF m 0 #[.val (.int (1 : Int32))] [] := by first | (simp [entryFrame, mkF, argsToLocals, Value.category]; done) | rfl
def QrmP1 (Z : State) (u_AND : Addr) (h0 : Heap) (n0 : Nat) (rV : Option Value) (hE : Heap) (LE : List Loc) : Prop := rV = some (.ref u_AND) ∧ Fr n0 LE ∧ hE = h0
set_option maxRecDepth 65536 in
set_option maxHeartbeats 40000000 in
theorem rmP1 (l : Launch) (Z : State) (a0 : Array Value) (hw : ∀ d ∈ tables_1, d.before a0 Z = true) (ws : List Jvm.Cond) (u_AND : Addr) (h0 : Heap) (n0 : Nat) (Z0 : n0 ≤ h0.size) (S_AND : Sta Z h0 "com/example/moat/moat/xpath/Operation$Operator" "AND" "Lcom/example/moat/moat/xpath/Operation$Operator;" (.ref u_AND)) :
    MetFree l (⟨"com/example/moat/moat/xpath/OperatorFlippedPinLaw", "pick", "(I)Lcom/example/moat/moat/xpath/Operation$Operator;"⟩ : MethodName) (head1 (Jvm.Cond.code (⟨"com/example/moat/moat/xpath/OperatorFlippedPinLaw", "pick", "(I)Lcom/example/moat/moat/xpath/Operation$Operator;"⟩ : MethodName) method_3_code 1 (some (.object "com/example/moat/moat/xpath/Operation$Operator")) :: ws) ({ frames := 0, cells := 0, slots := 0, locals := 0 } : Room)) (fun aA UA => aA = #[(.int (1 : Int32))] ∧ Z.Warmed39 UA.vm ∧ UA.heap = h0) (fun _ _ _ _ _ => True) (fun _ UA oA UB => ∃ rV LE, oA = .returned rV ∧ QrmP1 Z u_AND h0 n0 rV UB.heap LE ∧ FrameEnd UA oA UB LE ({ frames := 0, cells := 0, slots := 0, locals := 0 } : Room).cells ({ frames := 0, cells := 0, slots := 0, locals := 0 } : Room).slots) := by
  refine MetFree.of_bodySF (plainFor_of_name pn_0) hisR ?_
  intro p e s m args below meth c s₁ Bd hml0 hP hK
  obtain ⟨rfl, hZ, hh⟩ := hP
  have hx := Bd.exec
  have hby := Bd.bytes
  have hml : c.maxLocals = 1 := hml0
  have hown : s.vm.findClass "com/example/moat/moat/xpath/OperatorFlippedPinLaw" = some m.cls := findClass_of_methodNamed Bd.named
  have hnm := (name_of_methodNamed Bd.named Bd.method).1
  have hlk := Bd.notSynchronized
  have X0 : Stand p l e ({ frames := 0, cells := 0, slots := 0, locals := 0 } : Room) s m #[(.int (1 : Int32))] below meth c s₁ [] 0 0 := Stand.of_body Bd
  have e0 : s₁.heap = h0 := by rw [← hh, Bd.state]; rfl
  have N0 := Fr.nil n0
  show Go p e below s (QrmP1 Z u_AND h0 n0) ({ frames := 0, cells := 0, slots := 0, locals := 0 } : Room).cells ({ frames := 0, cells := 0, slots := 0, locals := 0 } : Room).slots s₁ (entryFrame m #[(.int (1 : Int32))] 1)
  refine Go.eq (ef_rmP1 m ) ?_
  show Go p e below s _ _ _ s₁ (mkF m 0 #[.val (.int (1 : Int32))] [])
  refine Go.st (fun _ => XS.iloadN X0.here hx rfl (hb hby d1_0) rfl) ?_
  show Go p e below s _ _ _ s₁ (mkF m 1 #[.val (.int (1 : Int32))] [(.int (1 : Int32))])
  refine Go.st (fun _ => XS.ifYes X0.here hx rfl (pc0 := 1) (pc' := 8) rfl (hb hby d1_1) rfl ((if0 _ _).trans (feq (by decide : ¬ ((1 : Int32) = (0 : Int32)))).2) (by decide) (by decide)) ?_
  show Go p e below s _ _ _ s₁ (mkF m 8 #[.val (.int (1 : Int32))] [])
  refine Go.st (fun _ => XS.iloadN X0.here hx rfl (hb hby d1_8) rfl) ?_
  show Go p e below s _ _ _ s₁ (mkF m 9 #[.val (.int (1 : Int32))] [(.int (1 : Int32))])
  refine Go.st (fun _ => XS.iconst X0.here hx rfl (hb hby d1_9)) ?_
  show Go p e below s _ _ _ s₁ (mkF m 10 #[.val (.int (1 : Int32))] [(.int (1 : Int32)), (.int (1 : Int32))])
  refine Go.st (fun _ => XS.icmpNo X0.here hx rfl (hb hby d1_10) rfl (teq (by decide : (1 : Int32) = (1 : Int32))).2) ?_
  show Go p e below s _ _ _ s₁ (mkF m 13 #[.val (.int (1 : Int32))] [])
  obtain ⟨T1, X1, e1, st1⟩ := getS2 X0 hx hZ hown (host := "") (Or.inl (hw _ (List.mem_of_getElem? (i := 25) rfl))) Via.refl e0 S_AND (g := (mkF m 13 #[.val (.int (1 : Int32))] [])) rfl (hb hby d1_13)
  refine Go.st st1 ?_
  show Go p e below s _ _ _ T1 (mkF m 16 #[.val (.int (1 : Int32))] [(.ref u_AND)])
  exact Go.retA X1 hx hlk Bd.returns rfl rfl (hb hby d1_16) (by rw [e1]; exact ⟨rfl, N0, rfl⟩) (by decide) (by decide)
theorem d3_9 : decode method_4_code 9 = .ok (.aload_n 0, 1) := by decide +kernel
theorem d3_10 : decode method_4_code 10 = .ok (.getstatic 32, 3) := by decide +kernel
theorem d3_13 : decode method_4_code 13 = .ok (.if_acmp .ne 5, 3) := by decide +kernel
theorem d3_16 : decode method_4_code 16 = .ok (.iconst 1, 1) := by decide +kernel
theorem d3_17 : decode method_4_code 17 = .ok (.ireturn, 1) := by decide +kernel
theorem ef_rmX1 (m : MethodId) (u_AND : Addr) : entryFrame m #[(.ref u_AND)] 1 = mkF m 0 #[.val (.ref u_AND)] [] := by first | (simp [entryFrame, mkF, argsToLocals, Value.category]; done) | rfl
def QrmX1 (Z : State) (u_AND : Addr) (u_OR : Addr) (h0 : Heap) (n0 : Nat) (rV : Option Value) (hE : Heap) (LE : List Loc) : Prop := rV = some (.int (1 : Int32)) ∧ Fr n0 LE ∧ hE = h0
set_option maxRecDepth 65536 in
set_option maxHeartbeats 40000000 in
theorem rmX1 (l : Launch) (Z : State) (a0 : Array Value) (hw : ∀ d ∈ tables_1, d.before a0 Z = true) (ws : List Jvm.Cond) (u_AND : Addr) (u_OR : Addr) (h0 : Heap) (n0 : Nat) (Z0 : n0 ≤ h0.size) (S_OR : Sta Z h0 "com/example/moat/moat/xpath/Operation$Operator" "OR" "Lcom/example/moat/moat/xpath/Operation$Operator;" (.ref u_OR)) (S_AND : Sta Z h0 "com/example/moat/moat/xpath/Operation$Operator" "AND" "Lcom/example/moat/moat/xpath/Operation$Operator;" (.ref u_AND)) (ne_u_OR_u_AND : u_OR ≠ u_AND) :
    MetFree l (⟨"com/example/moat/moat/xpath/OperatorFlippedPinLaw", "index", "(Lcom/example/moat/moat/xpath/Operation$Operator;)I"⟩ : MethodName) (head1 (Jvm.Cond.code (⟨"com/example/moat/moat/xpath/OperatorFlippedPinLaw", "index", "(Lcom/example/moat/moat/xpath/Operation$Operator;)I"⟩ : MethodName) method_4_code 1 (some .int) :: ws) ({ frames := 0, cells := 0, slots := 0, locals := 0 } : Room)) (fun aA UA => aA = #[(.ref u_AND)] ∧ Z.Warmed39 UA.vm ∧ UA.heap = h0) (fun _ _ _ _ _ => True) (fun _ UA oA UB => ∃ rV LE, oA = .returned rV ∧ QrmX1 Z u_AND u_OR h0 n0 rV UB.heap LE ∧ FrameEnd UA oA UB LE ({ frames := 0, cells := 0, slots := 0, locals := 0 } : Room).cells ({ frames := 0, cells := 0, slots := 0, locals := 0 } : Room).slots) := by
  refine MetFree.of_bodySF (plainFor_of_name pn_0) hisR ?_
  intro p e s m args below meth c s₁ Bd hml0 hP hK
  obtain ⟨rfl, hZ, hh⟩ := hP
  have hx := Bd.exec
  have hby := Bd.bytes
  have hml : c.maxLocals = 1 := hml0
  have hown : s.vm.findClass "com/example/moat/moat/xpath/OperatorFlippedPinLaw" = some m.cls := findClass_of_methodNamed Bd.named
  have hnm := (name_of_methodNamed Bd.named Bd.method).1
  have hlk := Bd.notSynchronized
  have X0 : Stand p l e ({ frames := 0, cells := 0, slots := 0, locals := 0 } : Room) s m #[(.ref u_AND)] below meth c s₁ [] 0 0 := Stand.of_body Bd
  have e0 : s₁.heap = h0 := by rw [← hh, Bd.state]; rfl
  have N0 := Fr.nil n0
  show Go p e below s (QrmX1 Z u_AND u_OR h0 n0) ({ frames := 0, cells := 0, slots := 0, locals := 0 } : Room).cells ({ frames := 0, cells := 0, slots := 0, locals := 0 } : Room).slots s₁ (entryFrame m #[(.ref u_AND)] 1)
  refine Go.eq (ef_rmX1 m u_AND) ?_
  show Go p e below s _ _ _ s₁ (mkF m 0 #[.val (.ref u_AND)] [])
  refine Go.st (fun _ => XS.aloadN X0.here hx rfl (hb hby d3_0) rfl rfl) ?_
  show Go p e below s _ _ _ s₁ (mkF m 1 #[.val (.ref u_AND)] [(.ref u_AND)])
  obtain ⟨T1, X1, e1, st1⟩ := getS2 X0 hx hZ hown (host := "") (Or.inl (hw _ (List.mem_of_getElem? (i := 5) rfl))) Via.refl e0 S_OR (g := (mkF m 1 #[.val (.ref u_AND)] [(.ref u_AND)])) rfl (hb hby d3_1)
  refine Go.st st1 ?_
  show Go p e below s _ _ _ T1 (mkF m 4 #[.val (.ref u_AND)] [(.ref u_OR), (.ref u_AND)])
  refine Go.st (fun _ => Jvm.RoadKit.acmp (g := (mkF m 4 #[.val (.ref u_AND)] [(.ref u_OR), (.ref u_AND)])) X1 hx rfl rfl rfl (pc0 := 4) (pc' := 9) (same := false) rfl (hb hby d3_4) rfl (decide_eq_false fun q => (Ne.symm ne_u_OR_u_AND) (Value.ref.inj q)) (by decide) (by decide)) ?_
  show Go p e below s _ _ _ T1 (mkF m 9 #[.val (.ref u_AND)] [])
  refine Go.st (fun _ => XS.aloadN X1.here hx rfl (hb hby d3_9) rfl rfl) ?_
  show Go p e below s _ _ _ T1 (mkF m 10 #[.val (.ref u_AND)] [(.ref u_AND)])
  obtain ⟨T2, X2, e2, st2⟩ := getS2 X1 hx hZ hown (host := "") (Or.inl (hw _ (List.mem_of_getElem? (i := 25) rfl))) Via.refl e1 S_AND (g := (mkF m 10 #[.val (.ref u_AND)] [(.ref u_AND)])) rfl (hb hby d3_10)
  refine Go.st st2 ?_
  show Go p e below s _ _ _ T2 (mkF m 13 #[.val (.ref u_AND)] [(.ref u_AND), (.ref u_AND)])
  refine Go.st (fun _ => Jvm.RoadKit.acmp (g := (mkF m 13 #[.val (.ref u_AND)] [(.ref u_AND), (.ref u_AND)])) X2 hx rfl rfl rfl (pc0 := 13) (pc' := 16) (same := true) rfl (hb hby d3_13) rfl (decide_eq_true rfl) (by decide) (by decide)) ?_
  show Go p e below s _ _ _ T2 (mkF m 16 #[.val (.ref u_AND)] [])
  refine Go.st (fun _ => XS.iconst X2.here hx rfl (hb hby d3_16)) ?_
  show Go p e below s _ _ _ T2 (mkF m 17 #[.val (.ref u_AND)] [(.int (1 : Int32))])
  exact Go.retI X2 hx hlk Bd.returns (hb hby d3_17) (by rw [e2]; exact ⟨rfl, N0, rfl⟩) (by decide) (by decide)
theorem d1_17 : decode method_3_code 17 = .ok (.iload_n 0, 1) := by decide +kernel
theorem d1_18 : decode method_3_code 18 = .ok (.iconst 2, 1) := by decide +kernel
theorem d1_19 : decode method_3_code 19 = .ok (.if_icmp .ne 7, 3) := by decide +kernel
theorem d1_22 : decode method_3_code 22 = .ok (.getstatic 35, 3) := by decide +kernel
theorem d1_25 : decode method_3_code 25 = .ok (.areturn, 1) := by decide +kernel
theorem ef_rmP2 (m : MethodId)  : entryFrame m #[(.int (2 : Int32))] 1 = mkF m 0 #[.val (.int (2 : Int32))] [] := by first | (simp [entryFrame, mkF, argsToLocals, Value.category]; done) | rfl
def QrmP2 (Z : State) (u_EQUAL : Addr) (h0 : Heap) (n0 : Nat) (rV : Option Value) (hE : Heap) (LE : List Loc) : Prop := rV = some (.ref u_EQUAL) ∧ Fr n0 LE ∧ hE = h0
set_option maxRecDepth 65536 in
set_option maxHeartbeats 40000000 in
theorem rmP2 (l : Launch) (Z : State) (a0 : Array Value) (hw : ∀ d ∈ tables_1, d.before a0 Z = true) (ws : List Jvm.Cond) (u_EQUAL : Addr) (h0 : Heap) (n0 : Nat) (Z0 : n0 ≤ h0.size) (S_EQUAL : Sta Z h0 "com/example/moat/moat/xpath/Operation$Operator" "EQUAL" "Lcom/example/moat/moat/xpath/Operation$Operator;" (.ref u_EQUAL)) :
    MetFree l (⟨"com/example/moat/moat/xpath/OperatorFlippedPinLaw", "pick", "(I)Lcom/example/moat/moat/xpath/Operation$Operator;"⟩ : MethodName) (head1 (Jvm.Cond.code (⟨"com/example/moat/moat/xpath/OperatorFlippedPinLaw", "pick", "(I)Lcom/example/moat/moat/xpath/Operation$Operator;"⟩ : MethodName) method_3_code 1 (some (.object "com/example/moat/moat/xpath/Operation$Operator")) :: ws) ({ frames := 0, cells := 0, slots := 0, locals := 0 } : Room)) (fun aA UA => aA = #[(.int (2 : Int32))] ∧ Z.Warmed39 UA.vm ∧ UA.heap = h0) (fun _ _ _ _ _ => True) (fun _ UA oA UB => ∃ rV LE, oA = .returned rV ∧ QrmP2 Z u_EQUAL h0 n0 rV UB.heap LE ∧ FrameEnd UA oA UB LE ({ frames := 0, cells := 0, slots := 0, locals := 0 } : Room).cells ({ frames := 0, cells := 0, slots := 0, locals := 0 } : Room).slots) := by
  refine MetFree.of_bodySF (plainFor_of_name pn_0) hisR ?_
  intro p e s m args below meth c s₁ Bd hml0 hP hK
  obtain ⟨rfl, hZ, hh⟩ := hP
  have hx := Bd.exec
  have hby := Bd.bytes
  have hml : c.maxLocals = 1 := hml0
  have hown : s.vm.findClass "com/example/moat/moat/xpath/OperatorFlippedPinLaw" = some m.cls := findClass_of_methodNamed Bd.named
  have hnm := (name_of_methodNamed Bd.named Bd.method).1
  have hlk := Bd.notSynchronized
  have X0 : Stand p l e ({ frames := 0, cells := 0, slots := 0, locals := 0 } : Room) s m #[(.int (2 : Int32))] below meth c s₁ [] 0 0 := Stand.of_body Bd
  have e0 : s₁.heap = h0 := by rw [← hh, Bd.state]; rfl
  have N0 := Fr.nil n0
  show Go p e below s (QrmP2 Z u_EQUAL h0 n0) ({ frames := 0, cells := 0, slots := 0, locals := 0 } : Room).cells ({ frames := 0, cells := 0, slots := 0, locals := 0 } : Room).slots s₁ (entryFrame m #[(.int (2 : Int32))] 1)
  refine Go.eq (ef_rmP2 m ) ?_
  show Go p e below s _ _ _ s₁ (mkF m 0 #[.val (.int (2 : Int32))] [])
  refine Go.st (fun _ => XS.iloadN X0.here hx rfl (hb hby d1_0) rfl) ?_
  show Go p e below s _ _ _ s₁ (mkF m 1 #[.val (.int (2 : Int32))] [(.int (2 : Int32))])
  refine Go.st (fun _ => XS.ifYes X0.here hx rfl (pc0 := 1) (pc' := 8) rfl (hb hby d1_1) rfl ((if0 _ _).trans (feq (by decide : ¬ ((2 : Int32) = (0 : Int32)))).2) (by decide) (by decide)) ?_
  show Go p e below s _ _ _ s₁ (mkF m 8 #[.val (.int (2 : Int32))] [])
  refine Go.st (fun _ => XS.iloadN X0.here hx rfl (hb hby d1_8) rfl) ?_
  show Go p e below s _ _ _ s₁ (mkF m 9 #[.val (.int (2 : Int32))] [(.int (2 : Int32))])
  refine Go.st (fun _ => XS.iconst X0.here hx rfl (hb hby d1_9)) ?_
  show Go p e below s _ _ _ s₁ (mkF m 10 #[.val (.int (2 : Int32))] [(.int (1 : Int32)), (.int (2 : Int32))])
  refine Go.st (fun _ => XS.icmpYes X0.here hx rfl (pc0 := 10) (pc' := 17) rfl (hb hby d1_10) rfl (feq (by decide : ¬ ((2 : Int32) = (1 : Int32)))).2 (by decide) (by decide)) ?_
  show Go p e below s _ _ _ s₁ (mkF m 17 #[.val (.int (2 : Int32))] [])
  refine Go.st (fun _ => XS.iloadN X0.here hx rfl (hb hby d1_17) rfl) ?_
  show Go p e below s _ _ _ s₁ (mkF m 18 #[.val (.int (2 : Int32))] [(.int (2 : Int32))])
  refine Go.st (fun _ => XS.iconst X0.here hx rfl (hb hby d1_18)) ?_
  show Go p e below s _ _ _ s₁ (mkF m 19 #[.val (.int (2 : Int32))] [(.int (2 : Int32)), (.int (2 : Int32))])
  refine Go.st (fun _ => XS.icmpNo X0.here hx rfl (hb hby d1_19) rfl (teq (by decide : (2 : Int32) = (2 : Int32))).2) ?_
  show Go p e below s _ _ _ s₁ (mkF m 22 #[.val (.int (2 : Int32))] [])
  obtain ⟨T1, X1, e1, st1⟩ := getS2 X0 hx hZ hown (host := "") (Or.inl (hw _ (List.mem_of_getElem? (i := 27) rfl))) Via.refl e0 S_EQUAL (g := (mkF m 22 #[.val (.int (2 : Int32))] [])) rfl (hb hby d1_22)
  refine Go.st st1 ?_
  show Go p e below s _ _ _ T1 (mkF m 25 #[.val (.int (2 : Int32))] [(.ref u_EQUAL)])
  exact Go.retA X1 hx hlk Bd.returns rfl rfl (hb hby d1_25) (by rw [e1]; exact ⟨rfl, N0, rfl⟩) (by decide) (by decide)
theorem d3_18 : decode method_4_code 18 = .ok (.aload_n 0, 1) := by decide +kernel
theorem d3_19 : decode method_4_code 19 = .ok (.getstatic 35, 3) := by decide +kernel
theorem d3_22 : decode method_4_code 22 = .ok (.if_acmp .ne 5, 3) := by decide +kernel
theorem d3_25 : decode method_4_code 25 = .ok (.iconst 2, 1) := by decide +kernel
theorem d3_26 : decode method_4_code 26 = .ok (.ireturn, 1) := by decide +kernel
theorem ef_rmX2 (m : MethodId) (u_EQUAL : Addr) : entryFrame m #[(.ref u_EQUAL)] 1 = mkF m 0 #[.val (.ref u_EQUAL)] [] := by first | (simp [entryFrame, mkF, argsToLocals, Value.category]; done) | rfl
def QrmX2 (Z : State) (u_EQUAL : Addr) (u_OR : Addr) (u_AND : Addr) (h0 : Heap) (n0 : Nat) (rV : Option Value) (hE : Heap) (LE : List Loc) : Prop := rV = some (.int (2 : Int32)) ∧ Fr n0 LE ∧ hE = h0
set_option maxRecDepth 65536 in
set_option maxHeartbeats 40000000 in
theorem rmX2 (l : Launch) (Z : State) (a0 : Array Value) (hw : ∀ d ∈ tables_1, d.before a0 Z = true) (ws : List Jvm.Cond) (u_EQUAL : Addr) (u_OR : Addr) (u_AND : Addr) (h0 : Heap) (n0 : Nat) (Z0 : n0 ≤ h0.size) (S_OR : Sta Z h0 "com/example/moat/moat/xpath/Operation$Operator" "OR" "Lcom/example/moat/moat/xpath/Operation$Operator;" (.ref u_OR)) (S_AND : Sta Z h0 "com/example/moat/moat/xpath/Operation$Operator" "AND" "Lcom/example/moat/moat/xpath/Operation$Operator;" (.ref u_AND)) (S_EQUAL : Sta Z h0 "com/example/moat/moat/xpath/Operation$Operator" "EQUAL" "Lcom/example/moat/moat/xpath/Operation$Operator;" (.ref u_EQUAL)) (ne_u_OR_u_EQUAL : u_OR ≠ u_EQUAL) (ne_u_AND_u_EQUAL : u_AND ≠ u_EQUAL) :
    MetFree l (⟨"com/example/moat/moat/xpath/OperatorFlippedPinLaw", "index", "(Lcom/example/moat/moat/xpath/Operation$Operator;)I"⟩ : MethodName) (head1 (Jvm.Cond.code (⟨"com/example/moat/moat/xpath/OperatorFlippedPinLaw", "index", "(Lcom/example/moat/moat/xpath/Operation$Operator;)I"⟩ : MethodName) method_4_code 1 (some .int) :: ws) ({ frames := 0, cells := 0, slots := 0, locals := 0 } : Room)) (fun aA UA => aA = #[(.ref u_EQUAL)] ∧ Z.Warmed39 UA.vm ∧ UA.heap = h0) (fun _ _ _ _ _ => True) (fun _ UA oA UB => ∃ rV LE, oA = .returned rV ∧ QrmX2 Z u_EQUAL u_OR u_AND h0 n0 rV UB.heap LE ∧ FrameEnd UA oA UB LE ({ frames := 0, cells := 0, slots := 0, locals := 0 } : Room).cells ({ frames := 0, cells := 0, slots := 0, locals := 0 } : Room).slots) := by
  refine MetFree.of_bodySF (plainFor_of_name pn_0) hisR ?_
  intro p e s m args below meth c s₁ Bd hml0 hP hK
  obtain ⟨rfl, hZ, hh⟩ := hP
  have hx := Bd.exec
  have hby := Bd.bytes
  have hml : c.maxLocals = 1 := hml0
  have hown : s.vm.findClass "com/example/moat/moat/xpath/OperatorFlippedPinLaw" = some m.cls := findClass_of_methodNamed Bd.named
  have hnm := (name_of_methodNamed Bd.named Bd.method).1
  have hlk := Bd.notSynchronized
  have X0 : Stand p l e ({ frames := 0, cells := 0, slots := 0, locals := 0 } : Room) s m #[(.ref u_EQUAL)] below meth c s₁ [] 0 0 := Stand.of_body Bd
  have e0 : s₁.heap = h0 := by rw [← hh, Bd.state]; rfl
  have N0 := Fr.nil n0
  show Go p e below s (QrmX2 Z u_EQUAL u_OR u_AND h0 n0) ({ frames := 0, cells := 0, slots := 0, locals := 0 } : Room).cells ({ frames := 0, cells := 0, slots := 0, locals := 0 } : Room).slots s₁ (entryFrame m #[(.ref u_EQUAL)] 1)
  refine Go.eq (ef_rmX2 m u_EQUAL) ?_
  show Go p e below s _ _ _ s₁ (mkF m 0 #[.val (.ref u_EQUAL)] [])
  refine Go.st (fun _ => XS.aloadN X0.here hx rfl (hb hby d3_0) rfl rfl) ?_
  show Go p e below s _ _ _ s₁ (mkF m 1 #[.val (.ref u_EQUAL)] [(.ref u_EQUAL)])
  obtain ⟨T1, X1, e1, st1⟩ := getS2 X0 hx hZ hown (host := "") (Or.inl (hw _ (List.mem_of_getElem? (i := 5) rfl))) Via.refl e0 S_OR (g := (mkF m 1 #[.val (.ref u_EQUAL)] [(.ref u_EQUAL)])) rfl (hb hby d3_1)
  refine Go.st st1 ?_
  show Go p e below s _ _ _ T1 (mkF m 4 #[.val (.ref u_EQUAL)] [(.ref u_OR), (.ref u_EQUAL)])
  refine Go.st (fun _ => Jvm.RoadKit.acmp (g := (mkF m 4 #[.val (.ref u_EQUAL)] [(.ref u_OR), (.ref u_EQUAL)])) X1 hx rfl rfl rfl (pc0 := 4) (pc' := 9) (same := false) rfl (hb hby d3_4) rfl (decide_eq_false fun q => (Ne.symm ne_u_OR_u_EQUAL) (Value.ref.inj q)) (by decide) (by decide)) ?_
  show Go p e below s _ _ _ T1 (mkF m 9 #[.val (.ref u_EQUAL)] [])
  refine Go.st (fun _ => XS.aloadN X1.here hx rfl (hb hby d3_9) rfl rfl) ?_
  show Go p e below s _ _ _ T1 (mkF m 10 #[.val (.ref u_EQUAL)] [(.ref u_EQUAL)])
  obtain ⟨T2, X2, e2, st2⟩ := getS2 X1 hx hZ hown (host := "") (Or.inl (hw _ (List.mem_of_getElem? (i := 25) rfl))) Via.refl e1 S_AND (g := (mkF m 10 #[.val (.ref u_EQUAL)] [(.ref u_EQUAL)])) rfl (hb hby d3_10)
  refine Go.st st2 ?_
  show Go p e below s _ _ _ T2 (mkF m 13 #[.val (.ref u_EQUAL)] [(.ref u_AND), (.ref u_EQUAL)])
  refine Go.st (fun _ => Jvm.RoadKit.acmp (g := (mkF m 13 #[.val (.ref u_EQUAL)] [(.ref u_AND), (.ref u_EQUAL)])) X2 hx rfl rfl rfl (pc0 := 13) (pc' := 18) (same := false) rfl (hb hby d3_13) rfl (decide_eq_false fun q => (Ne.symm ne_u_AND_u_EQUAL) (Value.ref.inj q)) (by decide) (by decide)) ?_
  show Go p e below s _ _ _ T2 (mkF m 18 #[.val (.ref u_EQUAL)] [])
  refine Go.st (fun _ => XS.aloadN X2.here hx rfl (hb hby d3_18) rfl rfl) ?_
  show Go p e below s _ _ _ T2 (mkF m 19 #[.val (.ref u_EQUAL)] [(.ref u_EQUAL)])
  obtain ⟨T3, X3, e3, st3⟩ := getS2 X2 hx hZ hown (host := "") (Or.inl (hw _ (List.mem_of_getElem? (i := 27) rfl))) Via.refl e2 S_EQUAL (g := (mkF m 19 #[.val (.ref u_EQUAL)] [(.ref u_EQUAL)])) rfl (hb hby d3_19)
  refine Go.st st3 ?_
  show Go p e below s _ _ _ T3 (mkF m 22 #[.val (.ref u_EQUAL)] [(.ref u_EQUAL), (.ref u_EQUAL)])
  refine Go.st (fun _ => Jvm.RoadKit.acmp (g := (mkF m 22 #[.val (.ref u_EQUAL)] [(.ref u_EQUAL), (.ref u_EQUAL)])) X3 hx rfl rfl rfl (pc0 := 22) (pc' := 25) (same := true) rfl (hb hby d3_22) rfl (decide_eq_true rfl) (by decide) (by decide)) ?_
  show Go p e below s _ _ _ T3 (mkF m 25 #[.val (.ref u_EQUAL)] [])
  refine Go.st (fun _ => XS.iconst X3.here hx rfl (hb hby d3_25)) ?_
  show Go p e below s _ _ _ T3 (mkF m 26 #[.val (.ref u_EQUAL)] [(.int (2 : Int32))])
  exact Go.retI X3 hx hlk Bd.returns (hb hby d3_26) (by rw [e3]; exact ⟨rfl, N0, rfl⟩) (by decide) (by decide)
theorem d1_26 : decode method_3_code 26 = .ok (.iload_n 0, 1) := by decide +kernel
theorem d1_27 : decode method_3_code 27 = .ok (.iconst 3, 1) := by decide +kernel
theorem d1_28 : decode method_3_code 28 = .ok (.if_icmp .ne 7, 3) := by decide +kernel
theorem d1_31 : decode method_3_code 31 = .ok (.getstatic 38, 3) := by decide +kernel
theorem d1_34 : decode method_3_code 34 = .ok (.areturn, 1) := by decide +kernel
theorem ef_rmP3 (m : MethodId)  : entryFrame m #[(.int (3 : Int32))] 1 = mkF m 0 #[.val (.int (3 : Int32))] [] := by first | (simp [entryFrame, mkF, argsToLocals, Value.category]; done) | rfl
def QrmP3 (Z : State) (u_NOT_EQUAL : Addr) (h0 : Heap) (n0 : Nat) (rV : Option Value) (hE : Heap) (LE : List Loc) : Prop := rV = some (.ref u_NOT_EQUAL) ∧ Fr n0 LE ∧ hE = h0
set_option maxRecDepth 65536 in
set_option maxHeartbeats 40000000 in
theorem rmP3 (l : Launch) (Z : State) (a0 : Array Value) (hw : ∀ d ∈ tables_1, d.before a0 Z = true) (ws : List Jvm.Cond) (u_NOT_EQUAL : Addr) (h0 : Heap) (n0 : Nat) (Z0 : n0 ≤ h0.size) (S_NOT_EQUAL : Sta Z h0 "com/example/moat/moat/xpath/Operation$Operator" "NOT_EQUAL" "Lcom/example/moat/moat/xpath/Operation$Operator;" (.ref u_NOT_EQUAL)) :
    MetFree l (⟨"com/example/moat/moat/xpath/OperatorFlippedPinLaw", "pick", "(I)Lcom/example/moat/moat/xpath/Operation$Operator;"⟩ : MethodName) (head1 (Jvm.Cond.code (⟨"com/example/moat/moat/xpath/OperatorFlippedPinLaw", "pick", "(I)Lcom/example/moat/moat/xpath/Operation$Operator;"⟩ : MethodName) method_3_code 1 (some (.object "com/example/moat/moat/xpath/Operation$Operator")) :: ws) ({ frames := 0, cells := 0, slots := 0, locals := 0 } : Room)) (fun aA UA => aA = #[(.int (3 : Int32))] ∧ Z.Warmed39 UA.vm ∧ UA.heap = h0) (fun _ _ _ _ _ => True) (fun _ UA oA UB => ∃ rV LE, oA = .returned rV ∧ QrmP3 Z u_NOT_EQUAL h0 n0 rV UB.heap LE ∧ FrameEnd UA oA UB LE ({ frames := 0, cells := 0, slots := 0, locals := 0 } : Room).cells ({ frames := 0, cells := 0, slots := 0, locals := 0 } : Room).slots) := by
  refine MetFree.of_bodySF (plainFor_of_name pn_0) hisR ?_
  intro p e s m args below meth c s₁ Bd hml0 hP hK
  obtain ⟨rfl, hZ, hh⟩ := hP
  have hx := Bd.exec
  have hby := Bd.bytes
  have hml : c.maxLocals = 1 := hml0
  have hown : s.vm.findClass "com/example/moat/moat/xpath/OperatorFlippedPinLaw" = some m.cls := findClass_of_methodNamed Bd.named
  have hnm := (name_of_methodNamed Bd.named Bd.method).1
  have hlk := Bd.notSynchronized
  have X0 : Stand p l e ({ frames := 0, cells := 0, slots := 0, locals := 0 } : Room) s m #[(.int (3 : Int32))] below meth c s₁ [] 0 0 := Stand.of_body Bd
  have e0 : s₁.heap = h0 := by rw [← hh, Bd.state]; rfl
  have N0 := Fr.nil n0
  show Go p e below s (QrmP3 Z u_NOT_EQUAL h0 n0) ({ frames := 0, cells := 0, slots := 0, locals := 0 } : Room).cells ({ frames := 0, cells := 0, slots := 0, locals := 0 } : Room).slots s₁ (entryFrame m #[(.int (3 : Int32))] 1)
  refine Go.eq (ef_rmP3 m ) ?_
  show Go p e below s _ _ _ s₁ (mkF m 0 #[.val (.int (3 : Int32))] [])
  refine Go.st (fun _ => XS.iloadN X0.here hx rfl (hb hby d1_0) rfl) ?_
  show Go p e below s _ _ _ s₁ (mkF m 1 #[.val (.int (3 : Int32))] [(.int (3 : Int32))])
  refine Go.st (fun _ => XS.ifYes X0.here hx rfl (pc0 := 1) (pc' := 8) rfl (hb hby d1_1) rfl ((if0 _ _).trans (feq (by decide : ¬ ((3 : Int32) = (0 : Int32)))).2) (by decide) (by decide)) ?_
  show Go p e below s _ _ _ s₁ (mkF m 8 #[.val (.int (3 : Int32))] [])
  refine Go.st (fun _ => XS.iloadN X0.here hx rfl (hb hby d1_8) rfl) ?_
  show Go p e below s _ _ _ s₁ (mkF m 9 #[.val (.int (3 : Int32))] [(.int (3 : Int32))])
  refine Go.st (fun _ => XS.iconst X0.here hx rfl (hb hby d1_9)) ?_
  show Go p e below s _ _ _ s₁ (mkF m 10 #[.val (.int (3 : Int32))] [(.int (1 : Int32)), (.int (3 : Int32))])
  refine Go.st (fun _ => XS.icmpYes X0.here hx rfl (pc0 := 10) (pc' := 17) rfl (hb hby d1_10) rfl (feq (by decide : ¬ ((3 : Int32) = (1 : Int32)))).2 (by decide) (by decide)) ?_
  show Go p e below s _ _ _ s₁ (mkF m 17 #[.val (.int (3 : Int32))] [])
  refine Go.st (fun _ => XS.iloadN X0.here hx rfl (hb hby d1_17) rfl) ?_
  show Go p e below s _ _ _ s₁ (mkF m 18 #[.val (.int (3 : Int32))] [(.int (3 : Int32))])
  refine Go.st (fun _ => XS.iconst X0.here hx rfl (hb hby d1_18)) ?_
  show Go p e below s _ _ _ s₁ (mkF m 19 #[.val (.int (3 : Int32))] [(.int (2 : Int32)), (.int (3 : Int32))])
  refine Go.st (fun _ => XS.icmpYes X0.here hx rfl (pc0 := 19) (pc' := 26) rfl (hb hby d1_19) rfl (feq (by decide : ¬ ((3 : Int32) = (2 : Int32)))).2 (by decide) (by decide)) ?_
  show Go p e below s _ _ _ s₁ (mkF m 26 #[.val (.int (3 : Int32))] [])
  refine Go.st (fun _ => XS.iloadN X0.here hx rfl (hb hby d1_26) rfl) ?_
  show Go p e below s _ _ _ s₁ (mkF m 27 #[.val (.int (3 : Int32))] [(.int (3 : Int32))])
  refine Go.st (fun _ => XS.iconst X0.here hx rfl (hb hby d1_27)) ?_
  show Go p e below s _ _ _ s₁ (mkF m 28 #[.val (.int (3 : Int32))] [(.int (3 : Int32)), (.int (3 : Int32))])
  refine Go.st (fun _ => XS.icmpNo X0.here hx rfl (hb hby d1_28) rfl (teq (by decide : (3 : Int32) = (3 : Int32))).2) ?_
  show Go p e below s _ _ _ s₁ (mkF m 31 #[.val (.int (3 : Int32))] [])
  obtain ⟨T1, X1, e1, st1⟩ := getS2 X0 hx hZ hown (host := "") (Or.inl (hw _ (List.mem_of_getElem? (i := 29) rfl))) Via.refl e0 S_NOT_EQUAL (g := (mkF m 31 #[.val (.int (3 : Int32))] [])) rfl (hb hby d1_31)
  refine Go.st st1 ?_
  show Go p e below s _ _ _ T1 (mkF m 34 #[.val (.int (3 : Int32))] [(.ref u_NOT_EQUAL)])
  exact Go.retA X1 hx hlk Bd.returns rfl rfl (hb hby d1_34) (by rw [e1]; exact ⟨rfl, N0, rfl⟩) (by decide) (by decide)
theorem d3_27 : decode method_4_code 27 = .ok (.aload_n 0, 1) := by decide +kernel
theorem d3_28 : decode method_4_code 28 = .ok (.getstatic 38, 3) := by decide +kernel
theorem d3_31 : decode method_4_code 31 = .ok (.if_acmp .ne 5, 3) := by decide +kernel
theorem d3_34 : decode method_4_code 34 = .ok (.iconst 3, 1) := by decide +kernel
theorem d3_35 : decode method_4_code 35 = .ok (.ireturn, 1) := by decide +kernel
theorem ef_rmX3 (m : MethodId) (u_NOT_EQUAL : Addr) : entryFrame m #[(.ref u_NOT_EQUAL)] 1 = mkF m 0 #[.val (.ref u_NOT_EQUAL)] [] := by first | (simp [entryFrame, mkF, argsToLocals, Value.category]; done) | rfl
def QrmX3 (Z : State) (u_NOT_EQUAL : Addr) (u_OR : Addr) (u_AND : Addr) (u_EQUAL : Addr) (h0 : Heap) (n0 : Nat) (rV : Option Value) (hE : Heap) (LE : List Loc) : Prop := rV = some (.int (3 : Int32)) ∧ Fr n0 LE ∧ hE = h0
set_option maxRecDepth 65536 in
set_option maxHeartbeats 40000000 in
theorem rmX3 (l : Launch) (Z : State) (a0 : Array Value) (hw : ∀ d ∈ tables_1, d.before a0 Z = true) (ws : List Jvm.Cond) (u_NOT_EQUAL : Addr) (u_OR : Addr) (u_AND : Addr) (u_EQUAL : Addr) (h0 : Heap) (n0 : Nat) (Z0 : n0 ≤ h0.size) (S_OR : Sta Z h0 "com/example/moat/moat/xpath/Operation$Operator" "OR" "Lcom/example/moat/moat/xpath/Operation$Operator;" (.ref u_OR)) (S_AND : Sta Z h0 "com/example/moat/moat/xpath/Operation$Operator" "AND" "Lcom/example/moat/moat/xpath/Operation$Operator;" (.ref u_AND)) (S_EQUAL : Sta Z h0 "com/example/moat/moat/xpath/Operation$Operator" "EQUAL" "Lcom/example/moat/moat/xpath/Operation$Operator;" (.ref u_EQUAL)) (S_NOT_EQUAL : Sta Z h0 "com/example/moat/moat/xpath/Operation$Operator" "NOT_EQUAL" "Lcom/example/moat/moat/xpath/Operation$Operator;" (.ref u_NOT_EQUAL)) (ne_u_OR_u_NOT_EQUAL : u_OR ≠ u_NOT_EQUAL) (ne_u_AND_u_NOT_EQUAL : u_AND ≠ u_NOT_EQUAL) (ne_u_EQUAL_u_NOT_EQUAL : u_EQUAL ≠ u_NOT_EQUAL) :
    MetFree l (⟨"com/example/moat/moat/xpath/OperatorFlippedPinLaw", "index", "(Lcom/example/moat/moat/xpath/Operation$Operator;)I"⟩ : MethodName) (head1 (Jvm.Cond.code (⟨"com/example/moat/moat/xpath/OperatorFlippedPinLaw", "index", "(Lcom/example/moat/moat/xpath/Operation$Operator;)I"⟩ : MethodName) method_4_code 1 (some .int) :: ws) ({ frames := 0, cells := 0, slots := 0, locals := 0 } : Room)) (fun aA UA => aA = #[(.ref u_NOT_EQUAL)] ∧ Z.Warmed39 UA.vm ∧ UA.heap = h0) (fun _ _ _ _ _ => True) (fun _ UA oA UB => ∃ rV LE, oA = .returned rV ∧ QrmX3 Z u_NOT_EQUAL u_OR u_AND u_EQUAL h0 n0 rV UB.heap LE ∧ FrameEnd UA oA UB LE ({ frames := 0, cells := 0, slots := 0, locals := 0 } : Room).cells ({ frames := 0, cells := 0, slots := 0, locals := 0 } : Room).slots) := by
  refine MetFree.of_bodySF (plainFor_of_name pn_0) hisR ?_
  intro p e s m args below meth c s₁ Bd hml0 hP hK
  obtain ⟨rfl, hZ, hh⟩ := hP
  have hx := Bd.exec
  have hby := Bd.bytes
  have hml : c.maxLocals = 1 := hml0
  have hown : s.vm.findClass "com/example/moat/moat/xpath/OperatorFlippedPinLaw" = some m.cls := findClass_of_methodNamed Bd.named
  have hnm := (name_of_methodNamed Bd.named Bd.method).1
  have hlk := Bd.notSynchronized
  have X0 : Stand p l e ({ frames := 0, cells := 0, slots := 0, locals := 0 } : Room) s m #[(.ref u_NOT_EQUAL)] below meth c s₁ [] 0 0 := Stand.of_body Bd
  have e0 : s₁.heap = h0 := by rw [← hh, Bd.state]; rfl
  have N0 := Fr.nil n0
  show Go p e below s (QrmX3 Z u_NOT_EQUAL u_OR u_AND u_EQUAL h0 n0) ({ frames := 0, cells := 0, slots := 0, locals := 0 } : Room).cells ({ frames := 0, cells := 0, slots := 0, locals := 0 } : Room).slots s₁ (entryFrame m #[(.ref u_NOT_EQUAL)] 1)
  refine Go.eq (ef_rmX3 m u_NOT_EQUAL) ?_
  show Go p e below s _ _ _ s₁ (mkF m 0 #[.val (.ref u_NOT_EQUAL)] [])
  refine Go.st (fun _ => XS.aloadN X0.here hx rfl (hb hby d3_0) rfl rfl) ?_
  show Go p e below s _ _ _ s₁ (mkF m 1 #[.val (.ref u_NOT_EQUAL)] [(.ref u_NOT_EQUAL)])
  obtain ⟨T1, X1, e1, st1⟩ := getS2 X0 hx hZ hown (host := "") (Or.inl (hw _ (List.mem_of_getElem? (i := 5) rfl))) Via.refl e0 S_OR (g := (mkF m 1 #[.val (.ref u_NOT_EQUAL)] [(.ref u_NOT_EQUAL)])) rfl (hb hby d3_1)
  refine Go.st st1 ?_
  show Go p e below s _ _ _ T1 (mkF m 4 #[.val (.ref u_NOT_EQUAL)] [(.ref u_OR), (.ref u_NOT_EQUAL)])
  refine Go.st (fun _ => Jvm.RoadKit.acmp (g := (mkF m 4 #[.val (.ref u_NOT_EQUAL)] [(.ref u_OR), (.ref u_NOT_EQUAL)])) X1 hx rfl rfl rfl (pc0 := 4) (pc' := 9) (same := false) rfl (hb hby d3_4) rfl (decide_eq_false fun q => (Ne.symm ne_u_OR_u_NOT_EQUAL) (Value.ref.inj q)) (by decide) (by decide)) ?_
  show Go p e below s _ _ _ T1 (mkF m 9 #[.val (.ref u_NOT_EQUAL)] [])
  refine Go.st (fun _ => XS.aloadN X1.here hx rfl (hb hby d3_9) rfl rfl) ?_
  show Go p e below s _ _ _ T1 (mkF m 10 #[.val (.ref u_NOT_EQUAL)] [(.ref u_NOT_EQUAL)])
  obtain ⟨T2, X2, e2, st2⟩ := getS2 X1 hx hZ hown (host := "") (Or.inl (hw _ (List.mem_of_getElem? (i := 25) rfl))) Via.refl e1 S_AND (g := (mkF m 10 #[.val (.ref u_NOT_EQUAL)] [(.ref u_NOT_EQUAL)])) rfl (hb hby d3_10)
  refine Go.st st2 ?_
  show Go p e below s _ _ _ T2 (mkF m 13 #[.val (.ref u_NOT_EQUAL)] [(.ref u_AND), (.ref u_NOT_EQUAL)])
  refine Go.st (fun _ => Jvm.RoadKit.acmp (g := (mkF m 13 #[.val (.ref u_NOT_EQUAL)] [(.ref u_AND), (.ref u_NOT_EQUAL)])) X2 hx rfl rfl rfl (pc0 := 13) (pc' := 18) (same := false) rfl (hb hby d3_13) rfl (decide_eq_false fun q => (Ne.symm ne_u_AND_u_NOT_EQUAL) (Value.ref.inj q)) (by decide) (by decide)) ?_
  show Go p e below s _ _ _ T2 (mkF m 18 #[.val (.ref u_NOT_EQUAL)] [])
  refine Go.st (fun _ => XS.aloadN X2.here hx rfl (hb hby d3_18) rfl rfl) ?_
  show Go p e below s _ _ _ T2 (mkF m 19 #[.val (.ref u_NOT_EQUAL)] [(.ref u_NOT_EQUAL)])
  obtain ⟨T3, X3, e3, st3⟩ := getS2 X2 hx hZ hown (host := "") (Or.inl (hw _ (List.mem_of_getElem? (i := 27) rfl))) Via.refl e2 S_EQUAL (g := (mkF m 19 #[.val (.ref u_NOT_EQUAL)] [(.ref u_NOT_EQUAL)])) rfl (hb hby d3_19)
  refine Go.st st3 ?_
  show Go p e below s _ _ _ T3 (mkF m 22 #[.val (.ref u_NOT_EQUAL)] [(.ref u_EQUAL), (.ref u_NOT_EQUAL)])
  refine Go.st (fun _ => Jvm.RoadKit.acmp (g := (mkF m 22 #[.val (.ref u_NOT_EQUAL)] [(.ref u_EQUAL), (.ref u_NOT_EQUAL)])) X3 hx rfl rfl rfl (pc0 := 22) (pc' := 27) (same := false) rfl (hb hby d3_22) rfl (decide_eq_false fun q => (Ne.symm ne_u_EQUAL_u_NOT_EQUAL) (Value.ref.inj q)) (by decide) (by decide)) ?_
  show Go p e below s _ _ _ T3 (mkF m 27 #[.val (.ref u_NOT_EQUAL)] [])
  refine Go.st (fun _ => XS.aloadN X3.here hx rfl (hb hby d3_27) rfl rfl) ?_
  show Go p e below s _ _ _ T3 (mkF m 28 #[.val (.ref u_NOT_EQUAL)] [(.ref u_NOT_EQUAL)])
  obtain ⟨T4, X4, e4, st4⟩ := getS2 X3 hx hZ hown (host := "") (Or.inl (hw _ (List.mem_of_getElem? (i := 29) rfl))) Via.refl e3 S_NOT_EQUAL (g := (mkF m 28 #[.val (.ref u_NOT_EQUAL)] [(.ref u_NOT_EQUAL)])) rfl (hb hby d3_28)
  refine Go.st st4 ?_
  show Go p e below s _ _ _ T4 (mkF m 31 #[.val (.ref u_NOT_EQUAL)] [(.ref u_NOT_EQUAL), (.ref u_NOT_EQUAL)])
  refine Go.st (fun _ => Jvm.RoadKit.acmp (g := (mkF m 31 #[.val (.ref u_NOT_EQUAL)] [(.ref u_NOT_EQUAL), (.ref u_NOT_EQUAL)])) X4 hx rfl rfl rfl (pc0 := 31) (pc' := 34) (same := true) rfl (hb hby d3_31) rfl (decide_eq_true rfl) (by decide) (by decide)) ?_
  show Go p e below s _ _ _ T4 (mkF m 34 #[.val (.ref u_NOT_EQUAL)] [])
  refine Go.st (fun _ => XS.iconst X4.here hx rfl (hb hby d3_34)) ?_
  show Go p e below s _ _ _ T4 (mkF m 35 #[.val (.ref u_NOT_EQUAL)] [(.int (3 : Int32))])
  exact Go.retI X4 hx hlk Bd.returns (hb hby d3_35) (by rw [e4]; exact ⟨rfl, N0, rfl⟩) (by decide) (by decide)
theorem d1_35 : decode method_3_code 35 = .ok (.iload_n 0, 1) := by decide +kernel
theorem d1_36 : decode method_3_code 36 = .ok (.iconst 4, 1) := by decide +kernel
theorem d1_37 : decode method_3_code 37 = .ok (.if_icmp .ne 7, 3) := by decide +kernel
theorem d1_40 : decode method_3_code 40 = .ok (.getstatic 41, 3) := by decide +kernel
theorem d1_43 : decode method_3_code 43 = .ok (.areturn, 1) := by decide +kernel
theorem ef_rmP4 (m : MethodId)  : entryFrame m #[(.int (4 : Int32))] 1 = mkF m 0 #[.val (.int (4 : Int32))] [] := by first | (simp [entryFrame, mkF, argsToLocals, Value.category]; done) | rfl
def QrmP4 (Z : State) (u_LESS : Addr) (h0 : Heap) (n0 : Nat) (rV : Option Value) (hE : Heap) (LE : List Loc) : Prop := rV = some (.ref u_LESS) ∧ Fr n0 LE ∧ hE = h0
set_option maxRecDepth 65536 in
set_option maxHeartbeats 40000000 in
theorem rmP4 (l : Launch) (Z : State) (a0 : Array Value) (hw : ∀ d ∈ tables_1, d.before a0 Z = true) (ws : List Jvm.Cond) (u_LESS : Addr) (h0 : Heap) (n0 : Nat) (Z0 : n0 ≤ h0.size) (S_LESS : Sta Z h0 "com/example/moat/moat/xpath/Operation$Operator" "LESS" "Lcom/example/moat/moat/xpath/Operation$Operator;" (.ref u_LESS)) :
    MetFree l (⟨"com/example/moat/moat/xpath/OperatorFlippedPinLaw", "pick", "(I)Lcom/example/moat/moat/xpath/Operation$Operator;"⟩ : MethodName) (head1 (Jvm.Cond.code (⟨"com/example/moat/moat/xpath/OperatorFlippedPinLaw", "pick", "(I)Lcom/example/moat/moat/xpath/Operation$Operator;"⟩ : MethodName) method_3_code 1 (some (.object "com/example/moat/moat/xpath/Operation$Operator")) :: ws) ({ frames := 0, cells := 0, slots := 0, locals := 0 } : Room)) (fun aA UA => aA = #[(.int (4 : Int32))] ∧ Z.Warmed39 UA.vm ∧ UA.heap = h0) (fun _ _ _ _ _ => True) (fun _ UA oA UB => ∃ rV LE, oA = .returned rV ∧ QrmP4 Z u_LESS h0 n0 rV UB.heap LE ∧ FrameEnd UA oA UB LE ({ frames := 0, cells := 0, slots := 0, locals := 0 } : Room).cells ({ frames := 0, cells := 0, slots := 0, locals := 0 } : Room).slots) := by
  refine MetFree.of_bodySF (plainFor_of_name pn_0) hisR ?_
  intro p e s m args below meth c s₁ Bd hml0 hP hK
  obtain ⟨rfl, hZ, hh⟩ := hP
  have hx := Bd.exec
  have hby := Bd.bytes
  have hml : c.maxLocals = 1 := hml0
  have hown : s.vm.findClass "com/example/moat/moat/xpath/OperatorFlippedPinLaw" = some m.cls := findClass_of_methodNamed Bd.named
  have hnm := (name_of_methodNamed Bd.named Bd.method).1
  have hlk := Bd.notSynchronized
  have X0 : Stand p l e ({ frames := 0, cells := 0, slots := 0, locals := 0 } : Room) s m #[(.int (4 : Int32))] below meth c s₁ [] 0 0 := Stand.of_body Bd
  have e0 : s₁.heap = h0 := by rw [← hh, Bd.state]; rfl
  have N0 := Fr.nil n0
  show Go p e below s (QrmP4 Z u_LESS h0 n0) ({ frames := 0, cells := 0, slots := 0, locals := 0 } : Room).cells ({ frames := 0, cells := 0, slots := 0, locals := 0 } : Room).slots s₁ (entryFrame m #[(.int (4 : Int32))] 1)
  refine Go.eq (ef_rmP4 m ) ?_
  show Go p e below s _ _ _ s₁ (mkF m 0 #[.val (.int (4 : Int32))] [])
  refine Go.st (fun _ => XS.iloadN X0.here hx rfl (hb hby d1_0) rfl) ?_
  show Go p e below s _ _ _ s₁ (mkF m 1 #[.val (.int (4 : Int32))] [(.int (4 : Int32))])
  refine Go.st (fun _ => XS.ifYes X0.here hx rfl (pc0 := 1) (pc' := 8) rfl (hb hby d1_1) rfl ((if0 _ _).trans (feq (by decide : ¬ ((4 : Int32) = (0 : Int32)))).2) (by decide) (by decide)) ?_
  show Go p e below s _ _ _ s₁ (mkF m 8 #[.val (.int (4 : Int32))] [])
  refine Go.st (fun _ => XS.iloadN X0.here hx rfl (hb hby d1_8) rfl) ?_
  show Go p e below s _ _ _ s₁ (mkF m 9 #[.val (.int (4 : Int32))] [(.int (4 : Int32))])
  refine Go.st (fun _ => XS.iconst X0.here hx rfl (hb hby d1_9)) ?_
  show Go p e below s _ _ _ s₁ (mkF m 10 #[.val (.int (4 : Int32))] [(.int (1 : Int32)), (.int (4 : Int32))])
  refine Go.st (fun _ => XS.icmpYes X0.here hx rfl (pc0 := 10) (pc' := 17) rfl (hb hby d1_10) rfl (feq (by decide : ¬ ((4 : Int32) = (1 : Int32)))).2 (by decide) (by decide)) ?_
  show Go p e below s _ _ _ s₁ (mkF m 17 #[.val (.int (4 : Int32))] [])
  refine Go.st (fun _ => XS.iloadN X0.here hx rfl (hb hby d1_17) rfl) ?_
  show Go p e below s _ _ _ s₁ (mkF m 18 #[.val (.int (4 : Int32))] [(.int (4 : Int32))])
  refine Go.st (fun _ => XS.iconst X0.here hx rfl (hb hby d1_18)) ?_
  show Go p e below s _ _ _ s₁ (mkF m 19 #[.val (.int (4 : Int32))] [(.int (2 : Int32)), (.int (4 : Int32))])
  refine Go.st (fun _ => XS.icmpYes X0.here hx rfl (pc0 := 19) (pc' := 26) rfl (hb hby d1_19) rfl (feq (by decide : ¬ ((4 : Int32) = (2 : Int32)))).2 (by decide) (by decide)) ?_
  show Go p e below s _ _ _ s₁ (mkF m 26 #[.val (.int (4 : Int32))] [])
  refine Go.st (fun _ => XS.iloadN X0.here hx rfl (hb hby d1_26) rfl) ?_
  show Go p e below s _ _ _ s₁ (mkF m 27 #[.val (.int (4 : Int32))] [(.int (4 : Int32))])
  refine Go.st (fun _ => XS.iconst X0.here hx rfl (hb hby d1_27)) ?_
  show Go p e below s _ _ _ s₁ (mkF m 28 #[.val (.int (4 : Int32))] [(.int (3 : Int32)), (.int (4 : Int32))])
  refine Go.st (fun _ => XS.icmpYes X0.here hx rfl (pc0 := 28) (pc' := 35) rfl (hb hby d1_28) rfl (feq (by decide : ¬ ((4 : Int32) = (3 : Int32)))).2 (by decide) (by decide)) ?_
  show Go p e below s _ _ _ s₁ (mkF m 35 #[.val (.int (4 : Int32))] [])
  refine Go.st (fun _ => XS.iloadN X0.here hx rfl (hb hby d1_35) rfl) ?_
  show Go p e below s _ _ _ s₁ (mkF m 36 #[.val (.int (4 : Int32))] [(.int (4 : Int32))])
  refine Go.st (fun _ => XS.iconst X0.here hx rfl (hb hby d1_36)) ?_
  show Go p e below s _ _ _ s₁ (mkF m 37 #[.val (.int (4 : Int32))] [(.int (4 : Int32)), (.int (4 : Int32))])
  refine Go.st (fun _ => XS.icmpNo X0.here hx rfl (hb hby d1_37) rfl (teq (by decide : (4 : Int32) = (4 : Int32))).2) ?_
  show Go p e below s _ _ _ s₁ (mkF m 40 #[.val (.int (4 : Int32))] [])
  obtain ⟨T1, X1, e1, st1⟩ := getS2 X0 hx hZ hown (host := "") (Or.inl (hw _ (List.mem_of_getElem? (i := 24) rfl))) Via.refl e0 S_LESS (g := (mkF m 40 #[.val (.int (4 : Int32))] [])) rfl (hb hby d1_40)
  refine Go.st st1 ?_
  show Go p e below s _ _ _ T1 (mkF m 43 #[.val (.int (4 : Int32))] [(.ref u_LESS)])
  exact Go.retA X1 hx hlk Bd.returns rfl rfl (hb hby d1_43) (by rw [e1]; exact ⟨rfl, N0, rfl⟩) (by decide) (by decide)
theorem d3_36 : decode method_4_code 36 = .ok (.aload_n 0, 1) := by decide +kernel
theorem d3_37 : decode method_4_code 37 = .ok (.getstatic 41, 3) := by decide +kernel
theorem d3_40 : decode method_4_code 40 = .ok (.if_acmp .ne 5, 3) := by decide +kernel
theorem d3_43 : decode method_4_code 43 = .ok (.iconst 4, 1) := by decide +kernel
theorem d3_44 : decode method_4_code 44 = .ok (.ireturn, 1) := by decide +kernel
theorem ef_rmX4 (m : MethodId) (u_LESS : Addr) : entryFrame m #[(.ref u_LESS)] 1 = mkF m 0 #[.val (.ref u_LESS)] [] := by first | (simp [entryFrame, mkF, argsToLocals, Value.category]; done) | rfl
def QrmX4 (Z : State) (u_LESS : Addr) (u_OR : Addr) (u_AND : Addr) (u_EQUAL : Addr) (u_NOT_EQUAL : Addr) (h0 : Heap) (n0 : Nat) (rV : Option Value) (hE : Heap) (LE : List Loc) : Prop := rV = some (.int (4 : Int32)) ∧ Fr n0 LE ∧ hE = h0
set_option maxRecDepth 65536 in
set_option maxHeartbeats 40000000 in
theorem rmX4 (l : Launch) (Z : State) (a0 : Array Value) (hw : ∀ d ∈ tables_1, d.before a0 Z = true) (ws : List Jvm.Cond) (u_LESS : Addr) (u_OR : Addr) (u_AND : Addr) (u_EQUAL : Addr) (u_NOT_EQUAL : Addr) (h0 : Heap) (n0 : Nat) (Z0 : n0 ≤ h0.size) (S_OR : Sta Z h0 "com/example/moat/moat/xpath/Operation$Operator" "OR" "Lcom/example/moat/moat/xpath/Operation$Operator;" (.ref u_OR)) (S_AND : Sta Z h0 "com/example/moat/moat/xpath/Operation$Operator" "AND" "Lcom/example/moat/moat/xpath/Operation$Operator;" (.ref u_AND)) (S_EQUAL : Sta Z h0 "com/example/moat/moat/xpath/Operation$Operator" "EQUAL" "Lcom/example/moat/moat/xpath/Operation$Operator;" (.ref u_EQUAL)) (S_NOT_EQUAL : Sta Z h0 "com/example/moat/moat/xpath/Operation$Operator" "NOT_EQUAL" "Lcom/example/moat/moat/xpath/Operation$Operator;" (.ref u_NOT_EQUAL)) (S_LESS : Sta Z h0 "com/example/moat/moat/xpath/Operation$Operator" "LESS" "Lcom/example/moat/moat/xpath/Operation$Operator;" (.ref u_LESS)) (ne_u_OR_u_LESS : u_OR ≠ u_LESS) (ne_u_AND_u_LESS : u_AND ≠ u_LESS) (ne_u_EQUAL_u_LESS : u_EQUAL ≠ u_LESS) (ne_u_NOT_EQUAL_u_LESS : u_NOT_EQUAL ≠ u_LESS) :
    MetFree l (⟨"com/example/moat/moat/xpath/OperatorFlippedPinLaw", "index", "(Lcom/example/moat/moat/xpath/Operation$Operator;)I"⟩ : MethodName) (head1 (Jvm.Cond.code (⟨"com/example/moat/moat/xpath/OperatorFlippedPinLaw", "index", "(Lcom/example/moat/moat/xpath/Operation$Operator;)I"⟩ : MethodName) method_4_code 1 (some .int) :: ws) ({ frames := 0, cells := 0, slots := 0, locals := 0 } : Room)) (fun aA UA => aA = #[(.ref u_LESS)] ∧ Z.Warmed39 UA.vm ∧ UA.heap = h0) (fun _ _ _ _ _ => True) (fun _ UA oA UB => ∃ rV LE, oA = .returned rV ∧ QrmX4 Z u_LESS u_OR u_AND u_EQUAL u_NOT_EQUAL h0 n0 rV UB.heap LE ∧ FrameEnd UA oA UB LE ({ frames := 0, cells := 0, slots := 0, locals := 0 } : Room).cells ({ frames := 0, cells := 0, slots := 0, locals := 0 } : Room).slots) := by
  refine MetFree.of_bodySF (plainFor_of_name pn_0) hisR ?_
  intro p e s m args below meth c s₁ Bd hml0 hP hK
  obtain ⟨rfl, hZ, hh⟩ := hP
  have hx := Bd.exec
  have hby := Bd.bytes
  have hml : c.maxLocals = 1 := hml0
  have hown : s.vm.findClass "com/example/moat/moat/xpath/OperatorFlippedPinLaw" = some m.cls := findClass_of_methodNamed Bd.named
  have hnm := (name_of_methodNamed Bd.named Bd.method).1
  have hlk := Bd.notSynchronized
  have X0 : Stand p l e ({ frames := 0, cells := 0, slots := 0, locals := 0 } : Room) s m #[(.ref u_LESS)] below meth c s₁ [] 0 0 := Stand.of_body Bd
  have e0 : s₁.heap = h0 := by rw [← hh, Bd.state]; rfl
  have N0 := Fr.nil n0
  show Go p e below s (QrmX4 Z u_LESS u_OR u_AND u_EQUAL u_NOT_EQUAL h0 n0) ({ frames := 0, cells := 0, slots := 0, locals := 0 } : Room).cells ({ frames := 0, cells := 0, slots := 0, locals := 0 } : Room).slots s₁ (entryFrame m #[(.ref u_LESS)] 1)
  refine Go.eq (ef_rmX4 m u_LESS) ?_
  show Go p e below s _ _ _ s₁ (mkF m 0 #[.val (.ref u_LESS)] [])
  refine Go.st (fun _ => XS.aloadN X0.here hx rfl (hb hby d3_0) rfl rfl) ?_
  show Go p e below s _ _ _ s₁ (mkF m 1 #[.val (.ref u_LESS)] [(.ref u_LESS)])
  obtain ⟨T1, X1, e1, st1⟩ := getS2 X0 hx hZ hown (host := "") (Or.inl (hw _ (List.mem_of_getElem? (i := 5) rfl))) Via.refl e0 S_OR (g := (mkF m 1 #[.val (.ref u_LESS)] [(.ref u_LESS)])) rfl (hb hby d3_1)
  refine Go.st st1 ?_
  show Go p e below s _ _ _ T1 (mkF m 4 #[.val (.ref u_LESS)] [(.ref u_OR), (.ref u_LESS)])
  refine Go.st (fun _ => Jvm.RoadKit.acmp (g := (mkF m 4 #[.val (.ref u_LESS)] [(.ref u_OR), (.ref u_LESS)])) X1 hx rfl rfl rfl (pc0 := 4) (pc' := 9) (same := false) rfl (hb hby d3_4) rfl (decide_eq_false fun q => (Ne.symm ne_u_OR_u_LESS) (Value.ref.inj q)) (by decide) (by decide)) ?_
  show Go p e below s _ _ _ T1 (mkF m 9 #[.val (.ref u_LESS)] [])
  refine Go.st (fun _ => XS.aloadN X1.here hx rfl (hb hby d3_9) rfl rfl) ?_
  show Go p e below s _ _ _ T1 (mkF m 10 #[.val (.ref u_LESS)] [(.ref u_LESS)])
  obtain ⟨T2, X2, e2, st2⟩ := getS2 X1 hx hZ hown (host := "") (Or.inl (hw _ (List.mem_of_getElem? (i := 25) rfl))) Via.refl e1 S_AND (g := (mkF m 10 #[.val (.ref u_LESS)] [(.ref u_LESS)])) rfl (hb hby d3_10)
  refine Go.st st2 ?_
  show Go p e below s _ _ _ T2 (mkF m 13 #[.val (.ref u_LESS)] [(.ref u_AND), (.ref u_LESS)])
  refine Go.st (fun _ => Jvm.RoadKit.acmp (g := (mkF m 13 #[.val (.ref u_LESS)] [(.ref u_AND), (.ref u_LESS)])) X2 hx rfl rfl rfl (pc0 := 13) (pc' := 18) (same := false) rfl (hb hby d3_13) rfl (decide_eq_false fun q => (Ne.symm ne_u_AND_u_LESS) (Value.ref.inj q)) (by decide) (by decide)) ?_
  show Go p e below s _ _ _ T2 (mkF m 18 #[.val (.ref u_LESS)] [])
  refine Go.st (fun _ => XS.aloadN X2.here hx rfl (hb hby d3_18) rfl rfl) ?_
  show Go p e below s _ _ _ T2 (mkF m 19 #[.val (.ref u_LESS)] [(.ref u_LESS)])
  obtain ⟨T3, X3, e3, st3⟩ := getS2 X2 hx hZ hown (host := "") (Or.inl (hw _ (List.mem_of_getElem? (i := 27) rfl))) Via.refl e2 S_EQUAL (g := (mkF m 19 #[.val (.ref u_LESS)] [(.ref u_LESS)])) rfl (hb hby d3_19)
  refine Go.st st3 ?_
  show Go p e below s _ _ _ T3 (mkF m 22 #[.val (.ref u_LESS)] [(.ref u_EQUAL), (.ref u_LESS)])
  refine Go.st (fun _ => Jvm.RoadKit.acmp (g := (mkF m 22 #[.val (.ref u_LESS)] [(.ref u_EQUAL), (.ref u_LESS)])) X3 hx rfl rfl rfl (pc0 := 22) (pc' := 27) (same := false) rfl (hb hby d3_22) rfl (decide_eq_false fun q => (Ne.symm ne_u_EQUAL_u_LESS) (Value.ref.inj q)) (by decide) (by decide)) ?_
  show Go p e below s _ _ _ T3 (mkF m 27 #[.val (.ref u_LESS)] [])
  refine Go.st (fun _ => XS.aloadN X3.here hx rfl (hb hby d3_27) rfl rfl) ?_
  show Go p e below s _ _ _ T3 (mkF m 28 #[.val (.ref u_LESS)] [(.ref u_LESS)])
  obtain ⟨T4, X4, e4, st4⟩ := getS2 X3 hx hZ hown (host := "") (Or.inl (hw _ (List.mem_of_getElem? (i := 29) rfl))) Via.refl e3 S_NOT_EQUAL (g := (mkF m 28 #[.val (.ref u_LESS)] [(.ref u_LESS)])) rfl (hb hby d3_28)
  refine Go.st st4 ?_
  show Go p e below s _ _ _ T4 (mkF m 31 #[.val (.ref u_LESS)] [(.ref u_NOT_EQUAL), (.ref u_LESS)])
  refine Go.st (fun _ => Jvm.RoadKit.acmp (g := (mkF m 31 #[.val (.ref u_LESS)] [(.ref u_NOT_EQUAL), (.ref u_LESS)])) X4 hx rfl rfl rfl (pc0 := 31) (pc' := 36) (same := false) rfl (hb hby d3_31) rfl (decide_eq_false fun q => (Ne.symm ne_u_NOT_EQUAL_u_LESS) (Value.ref.inj q)) (by decide) (by decide)) ?_
  show Go p e below s _ _ _ T4 (mkF m 36 #[.val (.ref u_LESS)] [])
  refine Go.st (fun _ => XS.aloadN X4.here hx rfl (hb hby d3_36) rfl rfl) ?_
  show Go p e below s _ _ _ T4 (mkF m 37 #[.val (.ref u_LESS)] [(.ref u_LESS)])
  obtain ⟨T5, X5, e5, st5⟩ := getS2 X4 hx hZ hown (host := "") (Or.inl (hw _ (List.mem_of_getElem? (i := 24) rfl))) Via.refl e4 S_LESS (g := (mkF m 37 #[.val (.ref u_LESS)] [(.ref u_LESS)])) rfl (hb hby d3_37)
  refine Go.st st5 ?_
  show Go p e below s _ _ _ T5 (mkF m 40 #[.val (.ref u_LESS)] [(.ref u_LESS), (.ref u_LESS)])
  refine Go.st (fun _ => Jvm.RoadKit.acmp (g := (mkF m 40 #[.val (.ref u_LESS)] [(.ref u_LESS), (.ref u_LESS)])) X5 hx rfl rfl rfl (pc0 := 40) (pc' := 43) (same := true) rfl (hb hby d3_40) rfl (decide_eq_true rfl) (by decide) (by decide)) ?_
  show Go p e below s _ _ _ T5 (mkF m 43 #[.val (.ref u_LESS)] [])
  refine Go.st (fun _ => XS.iconst X5.here hx rfl (hb hby d3_43)) ?_
  show Go p e below s _ _ _ T5 (mkF m 44 #[.val (.ref u_LESS)] [(.int (4 : Int32))])
  exact Go.retI X5 hx hlk Bd.returns (hb hby d3_44) (by rw [e5]; exact ⟨rfl, N0, rfl⟩) (by decide) (by decide)
theorem d1_44 : decode method_3_code 44 = .ok (.iload_n 0, 1) := by decide +kernel
theorem d1_45 : decode method_3_code 45 = .ok (.iconst 5, 1) := by decide +kernel
theorem d1_46 : decode method_3_code 46 = .ok (.if_icmp .ne 7, 3) := by decide +kernel
theorem d1_49 : decode method_3_code 49 = .ok (.getstatic 44, 3) := by decide +kernel
theorem d1_52 : decode method_3_code 52 = .ok (.areturn, 1) := by decide +kernel
theorem ef_rmP5 (m : MethodId)  : entryFrame m #[(.int (5 : Int32))] 1 = mkF m 0 #[.val (.int (5 : Int32))] [] := by first | (simp [entryFrame, mkF, argsToLocals, Value.category]; done) | rfl
def QrmP5 (Z : State) (u_LESS_OR_EQUAL : Addr) (h0 : Heap) (n0 : Nat) (rV : Option Value) (hE : Heap) (LE : List Loc) : Prop := rV = some (.ref u_LESS_OR_EQUAL) ∧ Fr n0 LE ∧ hE = h0
set_option maxRecDepth 65536 in
set_option maxHeartbeats 40000000 in
theorem rmP5 (l : Launch) (Z : State) (a0 : Array Value) (hw : ∀ d ∈ tables_1, d.before a0 Z = true) (ws : List Jvm.Cond) (u_LESS_OR_EQUAL : Addr) (h0 : Heap) (n0 : Nat) (Z0 : n0 ≤ h0.size) (S_LESS_OR_EQUAL : Sta Z h0 "com/example/moat/moat/xpath/Operation$Operator" "LESS_OR_EQUAL" "Lcom/example/moat/moat/xpath/Operation$Operator;" (.ref u_LESS_OR_EQUAL)) :
    MetFree l (⟨"com/example/moat/moat/xpath/OperatorFlippedPinLaw", "pick", "(I)Lcom/example/moat/moat/xpath/Operation$Operator;"⟩ : MethodName) (head1 (Jvm.Cond.code (⟨"com/example/moat/moat/xpath/OperatorFlippedPinLaw", "pick", "(I)Lcom/example/moat/moat/xpath/Operation$Operator;"⟩ : MethodName) method_3_code 1 (some (.object "com/example/moat/moat/xpath/Operation$Operator")) :: ws) ({ frames := 0, cells := 0, slots := 0, locals := 0 } : Room)) (fun aA UA => aA = #[(.int (5 : Int32))] ∧ Z.Warmed39 UA.vm ∧ UA.heap = h0) (fun _ _ _ _ _ => True) (fun _ UA oA UB => ∃ rV LE, oA = .returned rV ∧ QrmP5 Z u_LESS_OR_EQUAL h0 n0 rV UB.heap LE ∧ FrameEnd UA oA UB LE ({ frames := 0, cells := 0, slots := 0, locals := 0 } : Room).cells ({ frames := 0, cells := 0, slots := 0, locals := 0 } : Room).slots) := by
  refine MetFree.of_bodySF (plainFor_of_name pn_0) hisR ?_
  intro p e s m args below meth c s₁ Bd hml0 hP hK
  obtain ⟨rfl, hZ, hh⟩ := hP
  have hx := Bd.exec
  have hby := Bd.bytes
  have hml : c.maxLocals = 1 := hml0
  have hown : s.vm.findClass "com/example/moat/moat/xpath/OperatorFlippedPinLaw" = some m.cls := findClass_of_methodNamed Bd.named
  have hnm := (name_of_methodNamed Bd.named Bd.method).1
  have hlk := Bd.notSynchronized
  have X0 : Stand p l e ({ frames := 0, cells := 0, slots := 0, locals := 0 } : Room) s m #[(.int (5 : Int32))] below meth c s₁ [] 0 0 := Stand.of_body Bd
  have e0 : s₁.heap = h0 := by rw [← hh, Bd.state]; rfl
  have N0 := Fr.nil n0
  show Go p e below s (QrmP5 Z u_LESS_OR_EQUAL h0 n0) ({ frames := 0, cells := 0, slots := 0, locals := 0 } : Room).cells ({ frames := 0, cells := 0, slots := 0, locals := 0 } : Room).slots s₁ (entryFrame m #[(.int (5 : Int32))] 1)
  refine Go.eq (ef_rmP5 m ) ?_
  show Go p e below s _ _ _ s₁ (mkF m 0 #[.val (.int (5 : Int32))] [])
  refine Go.st (fun _ => XS.iloadN X0.here hx rfl (hb hby d1_0) rfl) ?_
  show Go p e below s _ _ _ s₁ (mkF m 1 #[.val (.int (5 : Int32))] [(.int (5 : Int32))])
  refine Go.st (fun _ => XS.ifYes X0.here hx rfl (pc0 := 1) (pc' := 8) rfl (hb hby d1_1) rfl ((if0 _ _).trans (feq (by decide : ¬ ((5 : Int32) = (0 : Int32)))).2) (by decide) (by decide)) ?_
  show Go p e below s _ _ _ s₁ (mkF m 8 #[.val (.int (5 : Int32))] [])
  refine Go.st (fun _ => XS.iloadN X0.here hx rfl (hb hby d1_8) rfl) ?_
  show Go p e below s _ _ _ s₁ (mkF m 9 #[.val (.int (5 : Int32))] [(.int (5 : Int32))])
  refine Go.st (fun _ => XS.iconst X0.here hx rfl (hb hby d1_9)) ?_
  show Go p e below s _ _ _ s₁ (mkF m 10 #[.val (.int (5 : Int32))] [(.int (1 : Int32)), (.int (5 : Int32))])
  refine Go.st (fun _ => XS.icmpYes X0.here hx rfl (pc0 := 10) (pc' := 17) rfl (hb hby d1_10) rfl (feq (by decide : ¬ ((5 : Int32) = (1 : Int32)))).2 (by decide) (by decide)) ?_
  show Go p e below s _ _ _ s₁ (mkF m 17 #[.val (.int (5 : Int32))] [])
  refine Go.st (fun _ => XS.iloadN X0.here hx rfl (hb hby d1_17) rfl) ?_
  show Go p e below s _ _ _ s₁ (mkF m 18 #[.val (.int (5 : Int32))] [(.int (5 : Int32))])
  refine Go.st (fun _ => XS.iconst X0.here hx rfl (hb hby d1_18)) ?_
  show Go p e below s _ _ _ s₁ (mkF m 19 #[.val (.int (5 : Int32))] [(.int (2 : Int32)), (.int (5 : Int32))])
  refine Go.st (fun _ => XS.icmpYes X0.here hx rfl (pc0 := 19) (pc' := 26) rfl (hb hby d1_19) rfl (feq (by decide : ¬ ((5 : Int32) = (2 : Int32)))).2 (by decide) (by decide)) ?_
  show Go p e below s _ _ _ s₁ (mkF m 26 #[.val (.int (5 : Int32))] [])
  refine Go.st (fun _ => XS.iloadN X0.here hx rfl (hb hby d1_26) rfl) ?_
  show Go p e below s _ _ _ s₁ (mkF m 27 #[.val (.int (5 : Int32))] [(.int (5 : Int32))])
  refine Go.st (fun _ => XS.iconst X0.here hx rfl (hb hby d1_27)) ?_
  show Go p e below s _ _ _ s₁ (mkF m 28 #[.val (.int (5 : Int32))] [(.int (3 : Int32)), (.int (5 : Int32))])
  refine Go.st (fun _ => XS.icmpYes X0.here hx rfl (pc0 := 28) (pc' := 35) rfl (hb hby d1_28) rfl (feq (by decide : ¬ ((5 : Int32) = (3 : Int32)))).2 (by decide) (by decide)) ?_
  show Go p e below s _ _ _ s₁ (mkF m 35 #[.val (.int (5 : Int32))] [])
  refine Go.st (fun _ => XS.iloadN X0.here hx rfl (hb hby d1_35) rfl) ?_
  show Go p e below s _ _ _ s₁ (mkF m 36 #[.val (.int (5 : Int32))] [(.int (5 : Int32))])
  refine Go.st (fun _ => XS.iconst X0.here hx rfl (hb hby d1_36)) ?_
  show Go p e below s _ _ _ s₁ (mkF m 37 #[.val (.int (5 : Int32))] [(.int (4 : Int32)), (.int (5 : Int32))])
  refine Go.st (fun _ => XS.icmpYes X0.here hx rfl (pc0 := 37) (pc' := 44) rfl (hb hby d1_37) rfl (feq (by decide : ¬ ((5 : Int32) = (4 : Int32)))).2 (by decide) (by decide)) ?_
  show Go p e below s _ _ _ s₁ (mkF m 44 #[.val (.int (5 : Int32))] [])
  refine Go.st (fun _ => XS.iloadN X0.here hx rfl (hb hby d1_44) rfl) ?_
  show Go p e below s _ _ _ s₁ (mkF m 45 #[.val (.int (5 : Int32))] [(.int (5 : Int32))])
  refine Go.st (fun _ => XS.iconst X0.here hx rfl (hb hby d1_45)) ?_
  show Go p e below s _ _ _ s₁ (mkF m 46 #[.val (.int (5 : Int32))] [(.int (5 : Int32)), (.int (5 : Int32))])
  refine Go.st (fun _ => XS.icmpNo X0.here hx rfl (hb hby d1_46) rfl (teq (by decide : (5 : Int32) = (5 : Int32))).2) ?_
  show Go p e below s _ _ _ s₁ (mkF m 49 #[.val (.int (5 : Int32))] [])
  obtain ⟨T1, X1, e1, st1⟩ := getS2 X0 hx hZ hown (host := "") (Or.inl (hw _ (List.mem_of_getElem? (i := 31) rfl))) Via.refl e0 S_LESS_OR_EQUAL (g := (mkF m 49 #[.val (.int (5 : Int32))] [])) rfl (hb hby d1_49)
  refine Go.st st1 ?_
  show Go p e below s _ _ _ T1 (mkF m 52 #[.val (.int (5 : Int32))] [(.ref u_LESS_OR_EQUAL)])
  exact Go.retA X1 hx hlk Bd.returns rfl rfl (hb hby d1_52) (by rw [e1]; exact ⟨rfl, N0, rfl⟩) (by decide) (by decide)
theorem d3_45 : decode method_4_code 45 = .ok (.aload_n 0, 1) := by decide +kernel
theorem d3_46 : decode method_4_code 46 = .ok (.getstatic 44, 3) := by decide +kernel
theorem d3_49 : decode method_4_code 49 = .ok (.if_acmp .ne 5, 3) := by decide +kernel
theorem d3_52 : decode method_4_code 52 = .ok (.iconst 5, 1) := by decide +kernel
theorem d3_53 : decode method_4_code 53 = .ok (.ireturn, 1) := by decide +kernel
theorem ef_rmX5 (m : MethodId) (u_LESS_OR_EQUAL : Addr) : entryFrame m #[(.ref u_LESS_OR_EQUAL)] 1 = mkF m 0 #[.val (.ref u_LESS_OR_EQUAL)] [] := by first | (simp [entryFrame, mkF, argsToLocals, Value.category]; done) | rfl
def QrmX5 (Z : State) (u_LESS_OR_EQUAL : Addr) (u_OR : Addr) (u_AND : Addr) (u_EQUAL : Addr) (u_NOT_EQUAL : Addr) (u_LESS : Addr) (h0 : Heap) (n0 : Nat) (rV : Option Value) (hE : Heap) (LE : List Loc) : Prop := rV = some (.int (5 : Int32)) ∧ Fr n0 LE ∧ hE = h0
set_option maxRecDepth 65536 in
set_option maxHeartbeats 40000000 in
theorem rmX5 (l : Launch) (Z : State) (a0 : Array Value) (hw : ∀ d ∈ tables_1, d.before a0 Z = true) (ws : List Jvm.Cond) (u_LESS_OR_EQUAL : Addr) (u_OR : Addr) (u_AND : Addr) (u_EQUAL : Addr) (u_NOT_EQUAL : Addr) (u_LESS : Addr) (h0 : Heap) (n0 : Nat) (Z0 : n0 ≤ h0.size) (S_OR : Sta Z h0 "com/example/moat/moat/xpath/Operation$Operator" "OR" "Lcom/example/moat/moat/xpath/Operation$Operator;" (.ref u_OR)) (S_AND : Sta Z h0 "com/example/moat/moat/xpath/Operation$Operator" "AND" "Lcom/example/moat/moat/xpath/Operation$Operator;" (.ref u_AND)) (S_EQUAL : Sta Z h0 "com/example/moat/moat/xpath/Operation$Operator" "EQUAL" "Lcom/example/moat/moat/xpath/Operation$Operator;" (.ref u_EQUAL)) (S_NOT_EQUAL : Sta Z h0 "com/example/moat/moat/xpath/Operation$Operator" "NOT_EQUAL" "Lcom/example/moat/moat/xpath/Operation$Operator;" (.ref u_NOT_EQUAL)) (S_LESS : Sta Z h0 "com/example/moat/moat/xpath/Operation$Operator" "LESS" "Lcom/example/moat/moat/xpath/Operation$Operator;" (.ref u_LESS)) (S_LESS_OR_EQUAL : Sta Z h0 "com/example/moat/moat/xpath/Operation$Operator" "LESS_OR_EQUAL" "Lcom/example/moat/moat/xpath/Operation$Operator;" (.ref u_LESS_OR_EQUAL)) (ne_u_OR_u_LESS_OR_EQUAL : u_OR ≠ u_LESS_OR_EQUAL) (ne_u_AND_u_LESS_OR_EQUAL : u_AND ≠ u_LESS_OR_EQUAL) (ne_u_EQUAL_u_LESS_OR_EQUAL : u_EQUAL ≠ u_LESS_OR_EQUAL) (ne_u_NOT_EQUAL_u_LESS_OR_EQUAL : u_NOT_EQUAL ≠ u_LESS_OR_EQUAL) (ne_u_LESS_u_LESS_OR_EQUAL : u_LESS ≠ u_LESS_OR_EQUAL) :
    MetFree l (⟨"com/example/moat/moat/xpath/OperatorFlippedPinLaw", "index", "(Lcom/example/moat/moat/xpath/Operation$Operator;)I"⟩ : MethodName) (head1 (Jvm.Cond.code (⟨"com/example/moat/moat/xpath/OperatorFlippedPinLaw", "index", "(Lcom/example/moat/moat/xpath/Operation$Operator;)I"⟩ : MethodName) method_4_code 1 (some .int) :: ws) ({ frames := 0, cells := 0, slots := 0, locals := 0 } : Room)) (fun aA UA => aA = #[(.ref u_LESS_OR_EQUAL)] ∧ Z.Warmed39 UA.vm ∧ UA.heap = h0) (fun _ _ _ _ _ => True) (fun _ UA oA UB => ∃ rV LE, oA = .returned rV ∧ QrmX5 Z u_LESS_OR_EQUAL u_OR u_AND u_EQUAL u_NOT_EQUAL u_LESS h0 n0 rV UB.heap LE ∧ FrameEnd UA oA UB LE ({ frames := 0, cells := 0, slots := 0, locals := 0 } : Room).cells ({ frames := 0, cells := 0, slots := 0, locals := 0 } : Room).slots) := by
  refine MetFree.of_bodySF (plainFor_of_name pn_0) hisR ?_
  intro p e s m args below meth c s₁ Bd hml0 hP hK
  obtain ⟨rfl, hZ, hh⟩ := hP
  have hx := Bd.exec
  have hby := Bd.bytes
  have hml : c.maxLocals = 1 := hml0
  have hown : s.vm.findClass "com/example/moat/moat/xpath/OperatorFlippedPinLaw" = some m.cls := findClass_of_methodNamed Bd.named
  have hnm := (name_of_methodNamed Bd.named Bd.method).1
  have hlk := Bd.notSynchronized
  have X0 : Stand p l e ({ frames := 0, cells := 0, slots := 0, locals := 0 } : Room) s m #[(.ref u_LESS_OR_EQUAL)] below meth c s₁ [] 0 0 := Stand.of_body Bd
  have e0 : s₁.heap = h0 := by rw [← hh, Bd.state]; rfl
  have N0 := Fr.nil n0
  show Go p e below s (QrmX5 Z u_LESS_OR_EQUAL u_OR u_AND u_EQUAL u_NOT_EQUAL u_LESS h0 n0) ({ frames := 0, cells := 0, slots := 0, locals := 0 } : Room).cells ({ frames := 0, cells := 0, slots := 0, locals := 0 } : Room).slots s₁ (entryFrame m #[(.ref u_LESS_OR_EQUAL)] 1)
  refine Go.eq (ef_rmX5 m u_LESS_OR_EQUAL) ?_
  show Go p e below s _ _ _ s₁ (mkF m 0 #[.val (.ref u_LESS_OR_EQUAL)] [])
  refine Go.st (fun _ => XS.aloadN X0.here hx rfl (hb hby d3_0) rfl rfl) ?_
  show Go p e below s _ _ _ s₁ (mkF m 1 #[.val (.ref u_LESS_OR_EQUAL)] [(.ref u_LESS_OR_EQUAL)])
  obtain ⟨T1, X1, e1, st1⟩ := getS2 X0 hx hZ hown (host := "") (Or.inl (hw _ (List.mem_of_getElem? (i := 5) rfl))) Via.refl e0 S_OR (g := (mkF m 1 #[.val (.ref u_LESS_OR_EQUAL)] [(.ref u_LESS_OR_EQUAL)])) rfl (hb hby d3_1)
  refine Go.st st1 ?_
  show Go p e below s _ _ _ T1 (mkF m 4 #[.val (.ref u_LESS_OR_EQUAL)] [(.ref u_OR), (.ref u_LESS_OR_EQUAL)])
  refine Go.st (fun _ => Jvm.RoadKit.acmp (g := (mkF m 4 #[.val (.ref u_LESS_OR_EQUAL)] [(.ref u_OR), (.ref u_LESS_OR_EQUAL)])) X1 hx rfl rfl rfl (pc0 := 4) (pc' := 9) (same := false) rfl (hb hby d3_4) rfl (decide_eq_false fun q => (Ne.symm ne_u_OR_u_LESS_OR_EQUAL) (Value.ref.inj q)) (by decide) (by decide)) ?_
  show Go p e below s _ _ _ T1 (mkF m 9 #[.val (.ref u_LESS_OR_EQUAL)] [])
  refine Go.st (fun _ => XS.aloadN X1.here hx rfl (hb hby d3_9) rfl rfl) ?_
  show Go p e below s _ _ _ T1 (mkF m 10 #[.val (.ref u_LESS_OR_EQUAL)] [(.ref u_LESS_OR_EQUAL)])
  obtain ⟨T2, X2, e2, st2⟩ := getS2 X1 hx hZ hown (host := "") (Or.inl (hw _ (List.mem_of_getElem? (i := 25) rfl))) Via.refl e1 S_AND (g := (mkF m 10 #[.val (.ref u_LESS_OR_EQUAL)] [(.ref u_LESS_OR_EQUAL)])) rfl (hb hby d3_10)
  refine Go.st st2 ?_
  show Go p e below s _ _ _ T2 (mkF m 13 #[.val (.ref u_LESS_OR_EQUAL)] [(.ref u_AND), (.ref u_LESS_OR_EQUAL)])
  refine Go.st (fun _ => Jvm.RoadKit.acmp (g := (mkF m 13 #[.val (.ref u_LESS_OR_EQUAL)] [(.ref u_AND), (.ref u_LESS_OR_EQUAL)])) X2 hx rfl rfl rfl (pc0 := 13) (pc' := 18) (same := false) rfl (hb hby d3_13) rfl (decide_eq_false fun q => (Ne.symm ne_u_AND_u_LESS_OR_EQUAL) (Value.ref.inj q)) (by decide) (by decide)) ?_
  show Go p e below s _ _ _ T2 (mkF m 18 #[.val (.ref u_LESS_OR_EQUAL)] [])
  refine Go.st (fun _ => XS.aloadN X2.here hx rfl (hb hby d3_18) rfl rfl) ?_
  show Go p e below s _ _ _ T2 (mkF m 19 #[.val (.ref u_LESS_OR_EQUAL)] [(.ref u_LESS_OR_EQUAL)])
  obtain ⟨T3, X3, e3, st3⟩ := getS2 X2 hx hZ hown (host := "") (Or.inl (hw _ (List.mem_of_getElem? (i := 27) rfl))) Via.refl e2 S_EQUAL (g := (mkF m 19 #[.val (.ref u_LESS_OR_EQUAL)] [(.ref u_LESS_OR_EQUAL)])) rfl (hb hby d3_19)
  refine Go.st st3 ?_
  show Go p e below s _ _ _ T3 (mkF m 22 #[.val (.ref u_LESS_OR_EQUAL)] [(.ref u_EQUAL), (.ref u_LESS_OR_EQUAL)])
  refine Go.st (fun _ => Jvm.RoadKit.acmp (g := (mkF m 22 #[.val (.ref u_LESS_OR_EQUAL)] [(.ref u_EQUAL), (.ref u_LESS_OR_EQUAL)])) X3 hx rfl rfl rfl (pc0 := 22) (pc' := 27) (same := false) rfl (hb hby d3_22) rfl (decide_eq_false fun q => (Ne.symm ne_u_EQUAL_u_LESS_OR_EQUAL) (Value.ref.inj q)) (by decide) (by decide)) ?_
  show Go p e below s _ _ _ T3 (mkF m 27 #[.val (.ref u_LESS_OR_EQUAL)] [])
  refine Go.st (fun _ => XS.aloadN X3.here hx rfl (hb hby d3_27) rfl rfl) ?_
  show Go p e below s _ _ _ T3 (mkF m 28 #[.val (.ref u_LESS_OR_EQUAL)] [(.ref u_LESS_OR_EQUAL)])
  obtain ⟨T4, X4, e4, st4⟩ := getS2 X3 hx hZ hown (host := "") (Or.inl (hw _ (List.mem_of_getElem? (i := 29) rfl))) Via.refl e3 S_NOT_EQUAL (g := (mkF m 28 #[.val (.ref u_LESS_OR_EQUAL)] [(.ref u_LESS_OR_EQUAL)])) rfl (hb hby d3_28)
  refine Go.st st4 ?_
  show Go p e below s _ _ _ T4 (mkF m 31 #[.val (.ref u_LESS_OR_EQUAL)] [(.ref u_NOT_EQUAL), (.ref u_LESS_OR_EQUAL)])
  refine Go.st (fun _ => Jvm.RoadKit.acmp (g := (mkF m 31 #[.val (.ref u_LESS_OR_EQUAL)] [(.ref u_NOT_EQUAL), (.ref u_LESS_OR_EQUAL)])) X4 hx rfl rfl rfl (pc0 := 31) (pc' := 36) (same := false) rfl (hb hby d3_31) rfl (decide_eq_false fun q => (Ne.symm ne_u_NOT_EQUAL_u_LESS_OR_EQUAL) (Value.ref.inj q)) (by decide) (by decide)) ?_
  show Go p e below s _ _ _ T4 (mkF m 36 #[.val (.ref u_LESS_OR_EQUAL)] [])
  refine Go.st (fun _ => XS.aloadN X4.here hx rfl (hb hby d3_36) rfl rfl) ?_
  show Go p e below s _ _ _ T4 (mkF m 37 #[.val (.ref u_LESS_OR_EQUAL)] [(.ref u_LESS_OR_EQUAL)])
  obtain ⟨T5, X5, e5, st5⟩ := getS2 X4 hx hZ hown (host := "") (Or.inl (hw _ (List.mem_of_getElem? (i := 24) rfl))) Via.refl e4 S_LESS (g := (mkF m 37 #[.val (.ref u_LESS_OR_EQUAL)] [(.ref u_LESS_OR_EQUAL)])) rfl (hb hby d3_37)
  refine Go.st st5 ?_
  show Go p e below s _ _ _ T5 (mkF m 40 #[.val (.ref u_LESS_OR_EQUAL)] [(.ref u_LESS), (.ref u_LESS_OR_EQUAL)])
  refine Go.st (fun _ => Jvm.RoadKit.acmp (g := (mkF m 40 #[.val (.ref u_LESS_OR_EQUAL)] [(.ref u_LESS), (.ref u_LESS_OR_EQUAL)])) X5 hx rfl rfl rfl (pc0 := 40) (pc' := 45) (same := false) rfl (hb hby d3_40) rfl (decide_eq_false fun q => (Ne.symm ne_u_LESS_u_LESS_OR_EQUAL) (Value.ref.inj q)) (by decide) (by decide)) ?_
  show Go p e below s _ _ _ T5 (mkF m 45 #[.val (.ref u_LESS_OR_EQUAL)] [])
  refine Go.st (fun _ => XS.aloadN X5.here hx rfl (hb hby d3_45) rfl rfl) ?_
  show Go p e below s _ _ _ T5 (mkF m 46 #[.val (.ref u_LESS_OR_EQUAL)] [(.ref u_LESS_OR_EQUAL)])
  obtain ⟨T6, X6, e6, st6⟩ := getS2 X5 hx hZ hown (host := "") (Or.inl (hw _ (List.mem_of_getElem? (i := 31) rfl))) Via.refl e5 S_LESS_OR_EQUAL (g := (mkF m 46 #[.val (.ref u_LESS_OR_EQUAL)] [(.ref u_LESS_OR_EQUAL)])) rfl (hb hby d3_46)
  refine Go.st st6 ?_
  show Go p e below s _ _ _ T6 (mkF m 49 #[.val (.ref u_LESS_OR_EQUAL)] [(.ref u_LESS_OR_EQUAL), (.ref u_LESS_OR_EQUAL)])
  refine Go.st (fun _ => Jvm.RoadKit.acmp (g := (mkF m 49 #[.val (.ref u_LESS_OR_EQUAL)] [(.ref u_LESS_OR_EQUAL), (.ref u_LESS_OR_EQUAL)])) X6 hx rfl rfl rfl (pc0 := 49) (pc' := 52) (same := true) rfl (hb hby d3_49) rfl (decide_eq_true rfl) (by decide) (by decide)) ?_
  show Go p e below s _ _ _ T6 (mkF m 52 #[.val (.ref u_LESS_OR_EQUAL)] [])
  refine Go.st (fun _ => XS.iconst X6.here hx rfl (hb hby d3_52)) ?_
  show Go p e below s _ _ _ T6 (mkF m 53 #[.val (.ref u_LESS_OR_EQUAL)] [(.int (5 : Int32))])
  exact Go.retI X6 hx hlk Bd.returns (hb hby d3_53) (by rw [e6]; exact ⟨rfl, N0, rfl⟩) (by decide) (by decide)
theorem d1_53 : decode method_3_code 53 = .ok (.iload_n 0, 1) := by decide +kernel
theorem d1_54 : decode method_3_code 54 = .ok (.bipush 6, 2) := by decide +kernel
theorem d1_56 : decode method_3_code 56 = .ok (.if_icmp .ne 7, 3) := by decide +kernel
theorem d1_59 : decode method_3_code 59 = .ok (.getstatic 47, 3) := by decide +kernel
theorem d1_62 : decode method_3_code 62 = .ok (.areturn, 1) := by decide +kernel
theorem ef_rmP6 (m : MethodId)  : entryFrame m #[(.int (6 : Int32))] 1 = mkF m 0 #[.val (.int (6 : Int32))] [] := by first | (simp [entryFrame, mkF, argsToLocals, Value.category]; done) | rfl
def QrmP6 (Z : State) (u_GREATER : Addr) (h0 : Heap) (n0 : Nat) (rV : Option Value) (hE : Heap) (LE : List Loc) : Prop := rV = some (.ref u_GREATER) ∧ Fr n0 LE ∧ hE = h0
set_option maxRecDepth 65536 in
set_option maxHeartbeats 40000000 in
theorem rmP6 (l : Launch) (Z : State) (a0 : Array Value) (hw : ∀ d ∈ tables_1, d.before a0 Z = true) (ws : List Jvm.Cond) (u_GREATER : Addr) (h0 : Heap) (n0 : Nat) (Z0 : n0 ≤ h0.size) (S_GREATER : Sta Z h0 "com/example/moat/moat/xpath/Operation$Operator" "GREATER" "Lcom/example/moat/moat/xpath/Operation$Operator;" (.ref u_GREATER)) :
    MetFree l (⟨"com/example/moat/moat/xpath/OperatorFlippedPinLaw", "pick", "(I)Lcom/example/moat/moat/xpath/Operation$Operator;"⟩ : MethodName) (head1 (Jvm.Cond.code (⟨"com/example/moat/moat/xpath/OperatorFlippedPinLaw", "pick", "(I)Lcom/example/moat/moat/xpath/Operation$Operator;"⟩ : MethodName) method_3_code 1 (some (.object "com/example/moat/moat/xpath/Operation$Operator")) :: ws) ({ frames := 0, cells := 0, slots := 0, locals := 0 } : Room)) (fun aA UA => aA = #[(.int (6 : Int32))] ∧ Z.Warmed39 UA.vm ∧ UA.heap = h0) (fun _ _ _ _ _ => True) (fun _ UA oA UB => ∃ rV LE, oA = .returned rV ∧ QrmP6 Z u_GREATER h0 n0 rV UB.heap LE ∧ FrameEnd UA oA UB LE ({ frames := 0, cells := 0, slots := 0, locals := 0 } : Room).cells ({ frames := 0, cells := 0, slots := 0, locals := 0 } : Room).slots) := by
  refine MetFree.of_bodySF (plainFor_of_name pn_0) hisR ?_
  intro p e s m args below meth c s₁ Bd hml0 hP hK
  obtain ⟨rfl, hZ, hh⟩ := hP
  have hx := Bd.exec
  have hby := Bd.bytes
  have hml : c.maxLocals = 1 := hml0
  have hown : s.vm.findClass "com/example/moat/moat/xpath/OperatorFlippedPinLaw" = some m.cls := findClass_of_methodNamed Bd.named
  have hnm := (name_of_methodNamed Bd.named Bd.method).1
  have hlk := Bd.notSynchronized
  have X0 : Stand p l e ({ frames := 0, cells := 0, slots := 0, locals := 0 } : Room) s m #[(.int (6 : Int32))] below meth c s₁ [] 0 0 := Stand.of_body Bd
  have e0 : s₁.heap = h0 := by rw [← hh, Bd.state]; rfl
  have N0 := Fr.nil n0
  show Go p e below s (QrmP6 Z u_GREATER h0 n0) ({ frames := 0, cells := 0, slots := 0, locals := 0 } : Room).cells ({ frames := 0, cells := 0, slots := 0, locals := 0 } : Room).slots s₁ (entryFrame m #[(.int (6 : Int32))] 1)
  refine Go.eq (ef_rmP6 m ) ?_
  show Go p e below s _ _ _ s₁ (mkF m 0 #[.val (.int (6 : Int32))] [])
  refine Go.st (fun _ => XS.iloadN X0.here hx rfl (hb hby d1_0) rfl) ?_
  show Go p e below s _ _ _ s₁ (mkF m 1 #[.val (.int (6 : Int32))] [(.int (6 : Int32))])
  refine Go.st (fun _ => XS.ifYes X0.here hx rfl (pc0 := 1) (pc' := 8) rfl (hb hby d1_1) rfl ((if0 _ _).trans (feq (by decide : ¬ ((6 : Int32) = (0 : Int32)))).2) (by decide) (by decide)) ?_
  show Go p e below s _ _ _ s₁ (mkF m 8 #[.val (.int (6 : Int32))] [])
  refine Go.st (fun _ => XS.iloadN X0.here hx rfl (hb hby d1_8) rfl) ?_
  show Go p e below s _ _ _ s₁ (mkF m 9 #[.val (.int (6 : Int32))] [(.int (6 : Int32))])
  refine Go.st (fun _ => XS.iconst X0.here hx rfl (hb hby d1_9)) ?_
  show Go p e below s _ _ _ s₁ (mkF m 10 #[.val (.int (6 : Int32))] [(.int (1 : Int32)), (.int (6 : Int32))])
  refine Go.st (fun _ => XS.icmpYes X0.here hx rfl (pc0 := 10) (pc' := 17) rfl (hb hby d1_10) rfl (feq (by decide : ¬ ((6 : Int32) = (1 : Int32)))).2 (by decide) (by decide)) ?_
  show Go p e below s _ _ _ s₁ (mkF m 17 #[.val (.int (6 : Int32))] [])
  refine Go.st (fun _ => XS.iloadN X0.here hx rfl (hb hby d1_17) rfl) ?_
  show Go p e below s _ _ _ s₁ (mkF m 18 #[.val (.int (6 : Int32))] [(.int (6 : Int32))])
  refine Go.st (fun _ => XS.iconst X0.here hx rfl (hb hby d1_18)) ?_
  show Go p e below s _ _ _ s₁ (mkF m 19 #[.val (.int (6 : Int32))] [(.int (2 : Int32)), (.int (6 : Int32))])
  refine Go.st (fun _ => XS.icmpYes X0.here hx rfl (pc0 := 19) (pc' := 26) rfl (hb hby d1_19) rfl (feq (by decide : ¬ ((6 : Int32) = (2 : Int32)))).2 (by decide) (by decide)) ?_
  show Go p e below s _ _ _ s₁ (mkF m 26 #[.val (.int (6 : Int32))] [])
  refine Go.st (fun _ => XS.iloadN X0.here hx rfl (hb hby d1_26) rfl) ?_
  show Go p e below s _ _ _ s₁ (mkF m 27 #[.val (.int (6 : Int32))] [(.int (6 : Int32))])
  refine Go.st (fun _ => XS.iconst X0.here hx rfl (hb hby d1_27)) ?_
  show Go p e below s _ _ _ s₁ (mkF m 28 #[.val (.int (6 : Int32))] [(.int (3 : Int32)), (.int (6 : Int32))])
  refine Go.st (fun _ => XS.icmpYes X0.here hx rfl (pc0 := 28) (pc' := 35) rfl (hb hby d1_28) rfl (feq (by decide : ¬ ((6 : Int32) = (3 : Int32)))).2 (by decide) (by decide)) ?_
  show Go p e below s _ _ _ s₁ (mkF m 35 #[.val (.int (6 : Int32))] [])
  refine Go.st (fun _ => XS.iloadN X0.here hx rfl (hb hby d1_35) rfl) ?_
  show Go p e below s _ _ _ s₁ (mkF m 36 #[.val (.int (6 : Int32))] [(.int (6 : Int32))])
  refine Go.st (fun _ => XS.iconst X0.here hx rfl (hb hby d1_36)) ?_
  show Go p e below s _ _ _ s₁ (mkF m 37 #[.val (.int (6 : Int32))] [(.int (4 : Int32)), (.int (6 : Int32))])
  refine Go.st (fun _ => XS.icmpYes X0.here hx rfl (pc0 := 37) (pc' := 44) rfl (hb hby d1_37) rfl (feq (by decide : ¬ ((6 : Int32) = (4 : Int32)))).2 (by decide) (by decide)) ?_
  show Go p e below s _ _ _ s₁ (mkF m 44 #[.val (.int (6 : Int32))] [])
  refine Go.st (fun _ => XS.iloadN X0.here hx rfl (hb hby d1_44) rfl) ?_
  show Go p e below s _ _ _ s₁ (mkF m 45 #[.val (.int (6 : Int32))] [(.int (6 : Int32))])
  refine Go.st (fun _ => XS.iconst X0.here hx rfl (hb hby d1_45)) ?_
  show Go p e below s _ _ _ s₁ (mkF m 46 #[.val (.int (6 : Int32))] [(.int (5 : Int32)), (.int (6 : Int32))])
  refine Go.st (fun _ => XS.icmpYes X0.here hx rfl (pc0 := 46) (pc' := 53) rfl (hb hby d1_46) rfl (feq (by decide : ¬ ((6 : Int32) = (5 : Int32)))).2 (by decide) (by decide)) ?_
  show Go p e below s _ _ _ s₁ (mkF m 53 #[.val (.int (6 : Int32))] [])
  refine Go.st (fun _ => XS.iloadN X0.here hx rfl (hb hby d1_53) rfl) ?_
  show Go p e below s _ _ _ s₁ (mkF m 54 #[.val (.int (6 : Int32))] [(.int (6 : Int32))])
  refine Go.st (fun _ => XS.bipush X0.here hx rfl (hb hby d1_54)) ?_
  show Go p e below s _ _ _ s₁ (mkF m 56 #[.val (.int (6 : Int32))] [(.int (6 : Int32)), (.int (6 : Int32))])
  refine Go.st (fun _ => XS.icmpNo X0.here hx rfl (hb hby d1_56) rfl (teq (by decide : (6 : Int32) = (6 : Int32))).2) ?_
  show Go p e below s _ _ _ s₁ (mkF m 59 #[.val (.int (6 : Int32))] [])
  obtain ⟨T1, X1, e1, st1⟩ := getS2 X0 hx hZ hown (host := "") (Or.inl (hw _ (List.mem_of_getElem? (i := 32) rfl))) Via.refl e0 S_GREATER (g := (mkF m 59 #[.val (.int (6 : Int32))] [])) rfl (hb hby d1_59)
  refine Go.st st1 ?_
  show Go p e below s _ _ _ T1 (mkF m 62 #[.val (.int (6 : Int32))] [(.ref u_GREATER)])
  exact Go.retA X1 hx hlk Bd.returns rfl rfl (hb hby d1_62) (by rw [e1]; exact ⟨rfl, N0, rfl⟩) (by decide) (by decide)
theorem d3_54 : decode method_4_code 54 = .ok (.aload_n 0, 1) := by decide +kernel
theorem d3_55 : decode method_4_code 55 = .ok (.getstatic 47, 3) := by decide +kernel
theorem d3_58 : decode method_4_code 58 = .ok (.if_acmp .ne 6, 3) := by decide +kernel
theorem d3_61 : decode method_4_code 61 = .ok (.bipush 6, 2) := by decide +kernel
theorem d3_63 : decode method_4_code 63 = .ok (.ireturn, 1) := by decide +kernel
theorem ef_rmX6 (m : MethodId) (u_GREATER : Addr) : entryFrame m #[(.ref u_GREATER)] 1 = mkF m 0 #[.val (.ref u_GREATER)] [] := by first | (simp [entryFrame, mkF, argsToLocals, Value.category]; done) | rfl
def QrmX6 (Z : State) (u_GREATER : Addr) (u_OR : Addr) (u_AND : Addr) (u_EQUAL : Addr) (u_NOT_EQUAL : Addr) (u_LESS : Addr) (u_LESS_OR_EQUAL : Addr) (h0 : Heap) (n0 : Nat) (rV : Option Value) (hE : Heap) (LE : List Loc) : Prop := rV = some (.int (6 : Int32)) ∧ Fr n0 LE ∧ hE = h0
set_option maxRecDepth 65536 in
set_option maxHeartbeats 40000000 in
theorem rmX6 (l : Launch) (Z : State) (a0 : Array Value) (hw : ∀ d ∈ tables_1, d.before a0 Z = true) (ws : List Jvm.Cond) (u_GREATER : Addr) (u_OR : Addr) (u_AND : Addr) (u_EQUAL : Addr) (u_NOT_EQUAL : Addr) (u_LESS : Addr) (u_LESS_OR_EQUAL : Addr) (h0 : Heap) (n0 : Nat) (Z0 : n0 ≤ h0.size) (S_OR : Sta Z h0 "com/example/moat/moat/xpath/Operation$Operator" "OR" "Lcom/example/moat/moat/xpath/Operation$Operator;" (.ref u_OR)) (S_AND : Sta Z h0 "com/example/moat/moat/xpath/Operation$Operator" "AND" "Lcom/example/moat/moat/xpath/Operation$Operator;" (.ref u_AND)) (S_EQUAL : Sta Z h0 "com/example/moat/moat/xpath/Operation$Operator" "EQUAL" "Lcom/example/moat/moat/xpath/Operation$Operator;" (.ref u_EQUAL)) (S_NOT_EQUAL : Sta Z h0 "com/example/moat/moat/xpath/Operation$Operator" "NOT_EQUAL" "Lcom/example/moat/moat/xpath/Operation$Operator;" (.ref u_NOT_EQUAL)) (S_LESS : Sta Z h0 "com/example/moat/moat/xpath/Operation$Operator" "LESS" "Lcom/example/moat/moat/xpath/Operation$Operator;" (.ref u_LESS)) (S_LESS_OR_EQUAL : Sta Z h0 "com/example/moat/moat/xpath/Operation$Operator" "LESS_OR_EQUAL" "Lcom/example/moat/moat/xpath/Operation$Operator;" (.ref u_LESS_OR_EQUAL)) (S_GREATER : Sta Z h0 "com/example/moat/moat/xpath/Operation$Operator" "GREATER" "Lcom/example/moat/moat/xpath/Operation$Operator;" (.ref u_GREATER)) (ne_u_OR_u_GREATER : u_OR ≠ u_GREATER) (ne_u_AND_u_GREATER : u_AND ≠ u_GREATER) (ne_u_EQUAL_u_GREATER : u_EQUAL ≠ u_GREATER) (ne_u_NOT_EQUAL_u_GREATER : u_NOT_EQUAL ≠ u_GREATER) (ne_u_LESS_u_GREATER : u_LESS ≠ u_GREATER) (ne_u_LESS_OR_EQUAL_u_GREATER : u_LESS_OR_EQUAL ≠ u_GREATER) :
    MetFree l (⟨"com/example/moat/moat/xpath/OperatorFlippedPinLaw", "index", "(Lcom/example/moat/moat/xpath/Operation$Operator;)I"⟩ : MethodName) (head1 (Jvm.Cond.code (⟨"com/example/moat/moat/xpath/OperatorFlippedPinLaw", "index", "(Lcom/example/moat/moat/xpath/Operation$Operator;)I"⟩ : MethodName) method_4_code 1 (some .int) :: ws) ({ frames := 0, cells := 0, slots := 0, locals := 0 } : Room)) (fun aA UA => aA = #[(.ref u_GREATER)] ∧ Z.Warmed39 UA.vm ∧ UA.heap = h0) (fun _ _ _ _ _ => True) (fun _ UA oA UB => ∃ rV LE, oA = .returned rV ∧ QrmX6 Z u_GREATER u_OR u_AND u_EQUAL u_NOT_EQUAL u_LESS u_LESS_OR_EQUAL h0 n0 rV UB.heap LE ∧ FrameEnd UA oA UB LE ({ frames := 0, cells := 0, slots := 0, locals := 0 } : Room).cells ({ frames := 0, cells := 0, slots := 0, locals := 0 } : Room).slots) := by
  refine MetFree.of_bodySF (plainFor_of_name pn_0) hisR ?_
  intro p e s m args below meth c s₁ Bd hml0 hP hK
  obtain ⟨rfl, hZ, hh⟩ := hP
  have hx := Bd.exec
  have hby := Bd.bytes
  have hml : c.maxLocals = 1 := hml0
  have hown : s.vm.findClass "com/example/moat/moat/xpath/OperatorFlippedPinLaw" = some m.cls := findClass_of_methodNamed Bd.named
  have hnm := (name_of_methodNamed Bd.named Bd.method).1
  have hlk := Bd.notSynchronized
  have X0 : Stand p l e ({ frames := 0, cells := 0, slots := 0, locals := 0 } : Room) s m #[(.ref u_GREATER)] below meth c s₁ [] 0 0 := Stand.of_body Bd
  have e0 : s₁.heap = h0 := by rw [← hh, Bd.state]; rfl
  have N0 := Fr.nil n0
  show Go p e below s (QrmX6 Z u_GREATER u_OR u_AND u_EQUAL u_NOT_EQUAL u_LESS u_LESS_OR_EQUAL h0 n0) ({ frames := 0, cells := 0, slots := 0, locals := 0 } : Room).cells ({ frames := 0, cells := 0, slots := 0, locals := 0 } : Room).slots s₁ (entryFrame m #[(.ref u_GREATER)] 1)
  refine Go.eq (ef_rmX6 m u_GREATER) ?_
  show Go p e below s _ _ _ s₁ (mkF m 0 #[.val (.ref u_GREATER)] [])
  refine Go.st (fun _ => XS.aloadN X0.here hx rfl (hb hby d3_0) rfl rfl) ?_
  show Go p e below s _ _ _ s₁ (mkF m 1 #[.val (.ref u_GREATER)] [(.ref u_GREATER)])
  obtain ⟨T1, X1, e1, st1⟩ := getS2 X0 hx hZ hown (host := "") (Or.inl (hw _ (List.mem_of_getElem? (i := 5) rfl))) Via.refl e0 S_OR (g := (mkF m 1 #[.val (.ref u_GREATER)] [(.ref u_GREATER)])) rfl (hb hby d3_1)
  refine Go.st st1 ?_
  show Go p e below s _ _ _ T1 (mkF m 4 #[.val (.ref u_GREATER)] [(.ref u_OR), (.ref u_GREATER)])
  refine Go.st (fun _ => Jvm.RoadKit.acmp (g := (mkF m 4 #[.val (.ref u_GREATER)] [(.ref u_OR), (.ref u_GREATER)])) X1 hx rfl rfl rfl (pc0 := 4) (pc' := 9) (same := false) rfl (hb hby d3_4) rfl (decide_eq_false fun q => (Ne.symm ne_u_OR_u_GREATER) (Value.ref.inj q)) (by decide) (by decide)) ?_
  show Go p e below s _ _ _ T1 (mkF m 9 #[.val (.ref u_GREATER)] [])
  refine Go.st (fun _ => XS.aloadN X1.here hx rfl (hb hby d3_9) rfl rfl) ?_
  show Go p e below s _ _ _ T1 (mkF m 10 #[.val (.ref u_GREATER)] [(.ref u_GREATER)])
  obtain ⟨T2, X2, e2, st2⟩ := getS2 X1 hx hZ hown (host := "") (Or.inl (hw _ (List.mem_of_getElem? (i := 25) rfl))) Via.refl e1 S_AND (g := (mkF m 10 #[.val (.ref u_GREATER)] [(.ref u_GREATER)])) rfl (hb hby d3_10)
  refine Go.st st2 ?_
  show Go p e below s _ _ _ T2 (mkF m 13 #[.val (.ref u_GREATER)] [(.ref u_AND), (.ref u_GREATER)])
  refine Go.st (fun _ => Jvm.RoadKit.acmp (g := (mkF m 13 #[.val (.ref u_GREATER)] [(.ref u_AND), (.ref u_GREATER)])) X2 hx rfl rfl rfl (pc0 := 13) (pc' := 18) (same := false) rfl (hb hby d3_13) rfl (decide_eq_false fun q => (Ne.symm ne_u_AND_u_GREATER) (Value.ref.inj q)) (by decide) (by decide)) ?_
  show Go p e below s _ _ _ T2 (mkF m 18 #[.val (.ref u_GREATER)] [])
  refine Go.st (fun _ => XS.aloadN X2.here hx rfl (hb hby d3_18) rfl rfl) ?_
  show Go p e below s _ _ _ T2 (mkF m 19 #[.val (.ref u_GREATER)] [(.ref u_GREATER)])
  obtain ⟨T3, X3, e3, st3⟩ := getS2 X2 hx hZ hown (host := "") (Or.inl (hw _ (List.mem_of_getElem? (i := 27) rfl))) Via.refl e2 S_EQUAL (g := (mkF m 19 #[.val (.ref u_GREATER)] [(.ref u_GREATER)])) rfl (hb hby d3_19)
  refine Go.st st3 ?_
  show Go p e below s _ _ _ T3 (mkF m 22 #[.val (.ref u_GREATER)] [(.ref u_EQUAL), (.ref u_GREATER)])
  refine Go.st (fun _ => Jvm.RoadKit.acmp (g := (mkF m 22 #[.val (.ref u_GREATER)] [(.ref u_EQUAL), (.ref u_GREATER)])) X3 hx rfl rfl rfl (pc0 := 22) (pc' := 27) (same := false) rfl (hb hby d3_22) rfl (decide_eq_false fun q => (Ne.symm ne_u_EQUAL_u_GREATER) (Value.ref.inj q)) (by decide) (by decide)) ?_
  show Go p e below s _ _ _ T3 (mkF m 27 #[.val (.ref u_GREATER)] [])
  refine Go.st (fun _ => XS.aloadN X3.here hx rfl (hb hby d3_27) rfl rfl) ?_
  show Go p e below s _ _ _ T3 (mkF m 28 #[.val (.ref u_GREATER)] [(.ref u_GREATER)])
  obtain ⟨T4, X4, e4, st4⟩ := getS2 X3 hx hZ hown (host := "") (Or.inl (hw _ (List.mem_of_getElem? (i := 29) rfl))) Via.refl e3 S_NOT_EQUAL (g := (mkF m 28 #[.val (.ref u_GREATER)] [(.ref u_GREATER)])) rfl (hb hby d3_28)
  refine Go.st st4 ?_
  show Go p e below s _ _ _ T4 (mkF m 31 #[.val (.ref u_GREATER)] [(.ref u_NOT_EQUAL), (.ref u_GREATER)])
  refine Go.st (fun _ => Jvm.RoadKit.acmp (g := (mkF m 31 #[.val (.ref u_GREATER)] [(.ref u_NOT_EQUAL), (.ref u_GREATER)])) X4 hx rfl rfl rfl (pc0 := 31) (pc' := 36) (same := false) rfl (hb hby d3_31) rfl (decide_eq_false fun q => (Ne.symm ne_u_NOT_EQUAL_u_GREATER) (Value.ref.inj q)) (by decide) (by decide)) ?_
  show Go p e below s _ _ _ T4 (mkF m 36 #[.val (.ref u_GREATER)] [])
  refine Go.st (fun _ => XS.aloadN X4.here hx rfl (hb hby d3_36) rfl rfl) ?_
  show Go p e below s _ _ _ T4 (mkF m 37 #[.val (.ref u_GREATER)] [(.ref u_GREATER)])
  obtain ⟨T5, X5, e5, st5⟩ := getS2 X4 hx hZ hown (host := "") (Or.inl (hw _ (List.mem_of_getElem? (i := 24) rfl))) Via.refl e4 S_LESS (g := (mkF m 37 #[.val (.ref u_GREATER)] [(.ref u_GREATER)])) rfl (hb hby d3_37)
  refine Go.st st5 ?_
  show Go p e below s _ _ _ T5 (mkF m 40 #[.val (.ref u_GREATER)] [(.ref u_LESS), (.ref u_GREATER)])
  refine Go.st (fun _ => Jvm.RoadKit.acmp (g := (mkF m 40 #[.val (.ref u_GREATER)] [(.ref u_LESS), (.ref u_GREATER)])) X5 hx rfl rfl rfl (pc0 := 40) (pc' := 45) (same := false) rfl (hb hby d3_40) rfl (decide_eq_false fun q => (Ne.symm ne_u_LESS_u_GREATER) (Value.ref.inj q)) (by decide) (by decide)) ?_
  show Go p e below s _ _ _ T5 (mkF m 45 #[.val (.ref u_GREATER)] [])
  refine Go.st (fun _ => XS.aloadN X5.here hx rfl (hb hby d3_45) rfl rfl) ?_
  show Go p e below s _ _ _ T5 (mkF m 46 #[.val (.ref u_GREATER)] [(.ref u_GREATER)])
  obtain ⟨T6, X6, e6, st6⟩ := getS2 X5 hx hZ hown (host := "") (Or.inl (hw _ (List.mem_of_getElem? (i := 31) rfl))) Via.refl e5 S_LESS_OR_EQUAL (g := (mkF m 46 #[.val (.ref u_GREATER)] [(.ref u_GREATER)])) rfl (hb hby d3_46)
  refine Go.st st6 ?_
  show Go p e below s _ _ _ T6 (mkF m 49 #[.val (.ref u_GREATER)] [(.ref u_LESS_OR_EQUAL), (.ref u_GREATER)])
  refine Go.st (fun _ => Jvm.RoadKit.acmp (g := (mkF m 49 #[.val (.ref u_GREATER)] [(.ref u_LESS_OR_EQUAL), (.ref u_GREATER)])) X6 hx rfl rfl rfl (pc0 := 49) (pc' := 54) (same := false) rfl (hb hby d3_49) rfl (decide_eq_false fun q => (Ne.symm ne_u_LESS_OR_EQUAL_u_GREATER) (Value.ref.inj q)) (by decide) (by decide)) ?_
  show Go p e below s _ _ _ T6 (mkF m 54 #[.val (.ref u_GREATER)] [])
  refine Go.st (fun _ => XS.aloadN X6.here hx rfl (hb hby d3_54) rfl rfl) ?_
  show Go p e below s _ _ _ T6 (mkF m 55 #[.val (.ref u_GREATER)] [(.ref u_GREATER)])
  obtain ⟨T7, X7, e7, st7⟩ := getS2 X6 hx hZ hown (host := "") (Or.inl (hw _ (List.mem_of_getElem? (i := 32) rfl))) Via.refl e6 S_GREATER (g := (mkF m 55 #[.val (.ref u_GREATER)] [(.ref u_GREATER)])) rfl (hb hby d3_55)
  refine Go.st st7 ?_
  show Go p e below s _ _ _ T7 (mkF m 58 #[.val (.ref u_GREATER)] [(.ref u_GREATER), (.ref u_GREATER)])
  refine Go.st (fun _ => Jvm.RoadKit.acmp (g := (mkF m 58 #[.val (.ref u_GREATER)] [(.ref u_GREATER), (.ref u_GREATER)])) X7 hx rfl rfl rfl (pc0 := 58) (pc' := 61) (same := true) rfl (hb hby d3_58) rfl (decide_eq_true rfl) (by decide) (by decide)) ?_
  show Go p e below s _ _ _ T7 (mkF m 61 #[.val (.ref u_GREATER)] [])
  refine Go.st (fun _ => XS.bipush X7.here hx rfl (hb hby d3_61)) ?_
  show Go p e below s _ _ _ T7 (mkF m 63 #[.val (.ref u_GREATER)] [(.int (6 : Int32))])
  exact Go.retI X7 hx hlk Bd.returns (hb hby d3_63) (by rw [e7]; exact ⟨rfl, N0, rfl⟩) (by decide) (by decide)
theorem d1_63 : decode method_3_code 63 = .ok (.iload_n 0, 1) := by decide +kernel
theorem d1_64 : decode method_3_code 64 = .ok (.bipush 7, 2) := by decide +kernel
theorem d1_66 : decode method_3_code 66 = .ok (.if_icmp .ne 7, 3) := by decide +kernel
theorem d1_69 : decode method_3_code 69 = .ok (.getstatic 50, 3) := by decide +kernel
theorem d1_72 : decode method_3_code 72 = .ok (.areturn, 1) := by decide +kernel
theorem ef_rmP7 (m : MethodId)  : entryFrame m #[(.int (7 : Int32))] 1 = mkF m 0 #[.val (.int (7 : Int32))] [] := by first | (simp [entryFrame, mkF, argsToLocals, Value.category]; done) | rfl
def QrmP7 (Z : State) (u_GREATER_OR_EQUAL : Addr) (h0 : Heap) (n0 : Nat) (rV : Option Value) (hE : Heap) (LE : List Loc) : Prop := rV = some (.ref u_GREATER_OR_EQUAL) ∧ Fr n0 LE ∧ hE = h0
set_option maxRecDepth 65536 in
set_option maxHeartbeats 40000000 in
theorem rmP7 (l : Launch) (Z : State) (a0 : Array Value) (hw : ∀ d ∈ tables_1, d.before a0 Z = true) (ws : List Jvm.Cond) (u_GREATER_OR_EQUAL : Addr) (h0 : Heap) (n0 : Nat) (Z0 : n0 ≤ h0.size) (S_GREATER_OR_EQUAL : Sta Z h0 "com/example/moat/moat/xpath/Operation$Operator" "GREATER_OR_EQUAL" "Lcom/example/moat/moat/xpath/Operation$Operator;" (.ref u_GREATER_OR_EQUAL)) :
    MetFree l (⟨"com/example/moat/moat/xpath/OperatorFlippedPinLaw", "pick", "(I)Lcom/example/moat/moat/xpath/Operation$Operator;"⟩ : MethodName) (head1 (Jvm.Cond.code (⟨"com/example/moat/moat/xpath/OperatorFlippedPinLaw", "pick", "(I)Lcom/example/moat/moat/xpath/Operation$Operator;"⟩ : MethodName) method_3_code 1 (some (.object "com/example/moat/moat/xpath/Operation$Operator")) :: ws) ({ frames := 0, cells := 0, slots := 0, locals := 0 } : Room)) (fun aA UA => aA = #[(.int (7 : Int32))] ∧ Z.Warmed39 UA.vm ∧ UA.heap = h0) (fun _ _ _ _ _ => True) (fun _ UA oA UB => ∃ rV LE, oA = .returned rV ∧ QrmP7 Z u_GREATER_OR_EQUAL h0 n0 rV UB.heap LE ∧ FrameEnd UA oA UB LE ({ frames := 0, cells := 0, slots := 0, locals := 0 } : Room).cells ({ frames := 0, cells := 0, slots := 0, locals := 0 } : Room).slots) := by
  refine MetFree.of_bodySF (plainFor_of_name pn_0) hisR ?_
  intro p e s m args below meth c s₁ Bd hml0 hP hK
  obtain ⟨rfl, hZ, hh⟩ := hP
  have hx := Bd.exec
  have hby := Bd.bytes
  have hml : c.maxLocals = 1 := hml0
  have hown : s.vm.findClass "com/example/moat/moat/xpath/OperatorFlippedPinLaw" = some m.cls := findClass_of_methodNamed Bd.named
  have hnm := (name_of_methodNamed Bd.named Bd.method).1
  have hlk := Bd.notSynchronized
  have X0 : Stand p l e ({ frames := 0, cells := 0, slots := 0, locals := 0 } : Room) s m #[(.int (7 : Int32))] below meth c s₁ [] 0 0 := Stand.of_body Bd
  have e0 : s₁.heap = h0 := by rw [← hh, Bd.state]; rfl
  have N0 := Fr.nil n0
  show Go p e below s (QrmP7 Z u_GREATER_OR_EQUAL h0 n0) ({ frames := 0, cells := 0, slots := 0, locals := 0 } : Room).cells ({ frames := 0, cells := 0, slots := 0, locals := 0 } : Room).slots s₁ (entryFrame m #[(.int (7 : Int32))] 1)
  refine Go.eq (ef_rmP7 m ) ?_
  show Go p e below s _ _ _ s₁ (mkF m 0 #[.val (.int (7 : Int32))] [])
  refine Go.st (fun _ => XS.iloadN X0.here hx rfl (hb hby d1_0) rfl) ?_
  show Go p e below s _ _ _ s₁ (mkF m 1 #[.val (.int (7 : Int32))] [(.int (7 : Int32))])
  refine Go.st (fun _ => XS.ifYes X0.here hx rfl (pc0 := 1) (pc' := 8) rfl (hb hby d1_1) rfl ((if0 _ _).trans (feq (by decide : ¬ ((7 : Int32) = (0 : Int32)))).2) (by decide) (by decide)) ?_
  show Go p e below s _ _ _ s₁ (mkF m 8 #[.val (.int (7 : Int32))] [])
  refine Go.st (fun _ => XS.iloadN X0.here hx rfl (hb hby d1_8) rfl) ?_
  show Go p e below s _ _ _ s₁ (mkF m 9 #[.val (.int (7 : Int32))] [(.int (7 : Int32))])
  refine Go.st (fun _ => XS.iconst X0.here hx rfl (hb hby d1_9)) ?_
  show Go p e below s _ _ _ s₁ (mkF m 10 #[.val (.int (7 : Int32))] [(.int (1 : Int32)), (.int (7 : Int32))])
  refine Go.st (fun _ => XS.icmpYes X0.here hx rfl (pc0 := 10) (pc' := 17) rfl (hb hby d1_10) rfl (feq (by decide : ¬ ((7 : Int32) = (1 : Int32)))).2 (by decide) (by decide)) ?_
  show Go p e below s _ _ _ s₁ (mkF m 17 #[.val (.int (7 : Int32))] [])
  refine Go.st (fun _ => XS.iloadN X0.here hx rfl (hb hby d1_17) rfl) ?_
  show Go p e below s _ _ _ s₁ (mkF m 18 #[.val (.int (7 : Int32))] [(.int (7 : Int32))])
  refine Go.st (fun _ => XS.iconst X0.here hx rfl (hb hby d1_18)) ?_
  show Go p e below s _ _ _ s₁ (mkF m 19 #[.val (.int (7 : Int32))] [(.int (2 : Int32)), (.int (7 : Int32))])
  refine Go.st (fun _ => XS.icmpYes X0.here hx rfl (pc0 := 19) (pc' := 26) rfl (hb hby d1_19) rfl (feq (by decide : ¬ ((7 : Int32) = (2 : Int32)))).2 (by decide) (by decide)) ?_
  show Go p e below s _ _ _ s₁ (mkF m 26 #[.val (.int (7 : Int32))] [])
  refine Go.st (fun _ => XS.iloadN X0.here hx rfl (hb hby d1_26) rfl) ?_
  show Go p e below s _ _ _ s₁ (mkF m 27 #[.val (.int (7 : Int32))] [(.int (7 : Int32))])
  refine Go.st (fun _ => XS.iconst X0.here hx rfl (hb hby d1_27)) ?_
  show Go p e below s _ _ _ s₁ (mkF m 28 #[.val (.int (7 : Int32))] [(.int (3 : Int32)), (.int (7 : Int32))])
  refine Go.st (fun _ => XS.icmpYes X0.here hx rfl (pc0 := 28) (pc' := 35) rfl (hb hby d1_28) rfl (feq (by decide : ¬ ((7 : Int32) = (3 : Int32)))).2 (by decide) (by decide)) ?_
  show Go p e below s _ _ _ s₁ (mkF m 35 #[.val (.int (7 : Int32))] [])
  refine Go.st (fun _ => XS.iloadN X0.here hx rfl (hb hby d1_35) rfl) ?_
  show Go p e below s _ _ _ s₁ (mkF m 36 #[.val (.int (7 : Int32))] [(.int (7 : Int32))])
  refine Go.st (fun _ => XS.iconst X0.here hx rfl (hb hby d1_36)) ?_
  show Go p e below s _ _ _ s₁ (mkF m 37 #[.val (.int (7 : Int32))] [(.int (4 : Int32)), (.int (7 : Int32))])
  refine Go.st (fun _ => XS.icmpYes X0.here hx rfl (pc0 := 37) (pc' := 44) rfl (hb hby d1_37) rfl (feq (by decide : ¬ ((7 : Int32) = (4 : Int32)))).2 (by decide) (by decide)) ?_
  show Go p e below s _ _ _ s₁ (mkF m 44 #[.val (.int (7 : Int32))] [])
  refine Go.st (fun _ => XS.iloadN X0.here hx rfl (hb hby d1_44) rfl) ?_
  show Go p e below s _ _ _ s₁ (mkF m 45 #[.val (.int (7 : Int32))] [(.int (7 : Int32))])
  refine Go.st (fun _ => XS.iconst X0.here hx rfl (hb hby d1_45)) ?_
  show Go p e below s _ _ _ s₁ (mkF m 46 #[.val (.int (7 : Int32))] [(.int (5 : Int32)), (.int (7 : Int32))])
  refine Go.st (fun _ => XS.icmpYes X0.here hx rfl (pc0 := 46) (pc' := 53) rfl (hb hby d1_46) rfl (feq (by decide : ¬ ((7 : Int32) = (5 : Int32)))).2 (by decide) (by decide)) ?_
  show Go p e below s _ _ _ s₁ (mkF m 53 #[.val (.int (7 : Int32))] [])
  refine Go.st (fun _ => XS.iloadN X0.here hx rfl (hb hby d1_53) rfl) ?_
  show Go p e below s _ _ _ s₁ (mkF m 54 #[.val (.int (7 : Int32))] [(.int (7 : Int32))])
  refine Go.st (fun _ => XS.bipush X0.here hx rfl (hb hby d1_54)) ?_
  show Go p e below s _ _ _ s₁ (mkF m 56 #[.val (.int (7 : Int32))] [(.int (6 : Int32)), (.int (7 : Int32))])
  refine Go.st (fun _ => XS.icmpYes X0.here hx rfl (pc0 := 56) (pc' := 63) rfl (hb hby d1_56) rfl (feq (by decide : ¬ ((7 : Int32) = (6 : Int32)))).2 (by decide) (by decide)) ?_
  show Go p e below s _ _ _ s₁ (mkF m 63 #[.val (.int (7 : Int32))] [])
  refine Go.st (fun _ => XS.iloadN X0.here hx rfl (hb hby d1_63) rfl) ?_
  show Go p e below s _ _ _ s₁ (mkF m 64 #[.val (.int (7 : Int32))] [(.int (7 : Int32))])
  refine Go.st (fun _ => XS.bipush X0.here hx rfl (hb hby d1_64)) ?_
  show Go p e below s _ _ _ s₁ (mkF m 66 #[.val (.int (7 : Int32))] [(.int (7 : Int32)), (.int (7 : Int32))])
  refine Go.st (fun _ => XS.icmpNo X0.here hx rfl (hb hby d1_66) rfl (teq (by decide : (7 : Int32) = (7 : Int32))).2) ?_
  show Go p e below s _ _ _ s₁ (mkF m 69 #[.val (.int (7 : Int32))] [])
  obtain ⟨T1, X1, e1, st1⟩ := getS2 X0 hx hZ hown (host := "") (Or.inl (hw _ (List.mem_of_getElem? (i := 36) rfl))) Via.refl e0 S_GREATER_OR_EQUAL (g := (mkF m 69 #[.val (.int (7 : Int32))] [])) rfl (hb hby d1_69)
  refine Go.st st1 ?_
  show Go p e below s _ _ _ T1 (mkF m 72 #[.val (.int (7 : Int32))] [(.ref u_GREATER_OR_EQUAL)])
  exact Go.retA X1 hx hlk Bd.returns rfl rfl (hb hby d1_72) (by rw [e1]; exact ⟨rfl, N0, rfl⟩) (by decide) (by decide)
theorem d3_64 : decode method_4_code 64 = .ok (.aload_n 0, 1) := by decide +kernel
theorem d3_65 : decode method_4_code 65 = .ok (.getstatic 50, 3) := by decide +kernel
theorem d3_68 : decode method_4_code 68 = .ok (.if_acmp .ne 6, 3) := by decide +kernel
theorem d3_71 : decode method_4_code 71 = .ok (.bipush 7, 2) := by decide +kernel
theorem d3_73 : decode method_4_code 73 = .ok (.ireturn, 1) := by decide +kernel
theorem ef_rmX7 (m : MethodId) (u_GREATER_OR_EQUAL : Addr) : entryFrame m #[(.ref u_GREATER_OR_EQUAL)] 1 = mkF m 0 #[.val (.ref u_GREATER_OR_EQUAL)] [] := by first | (simp [entryFrame, mkF, argsToLocals, Value.category]; done) | rfl
def QrmX7 (Z : State) (u_GREATER_OR_EQUAL : Addr) (u_OR : Addr) (u_AND : Addr) (u_EQUAL : Addr) (u_NOT_EQUAL : Addr) (u_LESS : Addr) (u_LESS_OR_EQUAL : Addr) (u_GREATER : Addr) (h0 : Heap) (n0 : Nat) (rV : Option Value) (hE : Heap) (LE : List Loc) : Prop := rV = some (.int (7 : Int32)) ∧ Fr n0 LE ∧ hE = h0
set_option maxRecDepth 65536 in
set_option maxHeartbeats 40000000 in
theorem rmX7 (l : Launch) (Z : State) (a0 : Array Value) (hw : ∀ d ∈ tables_1, d.before a0 Z = true) (ws : List Jvm.Cond) (u_GREATER_OR_EQUAL : Addr) (u_OR : Addr) (u_AND : Addr) (u_EQUAL : Addr) (u_NOT_EQUAL : Addr) (u_LESS : Addr) (u_LESS_OR_EQUAL : Addr) (u_GREATER : Addr) (h0 : Heap) (n0 : Nat) (Z0 : n0 ≤ h0.size) (S_OR : Sta Z h0 "com/example/moat/moat/xpath/Operation$Operator" "OR" "Lcom/example/moat/moat/xpath/Operation$Operator;" (.ref u_OR)) (S_AND : Sta Z h0 "com/example/moat/moat/xpath/Operation$Operator" "AND" "Lcom/example/moat/moat/xpath/Operation$Operator;" (.ref u_AND)) (S_EQUAL : Sta Z h0 "com/example/moat/moat/xpath/Operation$Operator" "EQUAL" "Lcom/example/moat/moat/xpath/Operation$Operator;" (.ref u_EQUAL)) (S_NOT_EQUAL : Sta Z h0 "com/example/moat/moat/xpath/Operation$Operator" "NOT_EQUAL" "Lcom/example/moat/moat/xpath/Operation$Operator;" (.ref u_NOT_EQUAL)) (S_LESS : Sta Z h0 "com/example/moat/moat/xpath/Operation$Operator" "LESS" "Lcom/example/moat/moat/xpath/Operation$Operator;" (.ref u_LESS)) (S_LESS_OR_EQUAL : Sta Z h0 "com/example/moat/moat/xpath/Operation$Operator" "LESS_OR_EQUAL" "Lcom/example/moat/moat/xpath/Operation$Operator;" (.ref u_LESS_OR_EQUAL)) (S_GREATER : Sta Z h0 "com/example/moat/moat/xpath/Operation$Operator" "GREATER" "Lcom/example/moat/moat/xpath/Operation$Operator;" (.ref u_GREATER)) (S_GREATER_OR_EQUAL : Sta Z h0 "com/example/moat/moat/xpath/Operation$Operator" "GREATER_OR_EQUAL" "Lcom/example/moat/moat/xpath/Operation$Operator;" (.ref u_GREATER_OR_EQUAL)) (ne_u_OR_u_GREATER_OR_EQUAL : u_OR ≠ u_GREATER_OR_EQUAL) (ne_u_AND_u_GREATER_OR_EQUAL : u_AND ≠ u_GREATER_OR_EQUAL) (ne_u_EQUAL_u_GREATER_OR_EQUAL : u_EQUAL ≠ u_GREATER_OR_EQUAL) (ne_u_NOT_EQUAL_u_GREATER_OR_EQUAL : u_NOT_EQUAL ≠ u_GREATER_OR_EQUAL) (ne_u_LESS_u_GREATER_OR_EQUAL : u_LESS ≠ u_GREATER_OR_EQUAL) (ne_u_LESS_OR_EQUAL_u_GREATER_OR_EQUAL : u_LESS_OR_EQUAL ≠ u_GREATER_OR_EQUAL) (ne_u_GREATER_u_GREATER_OR_EQUAL : u_GREATER ≠ u_GREATER_OR_EQUAL) :
    MetFree l (⟨"com/example/moat/moat/xpath/OperatorFlippedPinLaw", "index", "(Lcom/example/moat/moat/xpath/Operation$Operator;)I"⟩ : MethodName) (head1 (Jvm.Cond.code (⟨"com/example/moat/moat/xpath/OperatorFlippedPinLaw", "index", "(Lcom/example/moat/moat/xpath/Operation$Operator;)I"⟩ : MethodName) method_4_code 1 (some .int) :: ws) ({ frames := 0, cells := 0, slots := 0, locals := 0 } : Room)) (fun aA UA => aA = #[(.ref u_GREATER_OR_EQUAL)] ∧ Z.Warmed39 UA.vm ∧ UA.heap = h0) (fun _ _ _ _ _ => True) (fun _ UA oA UB => ∃ rV LE, oA = .returned rV ∧ QrmX7 Z u_GREATER_OR_EQUAL u_OR u_AND u_EQUAL u_NOT_EQUAL u_LESS u_LESS_OR_EQUAL u_GREATER h0 n0 rV UB.heap LE ∧ FrameEnd UA oA UB LE ({ frames := 0, cells := 0, slots := 0, locals := 0 } : Room).cells ({ frames := 0, cells := 0, slots := 0, locals := 0 } : Room).slots) := by
  refine MetFree.of_bodySF (plainFor_of_name pn_0) hisR ?_
  intro p e s m args below meth c s₁ Bd hml0 hP hK
  obtain ⟨rfl, hZ, hh⟩ := hP
  have hx := Bd.exec
  have hby := Bd.bytes
  have hml : c.maxLocals = 1 := hml0
  have hown : s.vm.findClass "com/example/moat/moat/xpath/OperatorFlippedPinLaw" = some m.cls := findClass_of_methodNamed Bd.named
  have hnm := (name_of_methodNamed Bd.named Bd.method).1
  have hlk := Bd.notSynchronized
  have X0 : Stand p l e ({ frames := 0, cells := 0, slots := 0, locals := 0 } : Room) s m #[(.ref u_GREATER_OR_EQUAL)] below meth c s₁ [] 0 0 := Stand.of_body Bd
  have e0 : s₁.heap = h0 := by rw [← hh, Bd.state]; rfl
  have N0 := Fr.nil n0
  show Go p e below s (QrmX7 Z u_GREATER_OR_EQUAL u_OR u_AND u_EQUAL u_NOT_EQUAL u_LESS u_LESS_OR_EQUAL u_GREATER h0 n0) ({ frames := 0, cells := 0, slots := 0, locals := 0 } : Room).cells ({ frames := 0, cells := 0, slots := 0, locals := 0 } : Room).slots s₁ (entryFrame m #[(.ref u_GREATER_OR_EQUAL)] 1)
  refine Go.eq (ef_rmX7 m u_GREATER_OR_EQUAL) ?_
  show Go p e below s _ _ _ s₁ (mkF m 0 #[.val (.ref u_GREATER_OR_EQUAL)] [])
  refine Go.st (fun _ => XS.aloadN X0.here hx rfl (hb hby d3_0) rfl rfl) ?_
  show Go p e below s _ _ _ s₁ (mkF m 1 #[.val (.ref u_GREATER_OR_EQUAL)] [(.ref u_GREATER_OR_EQUAL)])
  obtain ⟨T1, X1, e1, st1⟩ := getS2 X0 hx hZ hown (host := "") (Or.inl (hw _ (List.mem_of_getElem? (i := 5) rfl))) Via.refl e0 S_OR (g := (mkF m 1 #[.val (.ref u_GREATER_OR_EQUAL)] [(.ref u_GREATER_OR_EQUAL)])) rfl (hb hby d3_1)
  refine Go.st st1 ?_
  show Go p e below s _ _ _ T1 (mkF m 4 #[.val (.ref u_GREATER_OR_EQUAL)] [(.ref u_OR), (.ref u_GREATER_OR_EQUAL)])
  refine Go.st (fun _ => Jvm.RoadKit.acmp (g := (mkF m 4 #[.val (.ref u_GREATER_OR_EQUAL)] [(.ref u_OR), (.ref u_GREATER_OR_EQUAL)])) X1 hx rfl rfl rfl (pc0 := 4) (pc' := 9) (same := false) rfl (hb hby d3_4) rfl (decide_eq_false fun q => (Ne.symm ne_u_OR_u_GREATER_OR_EQUAL) (Value.ref.inj q)) (by decide) (by decide)) ?_
  show Go p e below s _ _ _ T1 (mkF m 9 #[.val (.ref u_GREATER_OR_EQUAL)] [])
  refine Go.st (fun _ => XS.aloadN X1.here hx rfl (hb hby d3_9) rfl rfl) ?_
  show Go p e below s _ _ _ T1 (mkF m 10 #[.val (.ref u_GREATER_OR_EQUAL)] [(.ref u_GREATER_OR_EQUAL)])
  obtain ⟨T2, X2, e2, st2⟩ := getS2 X1 hx hZ hown (host := "") (Or.inl (hw _ (List.mem_of_getElem? (i := 25) rfl))) Via.refl e1 S_AND (g := (mkF m 10 #[.val (.ref u_GREATER_OR_EQUAL)] [(.ref u_GREATER_OR_EQUAL)])) rfl (hb hby d3_10)
  refine Go.st st2 ?_
  show Go p e below s _ _ _ T2 (mkF m 13 #[.val (.ref u_GREATER_OR_EQUAL)] [(.ref u_AND), (.ref u_GREATER_OR_EQUAL)])
  refine Go.st (fun _ => Jvm.RoadKit.acmp (g := (mkF m 13 #[.val (.ref u_GREATER_OR_EQUAL)] [(.ref u_AND), (.ref u_GREATER_OR_EQUAL)])) X2 hx rfl rfl rfl (pc0 := 13) (pc' := 18) (same := false) rfl (hb hby d3_13) rfl (decide_eq_false fun q => (Ne.symm ne_u_AND_u_GREATER_OR_EQUAL) (Value.ref.inj q)) (by decide) (by decide)) ?_
  show Go p e below s _ _ _ T2 (mkF m 18 #[.val (.ref u_GREATER_OR_EQUAL)] [])
  refine Go.st (fun _ => XS.aloadN X2.here hx rfl (hb hby d3_18) rfl rfl) ?_
  show Go p e below s _ _ _ T2 (mkF m 19 #[.val (.ref u_GREATER_OR_EQUAL)] [(.ref u_GREATER_OR_EQUAL)])
  obtain ⟨T3, X3, e3, st3⟩ := getS2 X2 hx hZ hown (host := "") (Or.inl (hw _ (List.mem_of_getElem? (i := 27) rfl))) Via.refl e2 S_EQUAL (g := (mkF m 19 #[.val (.ref u_GREATER_OR_EQUAL)] [(.ref u_GREATER_OR_EQUAL)])) rfl (hb hby d3_19)
  refine Go.st st3 ?_
  show Go p e below s _ _ _ T3 (mkF m 22 #[.val (.ref u_GREATER_OR_EQUAL)] [(.ref u_EQUAL), (.ref u_GREATER_OR_EQUAL)])
  refine Go.st (fun _ => Jvm.RoadKit.acmp (g := (mkF m 22 #[.val (.ref u_GREATER_OR_EQUAL)] [(.ref u_EQUAL), (.ref u_GREATER_OR_EQUAL)])) X3 hx rfl rfl rfl (pc0 := 22) (pc' := 27) (same := false) rfl (hb hby d3_22) rfl (decide_eq_false fun q => (Ne.symm ne_u_EQUAL_u_GREATER_OR_EQUAL) (Value.ref.inj q)) (by decide) (by decide)) ?_
  show Go p e below s _ _ _ T3 (mkF m 27 #[.val (.ref u_GREATER_OR_EQUAL)] [])
  refine Go.st (fun _ => XS.aloadN X3.here hx rfl (hb hby d3_27) rfl rfl) ?_
  show Go p e below s _ _ _ T3 (mkF m 28 #[.val (.ref u_GREATER_OR_EQUAL)] [(.ref u_GREATER_OR_EQUAL)])
  obtain ⟨T4, X4, e4, st4⟩ := getS2 X3 hx hZ hown (host := "") (Or.inl (hw _ (List.mem_of_getElem? (i := 29) rfl))) Via.refl e3 S_NOT_EQUAL (g := (mkF m 28 #[.val (.ref u_GREATER_OR_EQUAL)] [(.ref u_GREATER_OR_EQUAL)])) rfl (hb hby d3_28)
  refine Go.st st4 ?_
  show Go p e below s _ _ _ T4 (mkF m 31 #[.val (.ref u_GREATER_OR_EQUAL)] [(.ref u_NOT_EQUAL), (.ref u_GREATER_OR_EQUAL)])
  refine Go.st (fun _ => Jvm.RoadKit.acmp (g := (mkF m 31 #[.val (.ref u_GREATER_OR_EQUAL)] [(.ref u_NOT_EQUAL), (.ref u_GREATER_OR_EQUAL)])) X4 hx rfl rfl rfl (pc0 := 31) (pc' := 36) (same := false) rfl (hb hby d3_31) rfl (decide_eq_false fun q => (Ne.symm ne_u_NOT_EQUAL_u_GREATER_OR_EQUAL) (Value.ref.inj q)) (by decide) (by decide)) ?_
  show Go p e below s _ _ _ T4 (mkF m 36 #[.val (.ref u_GREATER_OR_EQUAL)] [])
  refine Go.st (fun _ => XS.aloadN X4.here hx rfl (hb hby d3_36) rfl rfl) ?_
  show Go p e below s _ _ _ T4 (mkF m 37 #[.val (.ref u_GREATER_OR_EQUAL)] [(.ref u_GREATER_OR_EQUAL)])
  obtain ⟨T5, X5, e5, st5⟩ := getS2 X4 hx hZ hown (host := "") (Or.inl (hw _ (List.mem_of_getElem? (i := 24) rfl))) Via.refl e4 S_LESS (g := (mkF m 37 #[.val (.ref u_GREATER_OR_EQUAL)] [(.ref u_GREATER_OR_EQUAL)])) rfl (hb hby d3_37)
  refine Go.st st5 ?_
  show Go p e below s _ _ _ T5 (mkF m 40 #[.val (.ref u_GREATER_OR_EQUAL)] [(.ref u_LESS), (.ref u_GREATER_OR_EQUAL)])
  refine Go.st (fun _ => Jvm.RoadKit.acmp (g := (mkF m 40 #[.val (.ref u_GREATER_OR_EQUAL)] [(.ref u_LESS), (.ref u_GREATER_OR_EQUAL)])) X5 hx rfl rfl rfl (pc0 := 40) (pc' := 45) (same := false) rfl (hb hby d3_40) rfl (decide_eq_false fun q => (Ne.symm ne_u_LESS_u_GREATER_OR_EQUAL) (Value.ref.inj q)) (by decide) (by decide)) ?_
  show Go p e below s _ _ _ T5 (mkF m 45 #[.val (.ref u_GREATER_OR_EQUAL)] [])
  refine Go.st (fun _ => XS.aloadN X5.here hx rfl (hb hby d3_45) rfl rfl) ?_
  show Go p e below s _ _ _ T5 (mkF m 46 #[.val (.ref u_GREATER_OR_EQUAL)] [(.ref u_GREATER_OR_EQUAL)])
  obtain ⟨T6, X6, e6, st6⟩ := getS2 X5 hx hZ hown (host := "") (Or.inl (hw _ (List.mem_of_getElem? (i := 31) rfl))) Via.refl e5 S_LESS_OR_EQUAL (g := (mkF m 46 #[.val (.ref u_GREATER_OR_EQUAL)] [(.ref u_GREATER_OR_EQUAL)])) rfl (hb hby d3_46)
  refine Go.st st6 ?_
  show Go p e below s _ _ _ T6 (mkF m 49 #[.val (.ref u_GREATER_OR_EQUAL)] [(.ref u_LESS_OR_EQUAL), (.ref u_GREATER_OR_EQUAL)])
  refine Go.st (fun _ => Jvm.RoadKit.acmp (g := (mkF m 49 #[.val (.ref u_GREATER_OR_EQUAL)] [(.ref u_LESS_OR_EQUAL), (.ref u_GREATER_OR_EQUAL)])) X6 hx rfl rfl rfl (pc0 := 49) (pc' := 54) (same := false) rfl (hb hby d3_49) rfl (decide_eq_false fun q => (Ne.symm ne_u_LESS_OR_EQUAL_u_GREATER_OR_EQUAL) (Value.ref.inj q)) (by decide) (by decide)) ?_
  show Go p e below s _ _ _ T6 (mkF m 54 #[.val (.ref u_GREATER_OR_EQUAL)] [])
  refine Go.st (fun _ => XS.aloadN X6.here hx rfl (hb hby d3_54) rfl rfl) ?_
  show Go p e below s _ _ _ T6 (mkF m 55 #[.val (.ref u_GREATER_OR_EQUAL)] [(.ref u_GREATER_OR_EQUAL)])
  obtain ⟨T7, X7, e7, st7⟩ := getS2 X6 hx hZ hown (host := "") (Or.inl (hw _ (List.mem_of_getElem? (i := 32) rfl))) Via.refl e6 S_GREATER (g := (mkF m 55 #[.val (.ref u_GREATER_OR_EQUAL)] [(.ref u_GREATER_OR_EQUAL)])) rfl (hb hby d3_55)
  refine Go.st st7 ?_
  show Go p e below s _ _ _ T7 (mkF m 58 #[.val (.ref u_GREATER_OR_EQUAL)] [(.ref u_GREATER), (.ref u_GREATER_OR_EQUAL)])
  refine Go.st (fun _ => Jvm.RoadKit.acmp (g := (mkF m 58 #[.val (.ref u_GREATER_OR_EQUAL)] [(.ref u_GREATER), (.ref u_GREATER_OR_EQUAL)])) X7 hx rfl rfl rfl (pc0 := 58) (pc' := 64) (same := false) rfl (hb hby d3_58) rfl (decide_eq_false fun q => (Ne.symm ne_u_GREATER_u_GREATER_OR_EQUAL) (Value.ref.inj q)) (by decide) (by decide)) ?_
  show Go p e below s _ _ _ T7 (mkF m 64 #[.val (.ref u_GREATER_OR_EQUAL)] [])
  refine Go.st (fun _ => XS.aloadN X7.here hx rfl (hb hby d3_64) rfl rfl) ?_
  show Go p e below s _ _ _ T7 (mkF m 65 #[.val (.ref u_GREATER_OR_EQUAL)] [(.ref u_GREATER_OR_EQUAL)])
  obtain ⟨T8, X8, e8, st8⟩ := getS2 X7 hx hZ hown (host := "") (Or.inl (hw _ (List.mem_of_getElem? (i := 36) rfl))) Via.refl e7 S_GREATER_OR_EQUAL (g := (mkF m 65 #[.val (.ref u_GREATER_OR_EQUAL)] [(.ref u_GREATER_OR_EQUAL)])) rfl (hb hby d3_65)
  refine Go.st st8 ?_
  show Go p e below s _ _ _ T8 (mkF m 68 #[.val (.ref u_GREATER_OR_EQUAL)] [(.ref u_GREATER_OR_EQUAL), (.ref u_GREATER_OR_EQUAL)])
  refine Go.st (fun _ => Jvm.RoadKit.acmp (g := (mkF m 68 #[.val (.ref u_GREATER_OR_EQUAL)] [(.ref u_GREATER_OR_EQUAL), (.ref u_GREATER_OR_EQUAL)])) X8 hx rfl rfl rfl (pc0 := 68) (pc' := 71) (same := true) rfl (hb hby d3_68) rfl (decide_eq_true rfl) (by decide) (by decide)) ?_
  show Go p e below s _ _ _ T8 (mkF m 71 #[.val (.ref u_GREATER_OR_EQUAL)] [])
  refine Go.st (fun _ => XS.bipush X8.here hx rfl (hb hby d3_71)) ?_
  show Go p e below s _ _ _ T8 (mkF m 73 #[.val (.ref u_GREATER_OR_EQUAL)] [(.int (7 : Int32))])
  exact Go.retI X8 hx hlk Bd.returns (hb hby d3_73) (by rw [e8]; exact ⟨rfl, N0, rfl⟩) (by decide) (by decide)
theorem d1_73 : decode method_3_code 73 = .ok (.iload_n 0, 1) := by decide +kernel
theorem d1_74 : decode method_3_code 74 = .ok (.bipush 8, 2) := by decide +kernel
theorem d1_76 : decode method_3_code 76 = .ok (.if_icmp .ne 7, 3) := by decide +kernel
theorem d1_79 : decode method_3_code 79 = .ok (.getstatic 53, 3) := by decide +kernel
theorem d1_82 : decode method_3_code 82 = .ok (.areturn, 1) := by decide +kernel
theorem ef_rmP8 (m : MethodId)  : entryFrame m #[(.int (8 : Int32))] 1 = mkF m 0 #[.val (.int (8 : Int32))] [] := by first | (simp [entryFrame, mkF, argsToLocals, Value.category]; done) | rfl
def QrmP8 (Z : State) (u_PLUS : Addr) (h0 : Heap) (n0 : Nat) (rV : Option Value) (hE : Heap) (LE : List Loc) : Prop := rV = some (.ref u_PLUS) ∧ Fr n0 LE ∧ hE = h0
set_option maxRecDepth 65536 in
set_option maxHeartbeats 40000000 in
theorem rmP8 (l : Launch) (Z : State) (a0 : Array Value) (hw : ∀ d ∈ tables_1, d.before a0 Z = true) (ws : List Jvm.Cond) (u_PLUS : Addr) (h0 : Heap) (n0 : Nat) (Z0 : n0 ≤ h0.size) (S_PLUS : Sta Z h0 "com/example/moat/moat/xpath/Operation$Operator" "PLUS" "Lcom/example/moat/moat/xpath/Operation$Operator;" (.ref u_PLUS)) :
    MetFree l (⟨"com/example/moat/moat/xpath/OperatorFlippedPinLaw", "pick", "(I)Lcom/example/moat/moat/xpath/Operation$Operator;"⟩ : MethodName) (head1 (Jvm.Cond.code (⟨"com/example/moat/moat/xpath/OperatorFlippedPinLaw", "pick", "(I)Lcom/example/moat/moat/xpath/Operation$Operator;"⟩ : MethodName) method_3_code 1 (some (.object "com/example/moat/moat/xpath/Operation$Operator")) :: ws) ({ frames := 0, cells := 0, slots := 0, locals := 0 } : Room)) (fun aA UA => aA = #[(.int (8 : Int32))] ∧ Z.Warmed39 UA.vm ∧ UA.heap = h0) (fun _ _ _ _ _ => True) (fun _ UA oA UB => ∃ rV LE, oA = .returned rV ∧ QrmP8 Z u_PLUS h0 n0 rV UB.heap LE ∧ FrameEnd UA oA UB LE ({ frames := 0, cells := 0, slots := 0, locals := 0 } : Room).cells ({ frames := 0, cells := 0, slots := 0, locals := 0 } : Room).slots) := by
  refine MetFree.of_bodySF (plainFor_of_name pn_0) hisR ?_
  intro p e s m args below meth c s₁ Bd hml0 hP hK
  obtain ⟨rfl, hZ, hh⟩ := hP
  have hx := Bd.exec
  have hby := Bd.bytes
  have hml : c.maxLocals = 1 := hml0
  have hown : s.vm.findClass "com/example/moat/moat/xpath/OperatorFlippedPinLaw" = some m.cls := findClass_of_methodNamed Bd.named
  have hnm := (name_of_methodNamed Bd.named Bd.method).1
  have hlk := Bd.notSynchronized
  have X0 : Stand p l e ({ frames := 0, cells := 0, slots := 0, locals := 0 } : Room) s m #[(.int (8 : Int32))] below meth c s₁ [] 0 0 := Stand.of_body Bd
  have e0 : s₁.heap = h0 := by rw [← hh, Bd.state]; rfl
  have N0 := Fr.nil n0
  show Go p e below s (QrmP8 Z u_PLUS h0 n0) ({ frames := 0, cells := 0, slots := 0, locals := 0 } : Room).cells ({ frames := 0, cells := 0, slots := 0, locals := 0 } : Room).slots s₁ (entryFrame m #[(.int (8 : Int32))] 1)
  refine Go.eq (ef_rmP8 m ) ?_
  show Go p e below s _ _ _ s₁ (mkF m 0 #[.val (.int (8 : Int32))] [])
  refine Go.st (fun _ => XS.iloadN X0.here hx rfl (hb hby d1_0) rfl) ?_
  show Go p e below s _ _ _ s₁ (mkF m 1 #[.val (.int (8 : Int32))] [(.int (8 : Int32))])
  refine Go.st (fun _ => XS.ifYes X0.here hx rfl (pc0 := 1) (pc' := 8) rfl (hb hby d1_1) rfl ((if0 _ _).trans (feq (by decide : ¬ ((8 : Int32) = (0 : Int32)))).2) (by decide) (by decide)) ?_
  show Go p e below s _ _ _ s₁ (mkF m 8 #[.val (.int (8 : Int32))] [])
  refine Go.st (fun _ => XS.iloadN X0.here hx rfl (hb hby d1_8) rfl) ?_
  show Go p e below s _ _ _ s₁ (mkF m 9 #[.val (.int (8 : Int32))] [(.int (8 : Int32))])
  refine Go.st (fun _ => XS.iconst X0.here hx rfl (hb hby d1_9)) ?_
  show Go p e below s _ _ _ s₁ (mkF m 10 #[.val (.int (8 : Int32))] [(.int (1 : Int32)), (.int (8 : Int32))])
  refine Go.st (fun _ => XS.icmpYes X0.here hx rfl (pc0 := 10) (pc' := 17) rfl (hb hby d1_10) rfl (feq (by decide : ¬ ((8 : Int32) = (1 : Int32)))).2 (by decide) (by decide)) ?_
  show Go p e below s _ _ _ s₁ (mkF m 17 #[.val (.int (8 : Int32))] [])
  refine Go.st (fun _ => XS.iloadN X0.here hx rfl (hb hby d1_17) rfl) ?_
  show Go p e below s _ _ _ s₁ (mkF m 18 #[.val (.int (8 : Int32))] [(.int (8 : Int32))])
  refine Go.st (fun _ => XS.iconst X0.here hx rfl (hb hby d1_18)) ?_
  show Go p e below s _ _ _ s₁ (mkF m 19 #[.val (.int (8 : Int32))] [(.int (2 : Int32)), (.int (8 : Int32))])
  refine Go.st (fun _ => XS.icmpYes X0.here hx rfl (pc0 := 19) (pc' := 26) rfl (hb hby d1_19) rfl (feq (by decide : ¬ ((8 : Int32) = (2 : Int32)))).2 (by decide) (by decide)) ?_
  show Go p e below s _ _ _ s₁ (mkF m 26 #[.val (.int (8 : Int32))] [])
  refine Go.st (fun _ => XS.iloadN X0.here hx rfl (hb hby d1_26) rfl) ?_
  show Go p e below s _ _ _ s₁ (mkF m 27 #[.val (.int (8 : Int32))] [(.int (8 : Int32))])
  refine Go.st (fun _ => XS.iconst X0.here hx rfl (hb hby d1_27)) ?_
  show Go p e below s _ _ _ s₁ (mkF m 28 #[.val (.int (8 : Int32))] [(.int (3 : Int32)), (.int (8 : Int32))])
  refine Go.st (fun _ => XS.icmpYes X0.here hx rfl (pc0 := 28) (pc' := 35) rfl (hb hby d1_28) rfl (feq (by decide : ¬ ((8 : Int32) = (3 : Int32)))).2 (by decide) (by decide)) ?_
  show Go p e below s _ _ _ s₁ (mkF m 35 #[.val (.int (8 : Int32))] [])
  refine Go.st (fun _ => XS.iloadN X0.here hx rfl (hb hby d1_35) rfl) ?_
  show Go p e below s _ _ _ s₁ (mkF m 36 #[.val (.int (8 : Int32))] [(.int (8 : Int32))])
  refine Go.st (fun _ => XS.iconst X0.here hx rfl (hb hby d1_36)) ?_
  show Go p e below s _ _ _ s₁ (mkF m 37 #[.val (.int (8 : Int32))] [(.int (4 : Int32)), (.int (8 : Int32))])
  refine Go.st (fun _ => XS.icmpYes X0.here hx rfl (pc0 := 37) (pc' := 44) rfl (hb hby d1_37) rfl (feq (by decide : ¬ ((8 : Int32) = (4 : Int32)))).2 (by decide) (by decide)) ?_
  show Go p e below s _ _ _ s₁ (mkF m 44 #[.val (.int (8 : Int32))] [])
  refine Go.st (fun _ => XS.iloadN X0.here hx rfl (hb hby d1_44) rfl) ?_
  show Go p e below s _ _ _ s₁ (mkF m 45 #[.val (.int (8 : Int32))] [(.int (8 : Int32))])
  refine Go.st (fun _ => XS.iconst X0.here hx rfl (hb hby d1_45)) ?_
  show Go p e below s _ _ _ s₁ (mkF m 46 #[.val (.int (8 : Int32))] [(.int (5 : Int32)), (.int (8 : Int32))])
  refine Go.st (fun _ => XS.icmpYes X0.here hx rfl (pc0 := 46) (pc' := 53) rfl (hb hby d1_46) rfl (feq (by decide : ¬ ((8 : Int32) = (5 : Int32)))).2 (by decide) (by decide)) ?_
  show Go p e below s _ _ _ s₁ (mkF m 53 #[.val (.int (8 : Int32))] [])
  refine Go.st (fun _ => XS.iloadN X0.here hx rfl (hb hby d1_53) rfl) ?_
  show Go p e below s _ _ _ s₁ (mkF m 54 #[.val (.int (8 : Int32))] [(.int (8 : Int32))])
  refine Go.st (fun _ => XS.bipush X0.here hx rfl (hb hby d1_54)) ?_
  show Go p e below s _ _ _ s₁ (mkF m 56 #[.val (.int (8 : Int32))] [(.int (6 : Int32)), (.int (8 : Int32))])
  refine Go.st (fun _ => XS.icmpYes X0.here hx rfl (pc0 := 56) (pc' := 63) rfl (hb hby d1_56) rfl (feq (by decide : ¬ ((8 : Int32) = (6 : Int32)))).2 (by decide) (by decide)) ?_
  show Go p e below s _ _ _ s₁ (mkF m 63 #[.val (.int (8 : Int32))] [])
  refine Go.st (fun _ => XS.iloadN X0.here hx rfl (hb hby d1_63) rfl) ?_
  show Go p e below s _ _ _ s₁ (mkF m 64 #[.val (.int (8 : Int32))] [(.int (8 : Int32))])
  refine Go.st (fun _ => XS.bipush X0.here hx rfl (hb hby d1_64)) ?_
  show Go p e below s _ _ _ s₁ (mkF m 66 #[.val (.int (8 : Int32))] [(.int (7 : Int32)), (.int (8 : Int32))])
  refine Go.st (fun _ => XS.icmpYes X0.here hx rfl (pc0 := 66) (pc' := 73) rfl (hb hby d1_66) rfl (feq (by decide : ¬ ((8 : Int32) = (7 : Int32)))).2 (by decide) (by decide)) ?_
  show Go p e below s _ _ _ s₁ (mkF m 73 #[.val (.int (8 : Int32))] [])
  refine Go.st (fun _ => XS.iloadN X0.here hx rfl (hb hby d1_73) rfl) ?_
  show Go p e below s _ _ _ s₁ (mkF m 74 #[.val (.int (8 : Int32))] [(.int (8 : Int32))])
  refine Go.st (fun _ => XS.bipush X0.here hx rfl (hb hby d1_74)) ?_
  show Go p e below s _ _ _ s₁ (mkF m 76 #[.val (.int (8 : Int32))] [(.int (8 : Int32)), (.int (8 : Int32))])
  refine Go.st (fun _ => XS.icmpNo X0.here hx rfl (hb hby d1_76) rfl (teq (by decide : (8 : Int32) = (8 : Int32))).2) ?_
  show Go p e below s _ _ _ s₁ (mkF m 79 #[.val (.int (8 : Int32))] [])
  obtain ⟨T1, X1, e1, st1⟩ := getS2 X0 hx hZ hown (host := "") (Or.inl (hw _ (List.mem_of_getElem? (i := 39) rfl))) Via.refl e0 S_PLUS (g := (mkF m 79 #[.val (.int (8 : Int32))] [])) rfl (hb hby d1_79)
  refine Go.st st1 ?_
  show Go p e below s _ _ _ T1 (mkF m 82 #[.val (.int (8 : Int32))] [(.ref u_PLUS)])
  exact Go.retA X1 hx hlk Bd.returns rfl rfl (hb hby d1_82) (by rw [e1]; exact ⟨rfl, N0, rfl⟩) (by decide) (by decide)
theorem d3_74 : decode method_4_code 74 = .ok (.aload_n 0, 1) := by decide +kernel
theorem d3_75 : decode method_4_code 75 = .ok (.getstatic 53, 3) := by decide +kernel
theorem d3_78 : decode method_4_code 78 = .ok (.if_acmp .ne 6, 3) := by decide +kernel
theorem d3_81 : decode method_4_code 81 = .ok (.bipush 8, 2) := by decide +kernel
theorem d3_83 : decode method_4_code 83 = .ok (.ireturn, 1) := by decide +kernel
theorem ef_rmX8 (m : MethodId) (u_PLUS : Addr) : entryFrame m #[(.ref u_PLUS)] 1 = mkF m 0 #[.val (.ref u_PLUS)] [] := by first | (simp [entryFrame, mkF, argsToLocals, Value.category]; done) | rfl
def QrmX8 (Z : State) (u_PLUS : Addr) (u_OR : Addr) (u_AND : Addr) (u_EQUAL : Addr) (u_NOT_EQUAL : Addr) (u_LESS : Addr) (u_LESS_OR_EQUAL : Addr) (u_GREATER : Addr) (u_GREATER_OR_EQUAL : Addr) (h0 : Heap) (n0 : Nat) (rV : Option Value) (hE : Heap) (LE : List Loc) : Prop := rV = some (.int (8 : Int32)) ∧ Fr n0 LE ∧ hE = h0
set_option maxRecDepth 65536 in
set_option maxHeartbeats 40000000 in
theorem rmX8 (l : Launch) (Z : State) (a0 : Array Value) (hw : ∀ d ∈ tables_1, d.before a0 Z = true) (ws : List Jvm.Cond) (u_PLUS : Addr) (u_OR : Addr) (u_AND : Addr) (u_EQUAL : Addr) (u_NOT_EQUAL : Addr) (u_LESS : Addr) (u_LESS_OR_EQUAL : Addr) (u_GREATER : Addr) (u_GREATER_OR_EQUAL : Addr) (h0 : Heap) (n0 : Nat) (Z0 : n0 ≤ h0.size) (S_OR : Sta Z h0 "com/example/moat/moat/xpath/Operation$Operator" "OR" "Lcom/example/moat/moat/xpath/Operation$Operator;" (.ref u_OR)) (S_AND : Sta Z h0 "com/example/moat/moat/xpath/Operation$Operator" "AND" "Lcom/example/moat/moat/xpath/Operation$Operator;" (.ref u_AND)) (S_EQUAL : Sta Z h0 "com/example/moat/moat/xpath/Operation$Operator" "EQUAL" "Lcom/example/moat/moat/xpath/Operation$Operator;" (.ref u_EQUAL)) (S_NOT_EQUAL : Sta Z h0 "com/example/moat/moat/xpath/Operation$Operator" "NOT_EQUAL" "Lcom/example/moat/moat/xpath/Operation$Operator;" (.ref u_NOT_EQUAL)) (S_LESS : Sta Z h0 "com/example/moat/moat/xpath/Operation$Operator" "LESS" "Lcom/example/moat/moat/xpath/Operation$Operator;" (.ref u_LESS)) (S_LESS_OR_EQUAL : Sta Z h0 "com/example/moat/moat/xpath/Operation$Operator" "LESS_OR_EQUAL" "Lcom/example/moat/moat/xpath/Operation$Operator;" (.ref u_LESS_OR_EQUAL)) (S_GREATER : Sta Z h0 "com/example/moat/moat/xpath/Operation$Operator" "GREATER" "Lcom/example/moat/moat/xpath/Operation$Operator;" (.ref u_GREATER)) (S_GREATER_OR_EQUAL : Sta Z h0 "com/example/moat/moat/xpath/Operation$Operator" "GREATER_OR_EQUAL" "Lcom/example/moat/moat/xpath/Operation$Operator;" (.ref u_GREATER_OR_EQUAL)) (S_PLUS : Sta Z h0 "com/example/moat/moat/xpath/Operation$Operator" "PLUS" "Lcom/example/moat/moat/xpath/Operation$Operator;" (.ref u_PLUS)) (ne_u_OR_u_PLUS : u_OR ≠ u_PLUS) (ne_u_AND_u_PLUS : u_AND ≠ u_PLUS) (ne_u_EQUAL_u_PLUS : u_EQUAL ≠ u_PLUS) (ne_u_NOT_EQUAL_u_PLUS : u_NOT_EQUAL ≠ u_PLUS) (ne_u_LESS_u_PLUS : u_LESS ≠ u_PLUS) (ne_u_LESS_OR_EQUAL_u_PLUS : u_LESS_OR_EQUAL ≠ u_PLUS) (ne_u_GREATER_u_PLUS : u_GREATER ≠ u_PLUS) (ne_u_GREATER_OR_EQUAL_u_PLUS : u_GREATER_OR_EQUAL ≠ u_PLUS) :
    MetFree l (⟨"com/example/moat/moat/xpath/OperatorFlippedPinLaw", "index", "(Lcom/example/moat/moat/xpath/Operation$Operator;)I"⟩ : MethodName) (head1 (Jvm.Cond.code (⟨"com/example/moat/moat/xpath/OperatorFlippedPinLaw", "index", "(Lcom/example/moat/moat/xpath/Operation$Operator;)I"⟩ : MethodName) method_4_code 1 (some .int) :: ws) ({ frames := 0, cells := 0, slots := 0, locals := 0 } : Room)) (fun aA UA => aA = #[(.ref u_PLUS)] ∧ Z.Warmed39 UA.vm ∧ UA.heap = h0) (fun _ _ _ _ _ => True) (fun _ UA oA UB => ∃ rV LE, oA = .returned rV ∧ QrmX8 Z u_PLUS u_OR u_AND u_EQUAL u_NOT_EQUAL u_LESS u_LESS_OR_EQUAL u_GREATER u_GREATER_OR_EQUAL h0 n0 rV UB.heap LE ∧ FrameEnd UA oA UB LE ({ frames := 0, cells := 0, slots := 0, locals := 0 } : Room).cells ({ frames := 0, cells := 0, slots := 0, locals := 0 } : Room).slots) := by
  refine MetFree.of_bodySF (plainFor_of_name pn_0) hisR ?_
  intro p e s m args below meth c s₁ Bd hml0 hP hK
  obtain ⟨rfl, hZ, hh⟩ := hP
  have hx := Bd.exec
  have hby := Bd.bytes
  have hml : c.maxLocals = 1 := hml0
  have hown : s.vm.findClass "com/example/moat/moat/xpath/OperatorFlippedPinLaw" = some m.cls := findClass_of_methodNamed Bd.named
  have hnm := (name_of_methodNamed Bd.named Bd.method).1
  have hlk := Bd.notSynchronized
  have X0 : Stand p l e ({ frames := 0, cells := 0, slots := 0, locals := 0 } : Room) s m #[(.ref u_PLUS)] below meth c s₁ [] 0 0 := Stand.of_body Bd
  have e0 : s₁.heap = h0 := by rw [← hh, Bd.state]; rfl
  have N0 := Fr.nil n0
  show Go p e below s (QrmX8 Z u_PLUS u_OR u_AND u_EQUAL u_NOT_EQUAL u_LESS u_LESS_OR_EQUAL u_GREATER u_GREATER_OR_EQUAL h0 n0) ({ frames := 0, cells := 0, slots := 0, locals := 0 } : Room).cells ({ frames := 0, cells := 0, slots := 0, locals := 0 } : Room).slots s₁ (entryFrame m #[(.ref u_PLUS)] 1)
  refine Go.eq (ef_rmX8 m u_PLUS) ?_
  show Go p e below s _ _ _ s₁ (mkF m 0 #[.val (.ref u_PLUS)] [])
  refine Go.st (fun _ => XS.aloadN X0.here hx rfl (hb hby d3_0) rfl rfl) ?_
  show Go p e below s _ _ _ s₁ (mkF m 1 #[.val (.ref u_PLUS)] [(.ref u_PLUS)])
  obtain ⟨T1, X1, e1, st1⟩ := getS2 X0 hx hZ hown (host := "") (Or.inl (hw _ (List.mem_of_getElem? (i := 5) rfl))) Via.refl e0 S_OR (g := (mkF m 1 #[.val (.ref u_PLUS)] [(.ref u_PLUS)])) rfl (hb hby d3_1)
  refine Go.st st1 ?_
  show Go p e below s _ _ _ T1 (mkF m 4 #[.val (.ref u_PLUS)] [(.ref u_OR), (.ref u_PLUS)])
  refine Go.st (fun _ => Jvm.RoadKit.acmp (g := (mkF m 4 #[.val (.ref u_PLUS)] [(.ref u_OR), (.ref u_PLUS)])) X1 hx rfl rfl rfl (pc0 := 4) (pc' := 9) (same := false) rfl (hb hby d3_4) rfl (decide_eq_false fun q => (Ne.symm ne_u_OR_u_PLUS) (Value.ref.inj q)) (by decide) (by decide)) ?_
  show Go p e below s _ _ _ T1 (mkF m 9 #[.val (.ref u_PLUS)] [])
  refine Go.st (fun _ => XS.aloadN X1.here hx rfl (hb hby d3_9) rfl rfl) ?_
  show Go p e below s _ _ _ T1 (mkF m 10 #[.val (.ref u_PLUS)] [(.ref u_PLUS)])
  obtain ⟨T2, X2, e2, st2⟩ := getS2 X1 hx hZ hown (host := "") (Or.inl (hw _ (List.mem_of_getElem? (i := 25) rfl))) Via.refl e1 S_AND (g := (mkF m 10 #[.val (.ref u_PLUS)] [(.ref u_PLUS)])) rfl (hb hby d3_10)
  refine Go.st st2 ?_
  show Go p e below s _ _ _ T2 (mkF m 13 #[.val (.ref u_PLUS)] [(.ref u_AND), (.ref u_PLUS)])
  refine Go.st (fun _ => Jvm.RoadKit.acmp (g := (mkF m 13 #[.val (.ref u_PLUS)] [(.ref u_AND), (.ref u_PLUS)])) X2 hx rfl rfl rfl (pc0 := 13) (pc' := 18) (same := false) rfl (hb hby d3_13) rfl (decide_eq_false fun q => (Ne.symm ne_u_AND_u_PLUS) (Value.ref.inj q)) (by decide) (by decide)) ?_
  show Go p e below s _ _ _ T2 (mkF m 18 #[.val (.ref u_PLUS)] [])
  refine Go.st (fun _ => XS.aloadN X2.here hx rfl (hb hby d3_18) rfl rfl) ?_
  show Go p e below s _ _ _ T2 (mkF m 19 #[.val (.ref u_PLUS)] [(.ref u_PLUS)])
  obtain ⟨T3, X3, e3, st3⟩ := getS2 X2 hx hZ hown (host := "") (Or.inl (hw _ (List.mem_of_getElem? (i := 27) rfl))) Via.refl e2 S_EQUAL (g := (mkF m 19 #[.val (.ref u_PLUS)] [(.ref u_PLUS)])) rfl (hb hby d3_19)
  refine Go.st st3 ?_
  show Go p e below s _ _ _ T3 (mkF m 22 #[.val (.ref u_PLUS)] [(.ref u_EQUAL), (.ref u_PLUS)])
  refine Go.st (fun _ => Jvm.RoadKit.acmp (g := (mkF m 22 #[.val (.ref u_PLUS)] [(.ref u_EQUAL), (.ref u_PLUS)])) X3 hx rfl rfl rfl (pc0 := 22) (pc' := 27) (same := false) rfl (hb hby d3_22) rfl (decide_eq_false fun q => (Ne.symm ne_u_EQUAL_u_PLUS) (Value.ref.inj q)) (by decide) (by decide)) ?_
  show Go p e below s _ _ _ T3 (mkF m 27 #[.val (.ref u_PLUS)] [])
  refine Go.st (fun _ => XS.aloadN X3.here hx rfl (hb hby d3_27) rfl rfl) ?_
  show Go p e below s _ _ _ T3 (mkF m 28 #[.val (.ref u_PLUS)] [(.ref u_PLUS)])
  obtain ⟨T4, X4, e4, st4⟩ := getS2 X3 hx hZ hown (host := "") (Or.inl (hw _ (List.mem_of_getElem? (i := 29) rfl))) Via.refl e3 S_NOT_EQUAL (g := (mkF m 28 #[.val (.ref u_PLUS)] [(.ref u_PLUS)])) rfl (hb hby d3_28)
  refine Go.st st4 ?_
  show Go p e below s _ _ _ T4 (mkF m 31 #[.val (.ref u_PLUS)] [(.ref u_NOT_EQUAL), (.ref u_PLUS)])
  refine Go.st (fun _ => Jvm.RoadKit.acmp (g := (mkF m 31 #[.val (.ref u_PLUS)] [(.ref u_NOT_EQUAL), (.ref u_PLUS)])) X4 hx rfl rfl rfl (pc0 := 31) (pc' := 36) (same := false) rfl (hb hby d3_31) rfl (decide_eq_false fun q => (Ne.symm ne_u_NOT_EQUAL_u_PLUS) (Value.ref.inj q)) (by decide) (by decide)) ?_
  show Go p e below s _ _ _ T4 (mkF m 36 #[.val (.ref u_PLUS)] [])
  refine Go.st (fun _ => XS.aloadN X4.here hx rfl (hb hby d3_36) rfl rfl) ?_
  show Go p e below s _ _ _ T4 (mkF m 37 #[.val (.ref u_PLUS)] [(.ref u_PLUS)])
  obtain ⟨T5, X5, e5, st5⟩ := getS2 X4 hx hZ hown (host := "") (Or.inl (hw _ (List.mem_of_getElem? (i := 24) rfl))) Via.refl e4 S_LESS (g := (mkF m 37 #[.val (.ref u_PLUS)] [(.ref u_PLUS)])) rfl (hb hby d3_37)
  refine Go.st st5 ?_
  show Go p e below s _ _ _ T5 (mkF m 40 #[.val (.ref u_PLUS)] [(.ref u_LESS), (.ref u_PLUS)])
  refine Go.st (fun _ => Jvm.RoadKit.acmp (g := (mkF m 40 #[.val (.ref u_PLUS)] [(.ref u_LESS), (.ref u_PLUS)])) X5 hx rfl rfl rfl (pc0 := 40) (pc' := 45) (same := false) rfl (hb hby d3_40) rfl (decide_eq_false fun q => (Ne.symm ne_u_LESS_u_PLUS) (Value.ref.inj q)) (by decide) (by decide)) ?_
  show Go p e below s _ _ _ T5 (mkF m 45 #[.val (.ref u_PLUS)] [])
  refine Go.st (fun _ => XS.aloadN X5.here hx rfl (hb hby d3_45) rfl rfl) ?_
  show Go p e below s _ _ _ T5 (mkF m 46 #[.val (.ref u_PLUS)] [(.ref u_PLUS)])
  obtain ⟨T6, X6, e6, st6⟩ := getS2 X5 hx hZ hown (host := "") (Or.inl (hw _ (List.mem_of_getElem? (i := 31) rfl))) Via.refl e5 S_LESS_OR_EQUAL (g := (mkF m 46 #[.val (.ref u_PLUS)] [(.ref u_PLUS)])) rfl (hb hby d3_46)
  refine Go.st st6 ?_
  show Go p e below s _ _ _ T6 (mkF m 49 #[.val (.ref u_PLUS)] [(.ref u_LESS_OR_EQUAL), (.ref u_PLUS)])
  refine Go.st (fun _ => Jvm.RoadKit.acmp (g := (mkF m 49 #[.val (.ref u_PLUS)] [(.ref u_LESS_OR_EQUAL), (.ref u_PLUS)])) X6 hx rfl rfl rfl (pc0 := 49) (pc' := 54) (same := false) rfl (hb hby d3_49) rfl (decide_eq_false fun q => (Ne.symm ne_u_LESS_OR_EQUAL_u_PLUS) (Value.ref.inj q)) (by decide) (by decide)) ?_
  show Go p e below s _ _ _ T6 (mkF m 54 #[.val (.ref u_PLUS)] [])
  refine Go.st (fun _ => XS.aloadN X6.here hx rfl (hb hby d3_54) rfl rfl) ?_
  show Go p e below s _ _ _ T6 (mkF m 55 #[.val (.ref u_PLUS)] [(.ref u_PLUS)])
  obtain ⟨T7, X7, e7, st7⟩ := getS2 X6 hx hZ hown (host := "") (Or.inl (hw _ (List.mem_of_getElem? (i := 32) rfl))) Via.refl e6 S_GREATER (g := (mkF m 55 #[.val (.ref u_PLUS)] [(.ref u_PLUS)])) rfl (hb hby d3_55)
  refine Go.st st7 ?_
  show Go p e below s _ _ _ T7 (mkF m 58 #[.val (.ref u_PLUS)] [(.ref u_GREATER), (.ref u_PLUS)])
  refine Go.st (fun _ => Jvm.RoadKit.acmp (g := (mkF m 58 #[.val (.ref u_PLUS)] [(.ref u_GREATER), (.ref u_PLUS)])) X7 hx rfl rfl rfl (pc0 := 58) (pc' := 64) (same := false) rfl (hb hby d3_58) rfl (decide_eq_false fun q => (Ne.symm ne_u_GREATER_u_PLUS) (Value.ref.inj q)) (by decide) (by decide)) ?_
  show Go p e below s _ _ _ T7 (mkF m 64 #[.val (.ref u_PLUS)] [])
  refine Go.st (fun _ => XS.aloadN X7.here hx rfl (hb hby d3_64) rfl rfl) ?_
  show Go p e below s _ _ _ T7 (mkF m 65 #[.val (.ref u_PLUS)] [(.ref u_PLUS)])
  obtain ⟨T8, X8, e8, st8⟩ := getS2 X7 hx hZ hown (host := "") (Or.inl (hw _ (List.mem_of_getElem? (i := 36) rfl))) Via.refl e7 S_GREATER_OR_EQUAL (g := (mkF m 65 #[.val (.ref u_PLUS)] [(.ref u_PLUS)])) rfl (hb hby d3_65)
  refine Go.st st8 ?_
  show Go p e below s _ _ _ T8 (mkF m 68 #[.val (.ref u_PLUS)] [(.ref u_GREATER_OR_EQUAL), (.ref u_PLUS)])
  refine Go.st (fun _ => Jvm.RoadKit.acmp (g := (mkF m 68 #[.val (.ref u_PLUS)] [(.ref u_GREATER_OR_EQUAL), (.ref u_PLUS)])) X8 hx rfl rfl rfl (pc0 := 68) (pc' := 74) (same := false) rfl (hb hby d3_68) rfl (decide_eq_false fun q => (Ne.symm ne_u_GREATER_OR_EQUAL_u_PLUS) (Value.ref.inj q)) (by decide) (by decide)) ?_
  show Go p e below s _ _ _ T8 (mkF m 74 #[.val (.ref u_PLUS)] [])
  refine Go.st (fun _ => XS.aloadN X8.here hx rfl (hb hby d3_74) rfl rfl) ?_
  show Go p e below s _ _ _ T8 (mkF m 75 #[.val (.ref u_PLUS)] [(.ref u_PLUS)])
  obtain ⟨T9, X9, e9, st9⟩ := getS2 X8 hx hZ hown (host := "") (Or.inl (hw _ (List.mem_of_getElem? (i := 39) rfl))) Via.refl e8 S_PLUS (g := (mkF m 75 #[.val (.ref u_PLUS)] [(.ref u_PLUS)])) rfl (hb hby d3_75)
  refine Go.st st9 ?_
  show Go p e below s _ _ _ T9 (mkF m 78 #[.val (.ref u_PLUS)] [(.ref u_PLUS), (.ref u_PLUS)])
  refine Go.st (fun _ => Jvm.RoadKit.acmp (g := (mkF m 78 #[.val (.ref u_PLUS)] [(.ref u_PLUS), (.ref u_PLUS)])) X9 hx rfl rfl rfl (pc0 := 78) (pc' := 81) (same := true) rfl (hb hby d3_78) rfl (decide_eq_true rfl) (by decide) (by decide)) ?_
  show Go p e below s _ _ _ T9 (mkF m 81 #[.val (.ref u_PLUS)] [])
  refine Go.st (fun _ => XS.bipush X9.here hx rfl (hb hby d3_81)) ?_
  show Go p e below s _ _ _ T9 (mkF m 83 #[.val (.ref u_PLUS)] [(.int (8 : Int32))])
  exact Go.retI X9 hx hlk Bd.returns (hb hby d3_83) (by rw [e9]; exact ⟨rfl, N0, rfl⟩) (by decide) (by decide)
theorem d1_83 : decode method_3_code 83 = .ok (.iload_n 0, 1) := by decide +kernel
theorem d1_84 : decode method_3_code 84 = .ok (.bipush 9, 2) := by decide +kernel
theorem d1_86 : decode method_3_code 86 = .ok (.if_icmp .ne 7, 3) := by decide +kernel
theorem d1_89 : decode method_3_code 89 = .ok (.getstatic 56, 3) := by decide +kernel
theorem d1_92 : decode method_3_code 92 = .ok (.areturn, 1) := by decide +kernel
theorem ef_rmP9 (m : MethodId)  : entryFrame m #[(.int (9 : Int32))] 1 = mkF m 0 #[.val (.int (9 : Int32))] [] := by first | (simp [entryFrame, mkF, argsToLocals, Value.category]; done) | rfl
def QrmP9 (Z : State) (u_MINUS : Addr) (h0 : Heap) (n0 : Nat) (rV : Option Value) (hE : Heap) (LE : List Loc) : Prop := rV = some (.ref u_MINUS) ∧ Fr n0 LE ∧ hE = h0
set_option maxRecDepth 65536 in
set_option maxHeartbeats 40000000 in
theorem rmP9 (l : Launch) (Z : State) (a0 : Array Value) (hw : ∀ d ∈ tables_1, d.before a0 Z = true) (ws : List Jvm.Cond) (u_MINUS : Addr) (h0 : Heap) (n0 : Nat) (Z0 : n0 ≤ h0.size) (S_MINUS : Sta Z h0 "com/example/moat/moat/xpath/Operation$Operator" "MINUS" "Lcom/example/moat/moat/xpath/Operation$Operator;" (.ref u_MINUS)) :
    MetFree l (⟨"com/example/moat/moat/xpath/OperatorFlippedPinLaw", "pick", "(I)Lcom/example/moat/moat/xpath/Operation$Operator;"⟩ : MethodName) (head1 (Jvm.Cond.code (⟨"com/example/moat/moat/xpath/OperatorFlippedPinLaw", "pick", "(I)Lcom/example/moat/moat/xpath/Operation$Operator;"⟩ : MethodName) method_3_code 1 (some (.object "com/example/moat/moat/xpath/Operation$Operator")) :: ws) ({ frames := 0, cells := 0, slots := 0, locals := 0 } : Room)) (fun aA UA => aA = #[(.int (9 : Int32))] ∧ Z.Warmed39 UA.vm ∧ UA.heap = h0) (fun _ _ _ _ _ => True) (fun _ UA oA UB => ∃ rV LE, oA = .returned rV ∧ QrmP9 Z u_MINUS h0 n0 rV UB.heap LE ∧ FrameEnd UA oA UB LE ({ frames := 0, cells := 0, slots := 0, locals := 0 } : Room).cells ({ frames := 0, cells := 0, slots := 0, locals := 0 } : Room).slots) := by
  refine MetFree.of_bodySF (plainFor_of_name pn_0) hisR ?_
  intro p e s m args below meth c s₁ Bd hml0 hP hK
  obtain ⟨rfl, hZ, hh⟩ := hP
  have hx := Bd.exec
  have hby := Bd.bytes
  have hml : c.maxLocals = 1 := hml0
  have hown : s.vm.findClass "com/example/moat/moat/xpath/OperatorFlippedPinLaw" = some m.cls := findClass_of_methodNamed Bd.named
  have hnm := (name_of_methodNamed Bd.named Bd.method).1
  have hlk := Bd.notSynchronized
  have X0 : Stand p l e ({ frames := 0, cells := 0, slots := 0, locals := 0 } : Room) s m #[(.int (9 : Int32))] below meth c s₁ [] 0 0 := Stand.of_body Bd
  have e0 : s₁.heap = h0 := by rw [← hh, Bd.state]; rfl
  have N0 := Fr.nil n0
  show Go p e below s (QrmP9 Z u_MINUS h0 n0) ({ frames := 0, cells := 0, slots := 0, locals := 0 } : Room).cells ({ frames := 0, cells := 0, slots := 0, locals := 0 } : Room).slots s₁ (entryFrame m #[(.int (9 : Int32))] 1)
  refine Go.eq (ef_rmP9 m ) ?_
  show Go p e below s _ _ _ s₁ (mkF m 0 #[.val (.int (9 : Int32))] [])
  refine Go.st (fun _ => XS.iloadN X0.here hx rfl (hb hby d1_0) rfl) ?_
  show Go p e below s _ _ _ s₁ (mkF m 1 #[.val (.int (9 : Int32))] [(.int (9 : Int32))])
  refine Go.st (fun _ => XS.ifYes X0.here hx rfl (pc0 := 1) (pc' := 8) rfl (hb hby d1_1) rfl ((if0 _ _).trans (feq (by decide : ¬ ((9 : Int32) = (0 : Int32)))).2) (by decide) (by decide)) ?_
  show Go p e below s _ _ _ s₁ (mkF m 8 #[.val (.int (9 : Int32))] [])
  refine Go.st (fun _ => XS.iloadN X0.here hx rfl (hb hby d1_8) rfl) ?_
  show Go p e below s _ _ _ s₁ (mkF m 9 #[.val (.int (9 : Int32))] [(.int (9 : Int32))])
  refine Go.st (fun _ => XS.iconst X0.here hx rfl (hb hby d1_9)) ?_
  show Go p e below s _ _ _ s₁ (mkF m 10 #[.val (.int (9 : Int32))] [(.int (1 : Int32)), (.int (9 : Int32))])
  refine Go.st (fun _ => XS.icmpYes X0.here hx rfl (pc0 := 10) (pc' := 17) rfl (hb hby d1_10) rfl (feq (by decide : ¬ ((9 : Int32) = (1 : Int32)))).2 (by decide) (by decide)) ?_
  show Go p e below s _ _ _ s₁ (mkF m 17 #[.val (.int (9 : Int32))] [])
  refine Go.st (fun _ => XS.iloadN X0.here hx rfl (hb hby d1_17) rfl) ?_
  show Go p e below s _ _ _ s₁ (mkF m 18 #[.val (.int (9 : Int32))] [(.int (9 : Int32))])
  refine Go.st (fun _ => XS.iconst X0.here hx rfl (hb hby d1_18)) ?_
  show Go p e below s _ _ _ s₁ (mkF m 19 #[.val (.int (9 : Int32))] [(.int (2 : Int32)), (.int (9 : Int32))])
  refine Go.st (fun _ => XS.icmpYes X0.here hx rfl (pc0 := 19) (pc' := 26) rfl (hb hby d1_19) rfl (feq (by decide : ¬ ((9 : Int32) = (2 : Int32)))).2 (by decide) (by decide)) ?_
  show Go p e below s _ _ _ s₁ (mkF m 26 #[.val (.int (9 : Int32))] [])
  refine Go.st (fun _ => XS.iloadN X0.here hx rfl (hb hby d1_26) rfl) ?_
  show Go p e below s _ _ _ s₁ (mkF m 27 #[.val (.int (9 : Int32))] [(.int (9 : Int32))])
  refine Go.st (fun _ => XS.iconst X0.here hx rfl (hb hby d1_27)) ?_
  show Go p e below s _ _ _ s₁ (mkF m 28 #[.val (.int (9 : Int32))] [(.int (3 : Int32)), (.int (9 : Int32))])
  refine Go.st (fun _ => XS.icmpYes X0.here hx rfl (pc0 := 28) (pc' := 35) rfl (hb hby d1_28) rfl (feq (by decide : ¬ ((9 : Int32) = (3 : Int32)))).2 (by decide) (by decide)) ?_
  show Go p e below s _ _ _ s₁ (mkF m 35 #[.val (.int (9 : Int32))] [])
  refine Go.st (fun _ => XS.iloadN X0.here hx rfl (hb hby d1_35) rfl) ?_
  show Go p e below s _ _ _ s₁ (mkF m 36 #[.val (.int (9 : Int32))] [(.int (9 : Int32))])
  refine Go.st (fun _ => XS.iconst X0.here hx rfl (hb hby d1_36)) ?_
  show Go p e below s _ _ _ s₁ (mkF m 37 #[.val (.int (9 : Int32))] [(.int (4 : Int32)), (.int (9 : Int32))])
  refine Go.st (fun _ => XS.icmpYes X0.here hx rfl (pc0 := 37) (pc' := 44) rfl (hb hby d1_37) rfl (feq (by decide : ¬ ((9 : Int32) = (4 : Int32)))).2 (by decide) (by decide)) ?_
  show Go p e below s _ _ _ s₁ (mkF m 44 #[.val (.int (9 : Int32))] [])
  refine Go.st (fun _ => XS.iloadN X0.here hx rfl (hb hby d1_44) rfl) ?_
  show Go p e below s _ _ _ s₁ (mkF m 45 #[.val (.int (9 : Int32))] [(.int (9 : Int32))])
  refine Go.st (fun _ => XS.iconst X0.here hx rfl (hb hby d1_45)) ?_
  show Go p e below s _ _ _ s₁ (mkF m 46 #[.val (.int (9 : Int32))] [(.int (5 : Int32)), (.int (9 : Int32))])
  refine Go.st (fun _ => XS.icmpYes X0.here hx rfl (pc0 := 46) (pc' := 53) rfl (hb hby d1_46) rfl (feq (by decide : ¬ ((9 : Int32) = (5 : Int32)))).2 (by decide) (by decide)) ?_
  show Go p e below s _ _ _ s₁ (mkF m 53 #[.val (.int (9 : Int32))] [])
  refine Go.st (fun _ => XS.iloadN X0.here hx rfl (hb hby d1_53) rfl) ?_
  show Go p e below s _ _ _ s₁ (mkF m 54 #[.val (.int (9 : Int32))] [(.int (9 : Int32))])
  refine Go.st (fun _ => XS.bipush X0.here hx rfl (hb hby d1_54)) ?_
  show Go p e below s _ _ _ s₁ (mkF m 56 #[.val (.int (9 : Int32))] [(.int (6 : Int32)), (.int (9 : Int32))])
  refine Go.st (fun _ => XS.icmpYes X0.here hx rfl (pc0 := 56) (pc' := 63) rfl (hb hby d1_56) rfl (feq (by decide : ¬ ((9 : Int32) = (6 : Int32)))).2 (by decide) (by decide)) ?_
  show Go p e below s _ _ _ s₁ (mkF m 63 #[.val (.int (9 : Int32))] [])
  refine Go.st (fun _ => XS.iloadN X0.here hx rfl (hb hby d1_63) rfl) ?_
  show Go p e below s _ _ _ s₁ (mkF m 64 #[.val (.int (9 : Int32))] [(.int (9 : Int32))])
  refine Go.st (fun _ => XS.bipush X0.here hx rfl (hb hby d1_64)) ?_
  show Go p e below s _ _ _ s₁ (mkF m 66 #[.val (.int (9 : Int32))] [(.int (7 : Int32)), (.int (9 : Int32))])
  refine Go.st (fun _ => XS.icmpYes X0.here hx rfl (pc0 := 66) (pc' := 73) rfl (hb hby d1_66) rfl (feq (by decide : ¬ ((9 : Int32) = (7 : Int32)))).2 (by decide) (by decide)) ?_
  show Go p e below s _ _ _ s₁ (mkF m 73 #[.val (.int (9 : Int32))] [])
  refine Go.st (fun _ => XS.iloadN X0.here hx rfl (hb hby d1_73) rfl) ?_
  show Go p e below s _ _ _ s₁ (mkF m 74 #[.val (.int (9 : Int32))] [(.int (9 : Int32))])
  refine Go.st (fun _ => XS.bipush X0.here hx rfl (hb hby d1_74)) ?_
  show Go p e below s _ _ _ s₁ (mkF m 76 #[.val (.int (9 : Int32))] [(.int (8 : Int32)), (.int (9 : Int32))])
  refine Go.st (fun _ => XS.icmpYes X0.here hx rfl (pc0 := 76) (pc' := 83) rfl (hb hby d1_76) rfl (feq (by decide : ¬ ((9 : Int32) = (8 : Int32)))).2 (by decide) (by decide)) ?_
  show Go p e below s _ _ _ s₁ (mkF m 83 #[.val (.int (9 : Int32))] [])
  refine Go.st (fun _ => XS.iloadN X0.here hx rfl (hb hby d1_83) rfl) ?_
  show Go p e below s _ _ _ s₁ (mkF m 84 #[.val (.int (9 : Int32))] [(.int (9 : Int32))])
  refine Go.st (fun _ => XS.bipush X0.here hx rfl (hb hby d1_84)) ?_
  show Go p e below s _ _ _ s₁ (mkF m 86 #[.val (.int (9 : Int32))] [(.int (9 : Int32)), (.int (9 : Int32))])
  refine Go.st (fun _ => XS.icmpNo X0.here hx rfl (hb hby d1_86) rfl (teq (by decide : (9 : Int32) = (9 : Int32))).2) ?_
  show Go p e below s _ _ _ s₁ (mkF m 89 #[.val (.int (9 : Int32))] [])
  obtain ⟨T1, X1, e1, st1⟩ := getS2 X0 hx hZ hown (host := "") (Or.inl (hw _ (List.mem_of_getElem? (i := 41) rfl))) Via.refl e0 S_MINUS (g := (mkF m 89 #[.val (.int (9 : Int32))] [])) rfl (hb hby d1_89)
  refine Go.st st1 ?_
  show Go p e below s _ _ _ T1 (mkF m 92 #[.val (.int (9 : Int32))] [(.ref u_MINUS)])
  exact Go.retA X1 hx hlk Bd.returns rfl rfl (hb hby d1_92) (by rw [e1]; exact ⟨rfl, N0, rfl⟩) (by decide) (by decide)
theorem d3_84 : decode method_4_code 84 = .ok (.aload_n 0, 1) := by decide +kernel
theorem d3_85 : decode method_4_code 85 = .ok (.getstatic 56, 3) := by decide +kernel
theorem d3_88 : decode method_4_code 88 = .ok (.if_acmp .ne 6, 3) := by decide +kernel
theorem d3_91 : decode method_4_code 91 = .ok (.bipush 9, 2) := by decide +kernel
theorem d3_93 : decode method_4_code 93 = .ok (.ireturn, 1) := by decide +kernel
theorem ef_rmX9 (m : MethodId) (u_MINUS : Addr) : entryFrame m #[(.ref u_MINUS)] 1 = mkF m 0 #[.val (.ref u_MINUS)] [] := by first | (simp [entryFrame, mkF, argsToLocals, Value.category]; done) | rfl
def QrmX9 (Z : State) (u_MINUS : Addr) (u_OR : Addr) (u_AND : Addr) (u_EQUAL : Addr) (u_NOT_EQUAL : Addr) (u_LESS : Addr) (u_LESS_OR_EQUAL : Addr) (u_GREATER : Addr) (u_GREATER_OR_EQUAL : Addr) (u_PLUS : Addr) (h0 : Heap) (n0 : Nat) (rV : Option Value) (hE : Heap) (LE : List Loc) : Prop := rV = some (.int (9 : Int32)) ∧ Fr n0 LE ∧ hE = h0
set_option maxRecDepth 65536 in
set_option maxHeartbeats 40000000 in
theorem rmX9 (l : Launch) (Z : State) (a0 : Array Value) (hw : ∀ d ∈ tables_1, d.before a0 Z = true) (ws : List Jvm.Cond) (u_MINUS : Addr) (u_OR : Addr) (u_AND : Addr) (u_EQUAL : Addr) (u_NOT_EQUAL : Addr) (u_LESS : Addr) (u_LESS_OR_EQUAL : Addr) (u_GREATER : Addr) (u_GREATER_OR_EQUAL : Addr) (u_PLUS : Addr) (h0 : Heap) (n0 : Nat) (Z0 : n0 ≤ h0.size) (S_OR : Sta Z h0 "com/example/moat/moat/xpath/Operation$Operator" "OR" "Lcom/example/moat/moat/xpath/Operation$Operator;" (.ref u_OR)) (S_AND : Sta Z h0 "com/example/moat/moat/xpath/Operation$Operator" "AND" "Lcom/example/moat/moat/xpath/Operation$Operator;" (.ref u_AND)) (S_EQUAL : Sta Z h0 "com/example/moat/moat/xpath/Operation$Operator" "EQUAL" "Lcom/example/moat/moat/xpath/Operation$Operator;" (.ref u_EQUAL)) (S_NOT_EQUAL : Sta Z h0 "com/example/moat/moat/xpath/Operation$Operator" "NOT_EQUAL" "Lcom/example/moat/moat/xpath/Operation$Operator;" (.ref u_NOT_EQUAL)) (S_LESS : Sta Z h0 "com/example/moat/moat/xpath/Operation$Operator" "LESS" "Lcom/example/moat/moat/xpath/Operation$Operator;" (.ref u_LESS)) (S_LESS_OR_EQUAL : Sta Z h0 "com/example/moat/moat/xpath/Operation$Operator" "LESS_OR_EQUAL" "Lcom/example/moat/moat/xpath/Operation$Operator;" (.ref u_LESS_OR_EQUAL)) (S_GREATER : Sta Z h0 "com/example/moat/moat/xpath/Operation$Operator" "GREATER" "Lcom/example/moat/moat/xpath/Operation$Operator;" (.ref u_GREATER)) (S_GREATER_OR_EQUAL : Sta Z h0 "com/example/moat/moat/xpath/Operation$Operator" "GREATER_OR_EQUAL" "Lcom/example/moat/moat/xpath/Operation$Operator;" (.ref u_GREATER_OR_EQUAL)) (S_PLUS : Sta Z h0 "com/example/moat/moat/xpath/Operation$Operator" "PLUS" "Lcom/example/moat/moat/xpath/Operation$Operator;" (.ref u_PLUS)) (S_MINUS : Sta Z h0 "com/example/moat/moat/xpath/Operation$Operator" "MINUS" "Lcom/example/moat/moat/xpath/Operation$Operator;" (.ref u_MINUS)) (ne_u_OR_u_MINUS : u_OR ≠ u_MINUS) (ne_u_AND_u_MINUS : u_AND ≠ u_MINUS) (ne_u_EQUAL_u_MINUS : u_EQUAL ≠ u_MINUS) (ne_u_NOT_EQUAL_u_MINUS : u_NOT_EQUAL ≠ u_MINUS) (ne_u_LESS_u_MINUS : u_LESS ≠ u_MINUS) (ne_u_LESS_OR_EQUAL_u_MINUS : u_LESS_OR_EQUAL ≠ u_MINUS) (ne_u_GREATER_u_MINUS : u_GREATER ≠ u_MINUS) (ne_u_GREATER_OR_EQUAL_u_MINUS : u_GREATER_OR_EQUAL ≠ u_MINUS) (ne_u_PLUS_u_MINUS : u_PLUS ≠ u_MINUS) :
    MetFree l (⟨"com/example/moat/moat/xpath/OperatorFlippedPinLaw", "index", "(Lcom/example/moat/moat/xpath/Operation$Operator;)I"⟩ : MethodName) (head1 (Jvm.Cond.code (⟨"com/example/moat/moat/xpath/OperatorFlippedPinLaw", "index", "(Lcom/example/moat/moat/xpath/Operation$Operator;)I"⟩ : MethodName) method_4_code 1 (some .int) :: ws) ({ frames := 0, cells := 0, slots := 0, locals := 0 } : Room)) (fun aA UA => aA = #[(.ref u_MINUS)] ∧ Z.Warmed39 UA.vm ∧ UA.heap = h0) (fun _ _ _ _ _ => True) (fun _ UA oA UB => ∃ rV LE, oA = .returned rV ∧ QrmX9 Z u_MINUS u_OR u_AND u_EQUAL u_NOT_EQUAL u_LESS u_LESS_OR_EQUAL u_GREATER u_GREATER_OR_EQUAL u_PLUS h0 n0 rV UB.heap LE ∧ FrameEnd UA oA UB LE ({ frames := 0, cells := 0, slots := 0, locals := 0 } : Room).cells ({ frames := 0, cells := 0, slots := 0, locals := 0 } : Room).slots) := by
  refine MetFree.of_bodySF (plainFor_of_name pn_0) hisR ?_
  intro p e s m args below meth c s₁ Bd hml0 hP hK
  obtain ⟨rfl, hZ, hh⟩ := hP
  have hx := Bd.exec
  have hby := Bd.bytes
  have hml : c.maxLocals = 1 := hml0
  have hown : s.vm.findClass "com/example/moat/moat/xpath/OperatorFlippedPinLaw" = some m.cls := findClass_of_methodNamed Bd.named
  have hnm := (name_of_methodNamed Bd.named Bd.method).1
  have hlk := Bd.notSynchronized
  have X0 : Stand p l e ({ frames := 0, cells := 0, slots := 0, locals := 0 } : Room) s m #[(.ref u_MINUS)] below meth c s₁ [] 0 0 := Stand.of_body Bd
  have e0 : s₁.heap = h0 := by rw [← hh, Bd.state]; rfl
  have N0 := Fr.nil n0
  show Go p e below s (QrmX9 Z u_MINUS u_OR u_AND u_EQUAL u_NOT_EQUAL u_LESS u_LESS_OR_EQUAL u_GREATER u_GREATER_OR_EQUAL u_PLUS h0 n0) ({ frames := 0, cells := 0, slots := 0, locals := 0 } : Room).cells ({ frames := 0, cells := 0, slots := 0, locals := 0 } : Room).slots s₁ (entryFrame m #[(.ref u_MINUS)] 1)
  refine Go.eq (ef_rmX9 m u_MINUS) ?_
  show Go p e below s _ _ _ s₁ (mkF m 0 #[.val (.ref u_MINUS)] [])
  refine Go.st (fun _ => XS.aloadN X0.here hx rfl (hb hby d3_0) rfl rfl) ?_
  show Go p e below s _ _ _ s₁ (mkF m 1 #[.val (.ref u_MINUS)] [(.ref u_MINUS)])
  obtain ⟨T1, X1, e1, st1⟩ := getS2 X0 hx hZ hown (host := "") (Or.inl (hw _ (List.mem_of_getElem? (i := 5) rfl))) Via.refl e0 S_OR (g := (mkF m 1 #[.val (.ref u_MINUS)] [(.ref u_MINUS)])) rfl (hb hby d3_1)
  refine Go.st st1 ?_
  show Go p e below s _ _ _ T1 (mkF m 4 #[.val (.ref u_MINUS)] [(.ref u_OR), (.ref u_MINUS)])
  refine Go.st (fun _ => Jvm.RoadKit.acmp (g := (mkF m 4 #[.val (.ref u_MINUS)] [(.ref u_OR), (.ref u_MINUS)])) X1 hx rfl rfl rfl (pc0 := 4) (pc' := 9) (same := false) rfl (hb hby d3_4) rfl (decide_eq_false fun q => (Ne.symm ne_u_OR_u_MINUS) (Value.ref.inj q)) (by decide) (by decide)) ?_
  show Go p e below s _ _ _ T1 (mkF m 9 #[.val (.ref u_MINUS)] [])
  refine Go.st (fun _ => XS.aloadN X1.here hx rfl (hb hby d3_9) rfl rfl) ?_
  show Go p e below s _ _ _ T1 (mkF m 10 #[.val (.ref u_MINUS)] [(.ref u_MINUS)])
  obtain ⟨T2, X2, e2, st2⟩ := getS2 X1 hx hZ hown (host := "") (Or.inl (hw _ (List.mem_of_getElem? (i := 25) rfl))) Via.refl e1 S_AND (g := (mkF m 10 #[.val (.ref u_MINUS)] [(.ref u_MINUS)])) rfl (hb hby d3_10)
  refine Go.st st2 ?_
  show Go p e below s _ _ _ T2 (mkF m 13 #[.val (.ref u_MINUS)] [(.ref u_AND), (.ref u_MINUS)])
  refine Go.st (fun _ => Jvm.RoadKit.acmp (g := (mkF m 13 #[.val (.ref u_MINUS)] [(.ref u_AND), (.ref u_MINUS)])) X2 hx rfl rfl rfl (pc0 := 13) (pc' := 18) (same := false) rfl (hb hby d3_13) rfl (decide_eq_false fun q => (Ne.symm ne_u_AND_u_MINUS) (Value.ref.inj q)) (by decide) (by decide)) ?_
  show Go p e below s _ _ _ T2 (mkF m 18 #[.val (.ref u_MINUS)] [])
  refine Go.st (fun _ => XS.aloadN X2.here hx rfl (hb hby d3_18) rfl rfl) ?_
  show Go p e below s _ _ _ T2 (mkF m 19 #[.val (.ref u_MINUS)] [(.ref u_MINUS)])
  obtain ⟨T3, X3, e3, st3⟩ := getS2 X2 hx hZ hown (host := "") (Or.inl (hw _ (List.mem_of_getElem? (i := 27) rfl))) Via.refl e2 S_EQUAL (g := (mkF m 19 #[.val (.ref u_MINUS)] [(.ref u_MINUS)])) rfl (hb hby d3_19)
  refine Go.st st3 ?_
  show Go p e below s _ _ _ T3 (mkF m 22 #[.val (.ref u_MINUS)] [(.ref u_EQUAL), (.ref u_MINUS)])
  refine Go.st (fun _ => Jvm.RoadKit.acmp (g := (mkF m 22 #[.val (.ref u_MINUS)] [(.ref u_EQUAL), (.ref u_MINUS)])) X3 hx rfl rfl rfl (pc0 := 22) (pc' := 27) (same := false) rfl (hb hby d3_22) rfl (decide_eq_false fun q => (Ne.symm ne_u_EQUAL_u_MINUS) (Value.ref.inj q)) (by decide) (by decide)) ?_
  show Go p e below s _ _ _ T3 (mkF m 27 #[.val (.ref u_MINUS)] [])
  refine Go.st (fun _ => XS.aloadN X3.here hx rfl (hb hby d3_27) rfl rfl) ?_
  show Go p e below s _ _ _ T3 (mkF m 28 #[.val (.ref u_MINUS)] [(.ref u_MINUS)])
  obtain ⟨T4, X4, e4, st4⟩ := getS2 X3 hx hZ hown (host := "") (Or.inl (hw _ (List.mem_of_getElem? (i := 29) rfl))) Via.refl e3 S_NOT_EQUAL (g := (mkF m 28 #[.val (.ref u_MINUS)] [(.ref u_MINUS)])) rfl (hb hby d3_28)
  refine Go.st st4 ?_
  show Go p e below s _ _ _ T4 (mkF m 31 #[.val (.ref u_MINUS)] [(.ref u_NOT_EQUAL), (.ref u_MINUS)])
  refine Go.st (fun _ => Jvm.RoadKit.acmp (g := (mkF m 31 #[.val (.ref u_MINUS)] [(.ref u_NOT_EQUAL), (.ref u_MINUS)])) X4 hx rfl rfl rfl (pc0 := 31) (pc' := 36) (same := false) rfl (hb hby d3_31) rfl (decide_eq_false fun q => (Ne.symm ne_u_NOT_EQUAL_u_MINUS) (Value.ref.inj q)) (by decide) (by decide)) ?_
  show Go p e below s _ _ _ T4 (mkF m 36 #[.val (.ref u_MINUS)] [])
  refine Go.st (fun _ => XS.aloadN X4.here hx rfl (hb hby d3_36) rfl rfl) ?_
  show Go p e below s _ _ _ T4 (mkF m 37 #[.val (.ref u_MINUS)] [(.ref u_MINUS)])
  obtain ⟨T5, X5, e5, st5⟩ := getS2 X4 hx hZ hown (host := "") (Or.inl (hw _ (List.mem_of_getElem? (i := 24) rfl))) Via.refl e4 S_LESS (g := (mkF m 37 #[.val (.ref u_MINUS)] [(.ref u_MINUS)])) rfl (hb hby d3_37)
  refine Go.st st5 ?_
  show Go p e below s _ _ _ T5 (mkF m 40 #[.val (.ref u_MINUS)] [(.ref u_LESS), (.ref u_MINUS)])
  refine Go.st (fun _ => Jvm.RoadKit.acmp (g := (mkF m 40 #[.val (.ref u_MINUS)] [(.ref u_LESS), (.ref u_MINUS)])) X5 hx rfl rfl rfl (pc0 := 40) (pc' := 45) (same := false) rfl (hb hby d3_40) rfl (decide_eq_false fun q => (Ne.symm ne_u_LESS_u_MINUS) (Value.ref.inj q)) (by decide) (by decide)) ?_
  show Go p e below s _ _ _ T5 (mkF m 45 #[.val (.ref u_MINUS)] [])
  refine Go.st (fun _ => XS.aloadN X5.here hx rfl (hb hby d3_45) rfl rfl) ?_
  show Go p e below s _ _ _ T5 (mkF m 46 #[.val (.ref u_MINUS)] [(.ref u_MINUS)])
  obtain ⟨T6, X6, e6, st6⟩ := getS2 X5 hx hZ hown (host := "") (Or.inl (hw _ (List.mem_of_getElem? (i := 31) rfl))) Via.refl e5 S_LESS_OR_EQUAL (g := (mkF m 46 #[.val (.ref u_MINUS)] [(.ref u_MINUS)])) rfl (hb hby d3_46)
  refine Go.st st6 ?_
  show Go p e below s _ _ _ T6 (mkF m 49 #[.val (.ref u_MINUS)] [(.ref u_LESS_OR_EQUAL), (.ref u_MINUS)])
  refine Go.st (fun _ => Jvm.RoadKit.acmp (g := (mkF m 49 #[.val (.ref u_MINUS)] [(.ref u_LESS_OR_EQUAL), (.ref u_MINUS)])) X6 hx rfl rfl rfl (pc0 := 49) (pc' := 54) (same := false) rfl (hb hby d3_49) rfl (decide_eq_false fun q => (Ne.symm ne_u_LESS_OR_EQUAL_u_MINUS) (Value.ref.inj q)) (by decide) (by decide)) ?_
  show Go p e below s _ _ _ T6 (mkF m 54 #[.val (.ref u_MINUS)] [])
  refine Go.st (fun _ => XS.aloadN X6.here hx rfl (hb hby d3_54) rfl rfl) ?_
  show Go p e below s _ _ _ T6 (mkF m 55 #[.val (.ref u_MINUS)] [(.ref u_MINUS)])
  obtain ⟨T7, X7, e7, st7⟩ := getS2 X6 hx hZ hown (host := "") (Or.inl (hw _ (List.mem_of_getElem? (i := 32) rfl))) Via.refl e6 S_GREATER (g := (mkF m 55 #[.val (.ref u_MINUS)] [(.ref u_MINUS)])) rfl (hb hby d3_55)
  refine Go.st st7 ?_
  show Go p e below s _ _ _ T7 (mkF m 58 #[.val (.ref u_MINUS)] [(.ref u_GREATER), (.ref u_MINUS)])
  refine Go.st (fun _ => Jvm.RoadKit.acmp (g := (mkF m 58 #[.val (.ref u_MINUS)] [(.ref u_GREATER), (.ref u_MINUS)])) X7 hx rfl rfl rfl (pc0 := 58) (pc' := 64) (same := false) rfl (hb hby d3_58) rfl (decide_eq_false fun q => (Ne.symm ne_u_GREATER_u_MINUS) (Value.ref.inj q)) (by decide) (by decide)) ?_
  show Go p e below s _ _ _ T7 (mkF m 64 #[.val (.ref u_MINUS)] [])
  refine Go.st (fun _ => XS.aloadN X7.here hx rfl (hb hby d3_64) rfl rfl) ?_
  show Go p e below s _ _ _ T7 (mkF m 65 #[.val (.ref u_MINUS)] [(.ref u_MINUS)])
  obtain ⟨T8, X8, e8, st8⟩ := getS2 X7 hx hZ hown (host := "") (Or.inl (hw _ (List.mem_of_getElem? (i := 36) rfl))) Via.refl e7 S_GREATER_OR_EQUAL (g := (mkF m 65 #[.val (.ref u_MINUS)] [(.ref u_MINUS)])) rfl (hb hby d3_65)
  refine Go.st st8 ?_
  show Go p e below s _ _ _ T8 (mkF m 68 #[.val (.ref u_MINUS)] [(.ref u_GREATER_OR_EQUAL), (.ref u_MINUS)])
  refine Go.st (fun _ => Jvm.RoadKit.acmp (g := (mkF m 68 #[.val (.ref u_MINUS)] [(.ref u_GREATER_OR_EQUAL), (.ref u_MINUS)])) X8 hx rfl rfl rfl (pc0 := 68) (pc' := 74) (same := false) rfl (hb hby d3_68) rfl (decide_eq_false fun q => (Ne.symm ne_u_GREATER_OR_EQUAL_u_MINUS) (Value.ref.inj q)) (by decide) (by decide)) ?_
  show Go p e below s _ _ _ T8 (mkF m 74 #[.val (.ref u_MINUS)] [])
  refine Go.st (fun _ => XS.aloadN X8.here hx rfl (hb hby d3_74) rfl rfl) ?_
  show Go p e below s _ _ _ T8 (mkF m 75 #[.val (.ref u_MINUS)] [(.ref u_MINUS)])
  obtain ⟨T9, X9, e9, st9⟩ := getS2 X8 hx hZ hown (host := "") (Or.inl (hw _ (List.mem_of_getElem? (i := 39) rfl))) Via.refl e8 S_PLUS (g := (mkF m 75 #[.val (.ref u_MINUS)] [(.ref u_MINUS)])) rfl (hb hby d3_75)
  refine Go.st st9 ?_
  show Go p e below s _ _ _ T9 (mkF m 78 #[.val (.ref u_MINUS)] [(.ref u_PLUS), (.ref u_MINUS)])
  refine Go.st (fun _ => Jvm.RoadKit.acmp (g := (mkF m 78 #[.val (.ref u_MINUS)] [(.ref u_PLUS), (.ref u_MINUS)])) X9 hx rfl rfl rfl (pc0 := 78) (pc' := 84) (same := false) rfl (hb hby d3_78) rfl (decide_eq_false fun q => (Ne.symm ne_u_PLUS_u_MINUS) (Value.ref.inj q)) (by decide) (by decide)) ?_
  show Go p e below s _ _ _ T9 (mkF m 84 #[.val (.ref u_MINUS)] [])
  refine Go.st (fun _ => XS.aloadN X9.here hx rfl (hb hby d3_84) rfl rfl) ?_
  show Go p e below s _ _ _ T9 (mkF m 85 #[.val (.ref u_MINUS)] [(.ref u_MINUS)])
  obtain ⟨T10, X10, e10, st10⟩ := getS2 X9 hx hZ hown (host := "") (Or.inl (hw _ (List.mem_of_getElem? (i := 41) rfl))) Via.refl e9 S_MINUS (g := (mkF m 85 #[.val (.ref u_MINUS)] [(.ref u_MINUS)])) rfl (hb hby d3_85)
  refine Go.st st10 ?_
  show Go p e below s _ _ _ T10 (mkF m 88 #[.val (.ref u_MINUS)] [(.ref u_MINUS), (.ref u_MINUS)])
  refine Go.st (fun _ => Jvm.RoadKit.acmp (g := (mkF m 88 #[.val (.ref u_MINUS)] [(.ref u_MINUS), (.ref u_MINUS)])) X10 hx rfl rfl rfl (pc0 := 88) (pc' := 91) (same := true) rfl (hb hby d3_88) rfl (decide_eq_true rfl) (by decide) (by decide)) ?_
  show Go p e below s _ _ _ T10 (mkF m 91 #[.val (.ref u_MINUS)] [])
  refine Go.st (fun _ => XS.bipush X10.here hx rfl (hb hby d3_91)) ?_
  show Go p e below s _ _ _ T10 (mkF m 93 #[.val (.ref u_MINUS)] [(.int (9 : Int32))])
  exact Go.retI X10 hx hlk Bd.returns (hb hby d3_93) (by rw [e10]; exact ⟨rfl, N0, rfl⟩) (by decide) (by decide)
theorem d1_93 : decode method_3_code 93 = .ok (.iload_n 0, 1) := by decide +kernel
theorem d1_94 : decode method_3_code 94 = .ok (.bipush 10, 2) := by decide +kernel
theorem d1_96 : decode method_3_code 96 = .ok (.if_icmp .ne 7, 3) := by decide +kernel
theorem d1_99 : decode method_3_code 99 = .ok (.getstatic 59, 3) := by decide +kernel
theorem d1_102 : decode method_3_code 102 = .ok (.areturn, 1) := by decide +kernel
theorem ef_rmP10 (m : MethodId)  : entryFrame m #[(.int (10 : Int32))] 1 = mkF m 0 #[.val (.int (10 : Int32))] [] := by first | (simp [entryFrame, mkF, argsToLocals, Value.category]; done) | rfl
def QrmP10 (Z : State) (u_MULTIPLY : Addr) (h0 : Heap) (n0 : Nat) (rV : Option Value) (hE : Heap) (LE : List Loc) : Prop := rV = some (.ref u_MULTIPLY) ∧ Fr n0 LE ∧ hE = h0
set_option maxRecDepth 65536 in
set_option maxHeartbeats 40000000 in
theorem rmP10 (l : Launch) (Z : State) (a0 : Array Value) (hw : ∀ d ∈ tables_1, d.before a0 Z = true) (ws : List Jvm.Cond) (u_MULTIPLY : Addr) (h0 : Heap) (n0 : Nat) (Z0 : n0 ≤ h0.size) (S_MULTIPLY : Sta Z h0 "com/example/moat/moat/xpath/Operation$Operator" "MULTIPLY" "Lcom/example/moat/moat/xpath/Operation$Operator;" (.ref u_MULTIPLY)) :
    MetFree l (⟨"com/example/moat/moat/xpath/OperatorFlippedPinLaw", "pick", "(I)Lcom/example/moat/moat/xpath/Operation$Operator;"⟩ : MethodName) (head1 (Jvm.Cond.code (⟨"com/example/moat/moat/xpath/OperatorFlippedPinLaw", "pick", "(I)Lcom/example/moat/moat/xpath/Operation$Operator;"⟩ : MethodName) method_3_code 1 (some (.object "com/example/moat/moat/xpath/Operation$Operator")) :: ws) ({ frames := 0, cells := 0, slots := 0, locals := 0 } : Room)) (fun aA UA => aA = #[(.int (10 : Int32))] ∧ Z.Warmed39 UA.vm ∧ UA.heap = h0) (fun _ _ _ _ _ => True) (fun _ UA oA UB => ∃ rV LE, oA = .returned rV ∧ QrmP10 Z u_MULTIPLY h0 n0 rV UB.heap LE ∧ FrameEnd UA oA UB LE ({ frames := 0, cells := 0, slots := 0, locals := 0 } : Room).cells ({ frames := 0, cells := 0, slots := 0, locals := 0 } : Room).slots) := by
  refine MetFree.of_bodySF (plainFor_of_name pn_0) hisR ?_
  intro p e s m args below meth c s₁ Bd hml0 hP hK
  obtain ⟨rfl, hZ, hh⟩ := hP
  have hx := Bd.exec
  have hby := Bd.bytes
  have hml : c.maxLocals = 1 := hml0
  have hown : s.vm.findClass "com/example/moat/moat/xpath/OperatorFlippedPinLaw" = some m.cls := findClass_of_methodNamed Bd.named
  have hnm := (name_of_methodNamed Bd.named Bd.method).1
  have hlk := Bd.notSynchronized
  have X0 : Stand p l e ({ frames := 0, cells := 0, slots := 0, locals := 0 } : Room) s m #[(.int (10 : Int32))] below meth c s₁ [] 0 0 := Stand.of_body Bd
  have e0 : s₁.heap = h0 := by rw [← hh, Bd.state]; rfl
  have N0 := Fr.nil n0
  show Go p e below s (QrmP10 Z u_MULTIPLY h0 n0) ({ frames := 0, cells := 0, slots := 0, locals := 0 } : Room).cells ({ frames := 0, cells := 0, slots := 0, locals := 0 } : Room).slots s₁ (entryFrame m #[(.int (10 : Int32))] 1)
  refine Go.eq (ef_rmP10 m ) ?_
  show Go p e below s _ _ _ s₁ (mkF m 0 #[.val (.int (10 : Int32))] [])
  refine Go.st (fun _ => XS.iloadN X0.here hx rfl (hb hby d1_0) rfl) ?_
  show Go p e below s _ _ _ s₁ (mkF m 1 #[.val (.int (10 : Int32))] [(.int (10 : Int32))])
  refine Go.st (fun _ => XS.ifYes X0.here hx rfl (pc0 := 1) (pc' := 8) rfl (hb hby d1_1) rfl ((if0 _ _).trans (feq (by decide : ¬ ((10 : Int32) = (0 : Int32)))).2) (by decide) (by decide)) ?_
  show Go p e below s _ _ _ s₁ (mkF m 8 #[.val (.int (10 : Int32))] [])
  refine Go.st (fun _ => XS.iloadN X0.here hx rfl (hb hby d1_8) rfl) ?_
  show Go p e below s _ _ _ s₁ (mkF m 9 #[.val (.int (10 : Int32))] [(.int (10 : Int32))])
  refine Go.st (fun _ => XS.iconst X0.here hx rfl (hb hby d1_9)) ?_
  show Go p e below s _ _ _ s₁ (mkF m 10 #[.val (.int (10 : Int32))] [(.int (1 : Int32)), (.int (10 : Int32))])
  refine Go.st (fun _ => XS.icmpYes X0.here hx rfl (pc0 := 10) (pc' := 17) rfl (hb hby d1_10) rfl (feq (by decide : ¬ ((10 : Int32) = (1 : Int32)))).2 (by decide) (by decide)) ?_
  show Go p e below s _ _ _ s₁ (mkF m 17 #[.val (.int (10 : Int32))] [])
  refine Go.st (fun _ => XS.iloadN X0.here hx rfl (hb hby d1_17) rfl) ?_
  show Go p e below s _ _ _ s₁ (mkF m 18 #[.val (.int (10 : Int32))] [(.int (10 : Int32))])
  refine Go.st (fun _ => XS.iconst X0.here hx rfl (hb hby d1_18)) ?_
  show Go p e below s _ _ _ s₁ (mkF m 19 #[.val (.int (10 : Int32))] [(.int (2 : Int32)), (.int (10 : Int32))])
  refine Go.st (fun _ => XS.icmpYes X0.here hx rfl (pc0 := 19) (pc' := 26) rfl (hb hby d1_19) rfl (feq (by decide : ¬ ((10 : Int32) = (2 : Int32)))).2 (by decide) (by decide)) ?_
  show Go p e below s _ _ _ s₁ (mkF m 26 #[.val (.int (10 : Int32))] [])
  refine Go.st (fun _ => XS.iloadN X0.here hx rfl (hb hby d1_26) rfl) ?_
  show Go p e below s _ _ _ s₁ (mkF m 27 #[.val (.int (10 : Int32))] [(.int (10 : Int32))])
  refine Go.st (fun _ => XS.iconst X0.here hx rfl (hb hby d1_27)) ?_
  show Go p e below s _ _ _ s₁ (mkF m 28 #[.val (.int (10 : Int32))] [(.int (3 : Int32)), (.int (10 : Int32))])
  refine Go.st (fun _ => XS.icmpYes X0.here hx rfl (pc0 := 28) (pc' := 35) rfl (hb hby d1_28) rfl (feq (by decide : ¬ ((10 : Int32) = (3 : Int32)))).2 (by decide) (by decide)) ?_
  show Go p e below s _ _ _ s₁ (mkF m 35 #[.val (.int (10 : Int32))] [])
  refine Go.st (fun _ => XS.iloadN X0.here hx rfl (hb hby d1_35) rfl) ?_
  show Go p e below s _ _ _ s₁ (mkF m 36 #[.val (.int (10 : Int32))] [(.int (10 : Int32))])
  refine Go.st (fun _ => XS.iconst X0.here hx rfl (hb hby d1_36)) ?_
  show Go p e below s _ _ _ s₁ (mkF m 37 #[.val (.int (10 : Int32))] [(.int (4 : Int32)), (.int (10 : Int32))])
  refine Go.st (fun _ => XS.icmpYes X0.here hx rfl (pc0 := 37) (pc' := 44) rfl (hb hby d1_37) rfl (feq (by decide : ¬ ((10 : Int32) = (4 : Int32)))).2 (by decide) (by decide)) ?_
  show Go p e below s _ _ _ s₁ (mkF m 44 #[.val (.int (10 : Int32))] [])
  refine Go.st (fun _ => XS.iloadN X0.here hx rfl (hb hby d1_44) rfl) ?_
  show Go p e below s _ _ _ s₁ (mkF m 45 #[.val (.int (10 : Int32))] [(.int (10 : Int32))])
  refine Go.st (fun _ => XS.iconst X0.here hx rfl (hb hby d1_45)) ?_
  show Go p e below s _ _ _ s₁ (mkF m 46 #[.val (.int (10 : Int32))] [(.int (5 : Int32)), (.int (10 : Int32))])
  refine Go.st (fun _ => XS.icmpYes X0.here hx rfl (pc0 := 46) (pc' := 53) rfl (hb hby d1_46) rfl (feq (by decide : ¬ ((10 : Int32) = (5 : Int32)))).2 (by decide) (by decide)) ?_
  show Go p e below s _ _ _ s₁ (mkF m 53 #[.val (.int (10 : Int32))] [])
  refine Go.st (fun _ => XS.iloadN X0.here hx rfl (hb hby d1_53) rfl) ?_
  show Go p e below s _ _ _ s₁ (mkF m 54 #[.val (.int (10 : Int32))] [(.int (10 : Int32))])
  refine Go.st (fun _ => XS.bipush X0.here hx rfl (hb hby d1_54)) ?_
  show Go p e below s _ _ _ s₁ (mkF m 56 #[.val (.int (10 : Int32))] [(.int (6 : Int32)), (.int (10 : Int32))])
  refine Go.st (fun _ => XS.icmpYes X0.here hx rfl (pc0 := 56) (pc' := 63) rfl (hb hby d1_56) rfl (feq (by decide : ¬ ((10 : Int32) = (6 : Int32)))).2 (by decide) (by decide)) ?_
  show Go p e below s _ _ _ s₁ (mkF m 63 #[.val (.int (10 : Int32))] [])
  refine Go.st (fun _ => XS.iloadN X0.here hx rfl (hb hby d1_63) rfl) ?_
  show Go p e below s _ _ _ s₁ (mkF m 64 #[.val (.int (10 : Int32))] [(.int (10 : Int32))])
  refine Go.st (fun _ => XS.bipush X0.here hx rfl (hb hby d1_64)) ?_
  show Go p e below s _ _ _ s₁ (mkF m 66 #[.val (.int (10 : Int32))] [(.int (7 : Int32)), (.int (10 : Int32))])
  refine Go.st (fun _ => XS.icmpYes X0.here hx rfl (pc0 := 66) (pc' := 73) rfl (hb hby d1_66) rfl (feq (by decide : ¬ ((10 : Int32) = (7 : Int32)))).2 (by decide) (by decide)) ?_
  show Go p e below s _ _ _ s₁ (mkF m 73 #[.val (.int (10 : Int32))] [])
  refine Go.st (fun _ => XS.iloadN X0.here hx rfl (hb hby d1_73) rfl) ?_
  show Go p e below s _ _ _ s₁ (mkF m 74 #[.val (.int (10 : Int32))] [(.int (10 : Int32))])
  refine Go.st (fun _ => XS.bipush X0.here hx rfl (hb hby d1_74)) ?_
  show Go p e below s _ _ _ s₁ (mkF m 76 #[.val (.int (10 : Int32))] [(.int (8 : Int32)), (.int (10 : Int32))])
  refine Go.st (fun _ => XS.icmpYes X0.here hx rfl (pc0 := 76) (pc' := 83) rfl (hb hby d1_76) rfl (feq (by decide : ¬ ((10 : Int32) = (8 : Int32)))).2 (by decide) (by decide)) ?_
  show Go p e below s _ _ _ s₁ (mkF m 83 #[.val (.int (10 : Int32))] [])
  refine Go.st (fun _ => XS.iloadN X0.here hx rfl (hb hby d1_83) rfl) ?_
  show Go p e below s _ _ _ s₁ (mkF m 84 #[.val (.int (10 : Int32))] [(.int (10 : Int32))])
  refine Go.st (fun _ => XS.bipush X0.here hx rfl (hb hby d1_84)) ?_
  show Go p e below s _ _ _ s₁ (mkF m 86 #[.val (.int (10 : Int32))] [(.int (9 : Int32)), (.int (10 : Int32))])
  refine Go.st (fun _ => XS.icmpYes X0.here hx rfl (pc0 := 86) (pc' := 93) rfl (hb hby d1_86) rfl (feq (by decide : ¬ ((10 : Int32) = (9 : Int32)))).2 (by decide) (by decide)) ?_
  show Go p e below s _ _ _ s₁ (mkF m 93 #[.val (.int (10 : Int32))] [])
  refine Go.st (fun _ => XS.iloadN X0.here hx rfl (hb hby d1_93) rfl) ?_
  show Go p e below s _ _ _ s₁ (mkF m 94 #[.val (.int (10 : Int32))] [(.int (10 : Int32))])
  refine Go.st (fun _ => XS.bipush X0.here hx rfl (hb hby d1_94)) ?_
  show Go p e below s _ _ _ s₁ (mkF m 96 #[.val (.int (10 : Int32))] [(.int (10 : Int32)), (.int (10 : Int32))])
  refine Go.st (fun _ => XS.icmpNo X0.here hx rfl (hb hby d1_96) rfl (teq (by decide : (10 : Int32) = (10 : Int32))).2) ?_
  show Go p e below s _ _ _ s₁ (mkF m 99 #[.val (.int (10 : Int32))] [])
  obtain ⟨T1, X1, e1, st1⟩ := getS2 X0 hx hZ hown (host := "") (Or.inl (hw _ (List.mem_of_getElem? (i := 37) rfl))) Via.refl e0 S_MULTIPLY (g := (mkF m 99 #[.val (.int (10 : Int32))] [])) rfl (hb hby d1_99)
  refine Go.st st1 ?_
  show Go p e below s _ _ _ T1 (mkF m 102 #[.val (.int (10 : Int32))] [(.ref u_MULTIPLY)])
  exact Go.retA X1 hx hlk Bd.returns rfl rfl (hb hby d1_102) (by rw [e1]; exact ⟨rfl, N0, rfl⟩) (by decide) (by decide)
theorem d3_94 : decode method_4_code 94 = .ok (.aload_n 0, 1) := by decide +kernel
theorem d3_95 : decode method_4_code 95 = .ok (.getstatic 59, 3) := by decide +kernel
theorem d3_98 : decode method_4_code 98 = .ok (.if_acmp .ne 6, 3) := by decide +kernel
theorem d3_101 : decode method_4_code 101 = .ok (.bipush 10, 2) := by decide +kernel
theorem d3_103 : decode method_4_code 103 = .ok (.ireturn, 1) := by decide +kernel
theorem ef_rmX10 (m : MethodId) (u_MULTIPLY : Addr) : entryFrame m #[(.ref u_MULTIPLY)] 1 = mkF m 0 #[.val (.ref u_MULTIPLY)] [] := by first | (simp [entryFrame, mkF, argsToLocals, Value.category]; done) | rfl
def QrmX10 (Z : State) (u_MULTIPLY : Addr) (u_OR : Addr) (u_AND : Addr) (u_EQUAL : Addr) (u_NOT_EQUAL : Addr) (u_LESS : Addr) (u_LESS_OR_EQUAL : Addr) (u_GREATER : Addr) (u_GREATER_OR_EQUAL : Addr) (u_PLUS : Addr) (u_MINUS : Addr) (h0 : Heap) (n0 : Nat) (rV : Option Value) (hE : Heap) (LE : List Loc) : Prop := rV = some (.int (10 : Int32)) ∧ Fr n0 LE ∧ hE = h0
set_option maxRecDepth 65536 in
set_option maxHeartbeats 40000000 in
theorem rmX10 (l : Launch) (Z : State) (a0 : Array Value) (hw : ∀ d ∈ tables_1, d.before a0 Z = true) (ws : List Jvm.Cond) (u_MULTIPLY : Addr) (u_OR : Addr) (u_AND : Addr) (u_EQUAL : Addr) (u_NOT_EQUAL : Addr) (u_LESS : Addr) (u_LESS_OR_EQUAL : Addr) (u_GREATER : Addr) (u_GREATER_OR_EQUAL : Addr) (u_PLUS : Addr) (u_MINUS : Addr) (h0 : Heap) (n0 : Nat) (Z0 : n0 ≤ h0.size) (S_OR : Sta Z h0 "com/example/moat/moat/xpath/Operation$Operator" "OR" "Lcom/example/moat/moat/xpath/Operation$Operator;" (.ref u_OR)) (S_AND : Sta Z h0 "com/example/moat/moat/xpath/Operation$Operator" "AND" "Lcom/example/moat/moat/xpath/Operation$Operator;" (.ref u_AND)) (S_EQUAL : Sta Z h0 "com/example/moat/moat/xpath/Operation$Operator" "EQUAL" "Lcom/example/moat/moat/xpath/Operation$Operator;" (.ref u_EQUAL)) (S_NOT_EQUAL : Sta Z h0 "com/example/moat/moat/xpath/Operation$Operator" "NOT_EQUAL" "Lcom/example/moat/moat/xpath/Operation$Operator;" (.ref u_NOT_EQUAL)) (S_LESS : Sta Z h0 "com/example/moat/moat/xpath/Operation$Operator" "LESS" "Lcom/example/moat/moat/xpath/Operation$Operator;" (.ref u_LESS)) (S_LESS_OR_EQUAL : Sta Z h0 "com/example/moat/moat/xpath/Operation$Operator" "LESS_OR_EQUAL" "Lcom/example/moat/moat/xpath/Operation$Operator;" (.ref u_LESS_OR_EQUAL)) (S_GREATER : Sta Z h0 "com/example/moat/moat/xpath/Operation$Operator" "GREATER" "Lcom/example/moat/moat/xpath/Operation$Operator;" (.ref u_GREATER)) (S_GREATER_OR_EQUAL : Sta Z h0 "com/example/moat/moat/xpath/Operation$Operator" "GREATER_OR_EQUAL" "Lcom/example/moat/moat/xpath/Operation$Operator;" (.ref u_GREATER_OR_EQUAL)) (S_PLUS : Sta Z h0 "com/example/moat/moat/xpath/Operation$Operator" "PLUS" "Lcom/example/moat/moat/xpath/Operation$Operator;" (.ref u_PLUS)) (S_MINUS : Sta Z h0 "com/example/moat/moat/xpath/Operation$Operator" "MINUS" "Lcom/example/moat/moat/xpath/Operation$Operator;" (.ref u_MINUS)) (S_MULTIPLY : Sta Z h0 "com/example/moat/moat/xpath/Operation$Operator" "MULTIPLY" "Lcom/example/moat/moat/xpath/Operation$Operator;" (.ref u_MULTIPLY)) (ne_u_OR_u_MULTIPLY : u_OR ≠ u_MULTIPLY) (ne_u_AND_u_MULTIPLY : u_AND ≠ u_MULTIPLY) (ne_u_EQUAL_u_MULTIPLY : u_EQUAL ≠ u_MULTIPLY) (ne_u_NOT_EQUAL_u_MULTIPLY : u_NOT_EQUAL ≠ u_MULTIPLY) (ne_u_LESS_u_MULTIPLY : u_LESS ≠ u_MULTIPLY) (ne_u_LESS_OR_EQUAL_u_MULTIPLY : u_LESS_OR_EQUAL ≠ u_MULTIPLY) (ne_u_GREATER_u_MULTIPLY : u_GREATER ≠ u_MULTIPLY) (ne_u_GREATER_OR_EQUAL_u_MULTIPLY : u_GREATER_OR_EQUAL ≠ u_MULTIPLY) (ne_u_PLUS_u_MULTIPLY : u_PLUS ≠ u_MULTIPLY) (ne_u_MINUS_u_MULTIPLY : u_MINUS ≠ u_MULTIPLY) :
    MetFree l (⟨"com/example/moat/moat/xpath/OperatorFlippedPinLaw", "index", "(Lcom/example/moat/moat/xpath/Operation$Operator;)I"⟩ : MethodName) (head1 (Jvm.Cond.code (⟨"com/example/moat/moat/xpath/OperatorFlippedPinLaw", "index", "(Lcom/example/moat/moat/xpath/Operation$Operator;)I"⟩ : MethodName) method_4_code 1 (some .int) :: ws) ({ frames := 0, cells := 0, slots := 0, locals := 0 } : Room)) (fun aA UA => aA = #[(.ref u_MULTIPLY)] ∧ Z.Warmed39 UA.vm ∧ UA.heap = h0) (fun _ _ _ _ _ => True) (fun _ UA oA UB => ∃ rV LE, oA = .returned rV ∧ QrmX10 Z u_MULTIPLY u_OR u_AND u_EQUAL u_NOT_EQUAL u_LESS u_LESS_OR_EQUAL u_GREATER u_GREATER_OR_EQUAL u_PLUS u_MINUS h0 n0 rV UB.heap LE ∧ FrameEnd UA oA UB LE ({ frames := 0, cells := 0, slots := 0, locals := 0 } : Room).cells ({ frames := 0, cells := 0, slots := 0, locals := 0 } : Room).slots) := by
  refine MetFree.of_bodySF (plainFor_of_name pn_0) hisR ?_
  intro p e s m args below meth c s₁ Bd hml0 hP hK
  obtain ⟨rfl, hZ, hh⟩ := hP
  have hx := Bd.exec
  have hby := Bd.bytes
  have hml : c.maxLocals = 1 := hml0
  have hown : s.vm.findClass "com/example/moat/moat/xpath/OperatorFlippedPinLaw" = some m.cls := findClass_of_methodNamed Bd.named
  have hnm := (name_of_methodNamed Bd.named Bd.method).1
  have hlk := Bd.notSynchronized
  have X0 : Stand p l e ({ frames := 0, cells := 0, slots := 0, locals := 0 } : Room) s m #[(.ref u_MULTIPLY)] below meth c s₁ [] 0 0 := Stand.of_body Bd
  have e0 : s₁.heap = h0 := by rw [← hh, Bd.state]; rfl
  have N0 := Fr.nil n0
  show Go p e below s (QrmX10 Z u_MULTIPLY u_OR u_AND u_EQUAL u_NOT_EQUAL u_LESS u_LESS_OR_EQUAL u_GREATER u_GREATER_OR_EQUAL u_PLUS u_MINUS h0 n0) ({ frames := 0, cells := 0, slots := 0, locals := 0 } : Room).cells ({ frames := 0, cells := 0, slots := 0, locals := 0 } : Room).slots s₁ (entryFrame m #[(.ref u_MULTIPLY)] 1)
  refine Go.eq (ef_rmX10 m u_MULTIPLY) ?_
  show Go p e below s _ _ _ s₁ (mkF m 0 #[.val (.ref u_MULTIPLY)] [])
  refine Go.st (fun _ => XS.aloadN X0.here hx rfl (hb hby d3_0) rfl rfl) ?_
  show Go p e below s _ _ _ s₁ (mkF m 1 #[.val (.ref u_MULTIPLY)] [(.ref u_MULTIPLY)])
  obtain ⟨T1, X1, e1, st1⟩ := getS2 X0 hx hZ hown (host := "") (Or.inl (hw _ (List.mem_of_getElem? (i := 5) rfl))) Via.refl e0 S_OR (g := (mkF m 1 #[.val (.ref u_MULTIPLY)] [(.ref u_MULTIPLY)])) rfl (hb hby d3_1)
  refine Go.st st1 ?_
  show Go p e below s _ _ _ T1 (mkF m 4 #[.val (.ref u_MULTIPLY)] [(.ref u_OR), (.ref u_MULTIPLY)])
  refine Go.st (fun _ => Jvm.RoadKit.acmp (g := (mkF m 4 #[.val (.ref u_MULTIPLY)] [(.ref u_OR), (.ref u_MULTIPLY)])) X1 hx rfl rfl rfl (pc0 := 4) (pc' := 9) (same := false) rfl (hb hby d3_4) rfl (decide_eq_false fun q => (Ne.symm ne_u_OR_u_MULTIPLY) (Value.ref.inj q)) (by decide) (by decide)) ?_
  show Go p e below s _ _ _ T1 (mkF m 9 #[.val (.ref u_MULTIPLY)] [])
  refine Go.st (fun _ => XS.aloadN X1.here hx rfl (hb hby d3_9) rfl rfl) ?_
  show Go p e below s _ _ _ T1 (mkF m 10 #[.val (.ref u_MULTIPLY)] [(.ref u_MULTIPLY)])
  obtain ⟨T2, X2, e2, st2⟩ := getS2 X1 hx hZ hown (host := "") (Or.inl (hw _ (List.mem_of_getElem? (i := 25) rfl))) Via.refl e1 S_AND (g := (mkF m 10 #[.val (.ref u_MULTIPLY)] [(.ref u_MULTIPLY)])) rfl (hb hby d3_10)
  refine Go.st st2 ?_
  show Go p e below s _ _ _ T2 (mkF m 13 #[.val (.ref u_MULTIPLY)] [(.ref u_AND), (.ref u_MULTIPLY)])
  refine Go.st (fun _ => Jvm.RoadKit.acmp (g := (mkF m 13 #[.val (.ref u_MULTIPLY)] [(.ref u_AND), (.ref u_MULTIPLY)])) X2 hx rfl rfl rfl (pc0 := 13) (pc' := 18) (same := false) rfl (hb hby d3_13) rfl (decide_eq_false fun q => (Ne.symm ne_u_AND_u_MULTIPLY) (Value.ref.inj q)) (by decide) (by decide)) ?_
  show Go p e below s _ _ _ T2 (mkF m 18 #[.val (.ref u_MULTIPLY)] [])
  refine Go.st (fun _ => XS.aloadN X2.here hx rfl (hb hby d3_18) rfl rfl) ?_
  show Go p e below s _ _ _ T2 (mkF m 19 #[.val (.ref u_MULTIPLY)] [(.ref u_MULTIPLY)])
  obtain ⟨T3, X3, e3, st3⟩ := getS2 X2 hx hZ hown (host := "") (Or.inl (hw _ (List.mem_of_getElem? (i := 27) rfl))) Via.refl e2 S_EQUAL (g := (mkF m 19 #[.val (.ref u_MULTIPLY)] [(.ref u_MULTIPLY)])) rfl (hb hby d3_19)
  refine Go.st st3 ?_
  show Go p e below s _ _ _ T3 (mkF m 22 #[.val (.ref u_MULTIPLY)] [(.ref u_EQUAL), (.ref u_MULTIPLY)])
  refine Go.st (fun _ => Jvm.RoadKit.acmp (g := (mkF m 22 #[.val (.ref u_MULTIPLY)] [(.ref u_EQUAL), (.ref u_MULTIPLY)])) X3 hx rfl rfl rfl (pc0 := 22) (pc' := 27) (same := false) rfl (hb hby d3_22) rfl (decide_eq_false fun q => (Ne.symm ne_u_EQUAL_u_MULTIPLY) (Value.ref.inj q)) (by decide) (by decide)) ?_
  show Go p e below s _ _ _ T3 (mkF m 27 #[.val (.ref u_MULTIPLY)] [])
  refine Go.st (fun _ => XS.aloadN X3.here hx rfl (hb hby d3_27) rfl rfl) ?_
  show Go p e below s _ _ _ T3 (mkF m 28 #[.val (.ref u_MULTIPLY)] [(.ref u_MULTIPLY)])
  obtain ⟨T4, X4, e4, st4⟩ := getS2 X3 hx hZ hown (host := "") (Or.inl (hw _ (List.mem_of_getElem? (i := 29) rfl))) Via.refl e3 S_NOT_EQUAL (g := (mkF m 28 #[.val (.ref u_MULTIPLY)] [(.ref u_MULTIPLY)])) rfl (hb hby d3_28)
  refine Go.st st4 ?_
  show Go p e below s _ _ _ T4 (mkF m 31 #[.val (.ref u_MULTIPLY)] [(.ref u_NOT_EQUAL), (.ref u_MULTIPLY)])
  refine Go.st (fun _ => Jvm.RoadKit.acmp (g := (mkF m 31 #[.val (.ref u_MULTIPLY)] [(.ref u_NOT_EQUAL), (.ref u_MULTIPLY)])) X4 hx rfl rfl rfl (pc0 := 31) (pc' := 36) (same := false) rfl (hb hby d3_31) rfl (decide_eq_false fun q => (Ne.symm ne_u_NOT_EQUAL_u_MULTIPLY) (Value.ref.inj q)) (by decide) (by decide)) ?_
  show Go p e below s _ _ _ T4 (mkF m 36 #[.val (.ref u_MULTIPLY)] [])
  refine Go.st (fun _ => XS.aloadN X4.here hx rfl (hb hby d3_36) rfl rfl) ?_
  show Go p e below s _ _ _ T4 (mkF m 37 #[.val (.ref u_MULTIPLY)] [(.ref u_MULTIPLY)])
  obtain ⟨T5, X5, e5, st5⟩ := getS2 X4 hx hZ hown (host := "") (Or.inl (hw _ (List.mem_of_getElem? (i := 24) rfl))) Via.refl e4 S_LESS (g := (mkF m 37 #[.val (.ref u_MULTIPLY)] [(.ref u_MULTIPLY)])) rfl (hb hby d3_37)
  refine Go.st st5 ?_
  show Go p e below s _ _ _ T5 (mkF m 40 #[.val (.ref u_MULTIPLY)] [(.ref u_LESS), (.ref u_MULTIPLY)])
  refine Go.st (fun _ => Jvm.RoadKit.acmp (g := (mkF m 40 #[.val (.ref u_MULTIPLY)] [(.ref u_LESS), (.ref u_MULTIPLY)])) X5 hx rfl rfl rfl (pc0 := 40) (pc' := 45) (same := false) rfl (hb hby d3_40) rfl (decide_eq_false fun q => (Ne.symm ne_u_LESS_u_MULTIPLY) (Value.ref.inj q)) (by decide) (by decide)) ?_
  show Go p e below s _ _ _ T5 (mkF m 45 #[.val (.ref u_MULTIPLY)] [])
  refine Go.st (fun _ => XS.aloadN X5.here hx rfl (hb hby d3_45) rfl rfl) ?_
  show Go p e below s _ _ _ T5 (mkF m 46 #[.val (.ref u_MULTIPLY)] [(.ref u_MULTIPLY)])
  obtain ⟨T6, X6, e6, st6⟩ := getS2 X5 hx hZ hown (host := "") (Or.inl (hw _ (List.mem_of_getElem? (i := 31) rfl))) Via.refl e5 S_LESS_OR_EQUAL (g := (mkF m 46 #[.val (.ref u_MULTIPLY)] [(.ref u_MULTIPLY)])) rfl (hb hby d3_46)
  refine Go.st st6 ?_
  show Go p e below s _ _ _ T6 (mkF m 49 #[.val (.ref u_MULTIPLY)] [(.ref u_LESS_OR_EQUAL), (.ref u_MULTIPLY)])
  refine Go.st (fun _ => Jvm.RoadKit.acmp (g := (mkF m 49 #[.val (.ref u_MULTIPLY)] [(.ref u_LESS_OR_EQUAL), (.ref u_MULTIPLY)])) X6 hx rfl rfl rfl (pc0 := 49) (pc' := 54) (same := false) rfl (hb hby d3_49) rfl (decide_eq_false fun q => (Ne.symm ne_u_LESS_OR_EQUAL_u_MULTIPLY) (Value.ref.inj q)) (by decide) (by decide)) ?_
  show Go p e below s _ _ _ T6 (mkF m 54 #[.val (.ref u_MULTIPLY)] [])
  refine Go.st (fun _ => XS.aloadN X6.here hx rfl (hb hby d3_54) rfl rfl) ?_
  show Go p e below s _ _ _ T6 (mkF m 55 #[.val (.ref u_MULTIPLY)] [(.ref u_MULTIPLY)])
  obtain ⟨T7, X7, e7, st7⟩ := getS2 X6 hx hZ hown (host := "") (Or.inl (hw _ (List.mem_of_getElem? (i := 32) rfl))) Via.refl e6 S_GREATER (g := (mkF m 55 #[.val (.ref u_MULTIPLY)] [(.ref u_MULTIPLY)])) rfl (hb hby d3_55)
  refine Go.st st7 ?_
  show Go p e below s _ _ _ T7 (mkF m 58 #[.val (.ref u_MULTIPLY)] [(.ref u_GREATER), (.ref u_MULTIPLY)])
  refine Go.st (fun _ => Jvm.RoadKit.acmp (g := (mkF m 58 #[.val (.ref u_MULTIPLY)] [(.ref u_GREATER), (.ref u_MULTIPLY)])) X7 hx rfl rfl rfl (pc0 := 58) (pc' := 64) (same := false) rfl (hb hby d3_58) rfl (decide_eq_false fun q => (Ne.symm ne_u_GREATER_u_MULTIPLY) (Value.ref.inj q)) (by decide) (by decide)) ?_
  show Go p e below s _ _ _ T7 (mkF m 64 #[.val (.ref u_MULTIPLY)] [])
  refine Go.st (fun _ => XS.aloadN X7.here hx rfl (hb hby d3_64) rfl rfl) ?_
  show Go p e below s _ _ _ T7 (mkF m 65 #[.val (.ref u_MULTIPLY)] [(.ref u_MULTIPLY)])
  obtain ⟨T8, X8, e8, st8⟩ := getS2 X7 hx hZ hown (host := "") (Or.inl (hw _ (List.mem_of_getElem? (i := 36) rfl))) Via.refl e7 S_GREATER_OR_EQUAL (g := (mkF m 65 #[.val (.ref u_MULTIPLY)] [(.ref u_MULTIPLY)])) rfl (hb hby d3_65)
  refine Go.st st8 ?_
  show Go p e below s _ _ _ T8 (mkF m 68 #[.val (.ref u_MULTIPLY)] [(.ref u_GREATER_OR_EQUAL), (.ref u_MULTIPLY)])
  refine Go.st (fun _ => Jvm.RoadKit.acmp (g := (mkF m 68 #[.val (.ref u_MULTIPLY)] [(.ref u_GREATER_OR_EQUAL), (.ref u_MULTIPLY)])) X8 hx rfl rfl rfl (pc0 := 68) (pc' := 74) (same := false) rfl (hb hby d3_68) rfl (decide_eq_false fun q => (Ne.symm ne_u_GREATER_OR_EQUAL_u_MULTIPLY) (Value.ref.inj q)) (by decide) (by decide)) ?_
  show Go p e below s _ _ _ T8 (mkF m 74 #[.val (.ref u_MULTIPLY)] [])
  refine Go.st (fun _ => XS.aloadN X8.here hx rfl (hb hby d3_74) rfl rfl) ?_
  show Go p e below s _ _ _ T8 (mkF m 75 #[.val (.ref u_MULTIPLY)] [(.ref u_MULTIPLY)])
  obtain ⟨T9, X9, e9, st9⟩ := getS2 X8 hx hZ hown (host := "") (Or.inl (hw _ (List.mem_of_getElem? (i := 39) rfl))) Via.refl e8 S_PLUS (g := (mkF m 75 #[.val (.ref u_MULTIPLY)] [(.ref u_MULTIPLY)])) rfl (hb hby d3_75)
  refine Go.st st9 ?_
  show Go p e below s _ _ _ T9 (mkF m 78 #[.val (.ref u_MULTIPLY)] [(.ref u_PLUS), (.ref u_MULTIPLY)])
  refine Go.st (fun _ => Jvm.RoadKit.acmp (g := (mkF m 78 #[.val (.ref u_MULTIPLY)] [(.ref u_PLUS), (.ref u_MULTIPLY)])) X9 hx rfl rfl rfl (pc0 := 78) (pc' := 84) (same := false) rfl (hb hby d3_78) rfl (decide_eq_false fun q => (Ne.symm ne_u_PLUS_u_MULTIPLY) (Value.ref.inj q)) (by decide) (by decide)) ?_
  show Go p e below s _ _ _ T9 (mkF m 84 #[.val (.ref u_MULTIPLY)] [])
  refine Go.st (fun _ => XS.aloadN X9.here hx rfl (hb hby d3_84) rfl rfl) ?_
  show Go p e below s _ _ _ T9 (mkF m 85 #[.val (.ref u_MULTIPLY)] [(.ref u_MULTIPLY)])
  obtain ⟨T10, X10, e10, st10⟩ := getS2 X9 hx hZ hown (host := "") (Or.inl (hw _ (List.mem_of_getElem? (i := 41) rfl))) Via.refl e9 S_MINUS (g := (mkF m 85 #[.val (.ref u_MULTIPLY)] [(.ref u_MULTIPLY)])) rfl (hb hby d3_85)
  refine Go.st st10 ?_
  show Go p e below s _ _ _ T10 (mkF m 88 #[.val (.ref u_MULTIPLY)] [(.ref u_MINUS), (.ref u_MULTIPLY)])
  refine Go.st (fun _ => Jvm.RoadKit.acmp (g := (mkF m 88 #[.val (.ref u_MULTIPLY)] [(.ref u_MINUS), (.ref u_MULTIPLY)])) X10 hx rfl rfl rfl (pc0 := 88) (pc' := 94) (same := false) rfl (hb hby d3_88) rfl (decide_eq_false fun q => (Ne.symm ne_u_MINUS_u_MULTIPLY) (Value.ref.inj q)) (by decide) (by decide)) ?_
  show Go p e below s _ _ _ T10 (mkF m 94 #[.val (.ref u_MULTIPLY)] [])
  refine Go.st (fun _ => XS.aloadN X10.here hx rfl (hb hby d3_94) rfl rfl) ?_
  show Go p e below s _ _ _ T10 (mkF m 95 #[.val (.ref u_MULTIPLY)] [(.ref u_MULTIPLY)])
  obtain ⟨T11, X11, e11, st11⟩ := getS2 X10 hx hZ hown (host := "") (Or.inl (hw _ (List.mem_of_getElem? (i := 37) rfl))) Via.refl e10 S_MULTIPLY (g := (mkF m 95 #[.val (.ref u_MULTIPLY)] [(.ref u_MULTIPLY)])) rfl (hb hby d3_95)
  refine Go.st st11 ?_
  show Go p e below s _ _ _ T11 (mkF m 98 #[.val (.ref u_MULTIPLY)] [(.ref u_MULTIPLY), (.ref u_MULTIPLY)])
  refine Go.st (fun _ => Jvm.RoadKit.acmp (g := (mkF m 98 #[.val (.ref u_MULTIPLY)] [(.ref u_MULTIPLY), (.ref u_MULTIPLY)])) X11 hx rfl rfl rfl (pc0 := 98) (pc' := 101) (same := true) rfl (hb hby d3_98) rfl (decide_eq_true rfl) (by decide) (by decide)) ?_
  show Go p e below s _ _ _ T11 (mkF m 101 #[.val (.ref u_MULTIPLY)] [])
  refine Go.st (fun _ => XS.bipush X11.here hx rfl (hb hby d3_101)) ?_
  show Go p e below s _ _ _ T11 (mkF m 103 #[.val (.ref u_MULTIPLY)] [(.int (10 : Int32))])
  exact Go.retI X11 hx hlk Bd.returns (hb hby d3_103) (by rw [e11]; exact ⟨rfl, N0, rfl⟩) (by decide) (by decide)
theorem d1_103 : decode method_3_code 103 = .ok (.iload_n 0, 1) := by decide +kernel
theorem d1_104 : decode method_3_code 104 = .ok (.bipush 11, 2) := by decide +kernel
theorem d1_106 : decode method_3_code 106 = .ok (.if_icmp .ne 7, 3) := by decide +kernel
theorem d1_109 : decode method_3_code 109 = .ok (.getstatic 62, 3) := by decide +kernel
theorem d1_112 : decode method_3_code 112 = .ok (.areturn, 1) := by decide +kernel
theorem ef_rmP11 (m : MethodId)  : entryFrame m #[(.int (11 : Int32))] 1 = mkF m 0 #[.val (.int (11 : Int32))] [] := by first | (simp [entryFrame, mkF, argsToLocals, Value.category]; done) | rfl
def QrmP11 (Z : State) (u_DIVIDE : Addr) (h0 : Heap) (n0 : Nat) (rV : Option Value) (hE : Heap) (LE : List Loc) : Prop := rV = some (.ref u_DIVIDE) ∧ Fr n0 LE ∧ hE = h0
set_option maxRecDepth 65536 in
set_option maxHeartbeats 40000000 in
theorem rmP11 (l : Launch) (Z : State) (a0 : Array Value) (hw : ∀ d ∈ tables_1, d.before a0 Z = true) (ws : List Jvm.Cond) (u_DIVIDE : Addr) (h0 : Heap) (n0 : Nat) (Z0 : n0 ≤ h0.size) (S_DIVIDE : Sta Z h0 "com/example/moat/moat/xpath/Operation$Operator" "DIVIDE" "Lcom/example/moat/moat/xpath/Operation$Operator;" (.ref u_DIVIDE)) :
    MetFree l (⟨"com/example/moat/moat/xpath/OperatorFlippedPinLaw", "pick", "(I)Lcom/example/moat/moat/xpath/Operation$Operator;"⟩ : MethodName) (head1 (Jvm.Cond.code (⟨"com/example/moat/moat/xpath/OperatorFlippedPinLaw", "pick", "(I)Lcom/example/moat/moat/xpath/Operation$Operator;"⟩ : MethodName) method_3_code 1 (some (.object "com/example/moat/moat/xpath/Operation$Operator")) :: ws) ({ frames := 0, cells := 0, slots := 0, locals := 0 } : Room)) (fun aA UA => aA = #[(.int (11 : Int32))] ∧ Z.Warmed39 UA.vm ∧ UA.heap = h0) (fun _ _ _ _ _ => True) (fun _ UA oA UB => ∃ rV LE, oA = .returned rV ∧ QrmP11 Z u_DIVIDE h0 n0 rV UB.heap LE ∧ FrameEnd UA oA UB LE ({ frames := 0, cells := 0, slots := 0, locals := 0 } : Room).cells ({ frames := 0, cells := 0, slots := 0, locals := 0 } : Room).slots) := by
  refine MetFree.of_bodySF (plainFor_of_name pn_0) hisR ?_
  intro p e s m args below meth c s₁ Bd hml0 hP hK
  obtain ⟨rfl, hZ, hh⟩ := hP
  have hx := Bd.exec
  have hby := Bd.bytes
  have hml : c.maxLocals = 1 := hml0
  have hown : s.vm.findClass "com/example/moat/moat/xpath/OperatorFlippedPinLaw" = some m.cls := findClass_of_methodNamed Bd.named
  have hnm := (name_of_methodNamed Bd.named Bd.method).1
  have hlk := Bd.notSynchronized
  have X0 : Stand p l e ({ frames := 0, cells := 0, slots := 0, locals := 0 } : Room) s m #[(.int (11 : Int32))] below meth c s₁ [] 0 0 := Stand.of_body Bd
  have e0 : s₁.heap = h0 := by rw [← hh, Bd.state]; rfl
  have N0 := Fr.nil n0
  show Go p e below s (QrmP11 Z u_DIVIDE h0 n0) ({ frames := 0, cells := 0, slots := 0, locals := 0 } : Room).cells ({ frames := 0, cells := 0, slots := 0, locals := 0 } : Room).slots s₁ (entryFrame m #[(.int (11 : Int32))] 1)
  refine Go.eq (ef_rmP11 m ) ?_
  show Go p e below s _ _ _ s₁ (mkF m 0 #[.val (.int (11 : Int32))] [])
  refine Go.st (fun _ => XS.iloadN X0.here hx rfl (hb hby d1_0) rfl) ?_
  show Go p e below s _ _ _ s₁ (mkF m 1 #[.val (.int (11 : Int32))] [(.int (11 : Int32))])
  refine Go.st (fun _ => XS.ifYes X0.here hx rfl (pc0 := 1) (pc' := 8) rfl (hb hby d1_1) rfl ((if0 _ _).trans (feq (by decide : ¬ ((11 : Int32) = (0 : Int32)))).2) (by decide) (by decide)) ?_
  show Go p e below s _ _ _ s₁ (mkF m 8 #[.val (.int (11 : Int32))] [])
  refine Go.st (fun _ => XS.iloadN X0.here hx rfl (hb hby d1_8) rfl) ?_
  show Go p e below s _ _ _ s₁ (mkF m 9 #[.val (.int (11 : Int32))] [(.int (11 : Int32))])
  refine Go.st (fun _ => XS.iconst X0.here hx rfl (hb hby d1_9)) ?_
  show Go p e below s _ _ _ s₁ (mkF m 10 #[.val (.int (11 : Int32))] [(.int (1 : Int32)), (.int (11 : Int32))])
  refine Go.st (fun _ => XS.icmpYes X0.here hx rfl (pc0 := 10) (pc' := 17) rfl (hb hby d1_10) rfl (feq (by decide : ¬ ((11 : Int32) = (1 : Int32)))).2 (by decide) (by decide)) ?_
  show Go p e below s _ _ _ s₁ (mkF m 17 #[.val (.int (11 : Int32))] [])
  refine Go.st (fun _ => XS.iloadN X0.here hx rfl (hb hby d1_17) rfl) ?_
  show Go p e below s _ _ _ s₁ (mkF m 18 #[.val (.int (11 : Int32))] [(.int (11 : Int32))])
  refine Go.st (fun _ => XS.iconst X0.here hx rfl (hb hby d1_18)) ?_
  show Go p e below s _ _ _ s₁ (mkF m 19 #[.val (.int (11 : Int32))] [(.int (2 : Int32)), (.int (11 : Int32))])
  refine Go.st (fun _ => XS.icmpYes X0.here hx rfl (pc0 := 19) (pc' := 26) rfl (hb hby d1_19) rfl (feq (by decide : ¬ ((11 : Int32) = (2 : Int32)))).2 (by decide) (by decide)) ?_
  show Go p e below s _ _ _ s₁ (mkF m 26 #[.val (.int (11 : Int32))] [])
  refine Go.st (fun _ => XS.iloadN X0.here hx rfl (hb hby d1_26) rfl) ?_
  show Go p e below s _ _ _ s₁ (mkF m 27 #[.val (.int (11 : Int32))] [(.int (11 : Int32))])
  refine Go.st (fun _ => XS.iconst X0.here hx rfl (hb hby d1_27)) ?_
  show Go p e below s _ _ _ s₁ (mkF m 28 #[.val (.int (11 : Int32))] [(.int (3 : Int32)), (.int (11 : Int32))])
  refine Go.st (fun _ => XS.icmpYes X0.here hx rfl (pc0 := 28) (pc' := 35) rfl (hb hby d1_28) rfl (feq (by decide : ¬ ((11 : Int32) = (3 : Int32)))).2 (by decide) (by decide)) ?_
  show Go p e below s _ _ _ s₁ (mkF m 35 #[.val (.int (11 : Int32))] [])
  refine Go.st (fun _ => XS.iloadN X0.here hx rfl (hb hby d1_35) rfl) ?_
  show Go p e below s _ _ _ s₁ (mkF m 36 #[.val (.int (11 : Int32))] [(.int (11 : Int32))])
  refine Go.st (fun _ => XS.iconst X0.here hx rfl (hb hby d1_36)) ?_
  show Go p e below s _ _ _ s₁ (mkF m 37 #[.val (.int (11 : Int32))] [(.int (4 : Int32)), (.int (11 : Int32))])
  refine Go.st (fun _ => XS.icmpYes X0.here hx rfl (pc0 := 37) (pc' := 44) rfl (hb hby d1_37) rfl (feq (by decide : ¬ ((11 : Int32) = (4 : Int32)))).2 (by decide) (by decide)) ?_
  show Go p e below s _ _ _ s₁ (mkF m 44 #[.val (.int (11 : Int32))] [])
  refine Go.st (fun _ => XS.iloadN X0.here hx rfl (hb hby d1_44) rfl) ?_
  show Go p e below s _ _ _ s₁ (mkF m 45 #[.val (.int (11 : Int32))] [(.int (11 : Int32))])
  refine Go.st (fun _ => XS.iconst X0.here hx rfl (hb hby d1_45)) ?_
  show Go p e below s _ _ _ s₁ (mkF m 46 #[.val (.int (11 : Int32))] [(.int (5 : Int32)), (.int (11 : Int32))])
  refine Go.st (fun _ => XS.icmpYes X0.here hx rfl (pc0 := 46) (pc' := 53) rfl (hb hby d1_46) rfl (feq (by decide : ¬ ((11 : Int32) = (5 : Int32)))).2 (by decide) (by decide)) ?_
  show Go p e below s _ _ _ s₁ (mkF m 53 #[.val (.int (11 : Int32))] [])
  refine Go.st (fun _ => XS.iloadN X0.here hx rfl (hb hby d1_53) rfl) ?_
  show Go p e below s _ _ _ s₁ (mkF m 54 #[.val (.int (11 : Int32))] [(.int (11 : Int32))])
  refine Go.st (fun _ => XS.bipush X0.here hx rfl (hb hby d1_54)) ?_
  show Go p e below s _ _ _ s₁ (mkF m 56 #[.val (.int (11 : Int32))] [(.int (6 : Int32)), (.int (11 : Int32))])
  refine Go.st (fun _ => XS.icmpYes X0.here hx rfl (pc0 := 56) (pc' := 63) rfl (hb hby d1_56) rfl (feq (by decide : ¬ ((11 : Int32) = (6 : Int32)))).2 (by decide) (by decide)) ?_
  show Go p e below s _ _ _ s₁ (mkF m 63 #[.val (.int (11 : Int32))] [])
  refine Go.st (fun _ => XS.iloadN X0.here hx rfl (hb hby d1_63) rfl) ?_
  show Go p e below s _ _ _ s₁ (mkF m 64 #[.val (.int (11 : Int32))] [(.int (11 : Int32))])
  refine Go.st (fun _ => XS.bipush X0.here hx rfl (hb hby d1_64)) ?_
  show Go p e below s _ _ _ s₁ (mkF m 66 #[.val (.int (11 : Int32))] [(.int (7 : Int32)), (.int (11 : Int32))])
  refine Go.st (fun _ => XS.icmpYes X0.here hx rfl (pc0 := 66) (pc' := 73) rfl (hb hby d1_66) rfl (feq (by decide : ¬ ((11 : Int32) = (7 : Int32)))).2 (by decide) (by decide)) ?_
  show Go p e below s _ _ _ s₁ (mkF m 73 #[.val (.int (11 : Int32))] [])
  refine Go.st (fun _ => XS.iloadN X0.here hx rfl (hb hby d1_73) rfl) ?_
  show Go p e below s _ _ _ s₁ (mkF m 74 #[.val (.int (11 : Int32))] [(.int (11 : Int32))])
  refine Go.st (fun _ => XS.bipush X0.here hx rfl (hb hby d1_74)) ?_
  show Go p e below s _ _ _ s₁ (mkF m 76 #[.val (.int (11 : Int32))] [(.int (8 : Int32)), (.int (11 : Int32))])
  refine Go.st (fun _ => XS.icmpYes X0.here hx rfl (pc0 := 76) (pc' := 83) rfl (hb hby d1_76) rfl (feq (by decide : ¬ ((11 : Int32) = (8 : Int32)))).2 (by decide) (by decide)) ?_
  show Go p e below s _ _ _ s₁ (mkF m 83 #[.val (.int (11 : Int32))] [])
  refine Go.st (fun _ => XS.iloadN X0.here hx rfl (hb hby d1_83) rfl) ?_
  show Go p e below s _ _ _ s₁ (mkF m 84 #[.val (.int (11 : Int32))] [(.int (11 : Int32))])
  refine Go.st (fun _ => XS.bipush X0.here hx rfl (hb hby d1_84)) ?_
  show Go p e below s _ _ _ s₁ (mkF m 86 #[.val (.int (11 : Int32))] [(.int (9 : Int32)), (.int (11 : Int32))])
  refine Go.st (fun _ => XS.icmpYes X0.here hx rfl (pc0 := 86) (pc' := 93) rfl (hb hby d1_86) rfl (feq (by decide : ¬ ((11 : Int32) = (9 : Int32)))).2 (by decide) (by decide)) ?_
  show Go p e below s _ _ _ s₁ (mkF m 93 #[.val (.int (11 : Int32))] [])
  refine Go.st (fun _ => XS.iloadN X0.here hx rfl (hb hby d1_93) rfl) ?_
  show Go p e below s _ _ _ s₁ (mkF m 94 #[.val (.int (11 : Int32))] [(.int (11 : Int32))])
  refine Go.st (fun _ => XS.bipush X0.here hx rfl (hb hby d1_94)) ?_
  show Go p e below s _ _ _ s₁ (mkF m 96 #[.val (.int (11 : Int32))] [(.int (10 : Int32)), (.int (11 : Int32))])
  refine Go.st (fun _ => XS.icmpYes X0.here hx rfl (pc0 := 96) (pc' := 103) rfl (hb hby d1_96) rfl (feq (by decide : ¬ ((11 : Int32) = (10 : Int32)))).2 (by decide) (by decide)) ?_
  show Go p e below s _ _ _ s₁ (mkF m 103 #[.val (.int (11 : Int32))] [])
  refine Go.st (fun _ => XS.iloadN X0.here hx rfl (hb hby d1_103) rfl) ?_
  show Go p e below s _ _ _ s₁ (mkF m 104 #[.val (.int (11 : Int32))] [(.int (11 : Int32))])
  refine Go.st (fun _ => XS.bipush X0.here hx rfl (hb hby d1_104)) ?_
  show Go p e below s _ _ _ s₁ (mkF m 106 #[.val (.int (11 : Int32))] [(.int (11 : Int32)), (.int (11 : Int32))])
  refine Go.st (fun _ => XS.icmpNo X0.here hx rfl (hb hby d1_106) rfl (teq (by decide : (11 : Int32) = (11 : Int32))).2) ?_
  show Go p e below s _ _ _ s₁ (mkF m 109 #[.val (.int (11 : Int32))] [])
  obtain ⟨T1, X1, e1, st1⟩ := getS2 X0 hx hZ hown (host := "") (Or.inl (hw _ (List.mem_of_getElem? (i := 45) rfl))) Via.refl e0 S_DIVIDE (g := (mkF m 109 #[.val (.int (11 : Int32))] [])) rfl (hb hby d1_109)
  refine Go.st st1 ?_
  show Go p e below s _ _ _ T1 (mkF m 112 #[.val (.int (11 : Int32))] [(.ref u_DIVIDE)])
  exact Go.retA X1 hx hlk Bd.returns rfl rfl (hb hby d1_112) (by rw [e1]; exact ⟨rfl, N0, rfl⟩) (by decide) (by decide)
theorem d3_104 : decode method_4_code 104 = .ok (.aload_n 0, 1) := by decide +kernel
theorem d3_105 : decode method_4_code 105 = .ok (.getstatic 62, 3) := by decide +kernel
theorem d3_108 : decode method_4_code 108 = .ok (.if_acmp .ne 6, 3) := by decide +kernel
theorem d3_111 : decode method_4_code 111 = .ok (.bipush 11, 2) := by decide +kernel
theorem d3_113 : decode method_4_code 113 = .ok (.ireturn, 1) := by decide +kernel
theorem ef_rmX11 (m : MethodId) (u_DIVIDE : Addr) : entryFrame m #[(.ref u_DIVIDE)] 1 = mkF m 0 #[.val (.ref u_DIVIDE)] [] := by first | (simp [entryFrame, mkF, argsToLocals, Value.category]; done) | rfl
def QrmX11 (Z : State) (u_DIVIDE : Addr) (u_OR : Addr) (u_AND : Addr) (u_EQUAL : Addr) (u_NOT_EQUAL : Addr) (u_LESS : Addr) (u_LESS_OR_EQUAL : Addr) (u_GREATER : Addr) (u_GREATER_OR_EQUAL : Addr) (u_PLUS : Addr) (u_MINUS : Addr) (u_MULTIPLY : Addr) (h0 : Heap) (n0 : Nat) (rV : Option Value) (hE : Heap) (LE : List Loc) : Prop := rV = some (.int (11 : Int32)) ∧ Fr n0 LE ∧ hE = h0
set_option maxRecDepth 65536 in
set_option maxHeartbeats 40000000 in
theorem rmX11 (l : Launch) (Z : State) (a0 : Array Value) (hw : ∀ d ∈ tables_1, d.before a0 Z = true) (ws : List Jvm.Cond) (u_DIVIDE : Addr) (u_OR : Addr) (u_AND : Addr) (u_EQUAL : Addr) (u_NOT_EQUAL : Addr) (u_LESS : Addr) (u_LESS_OR_EQUAL : Addr) (u_GREATER : Addr) (u_GREATER_OR_EQUAL : Addr) (u_PLUS : Addr) (u_MINUS : Addr) (u_MULTIPLY : Addr) (h0 : Heap) (n0 : Nat) (Z0 : n0 ≤ h0.size) (S_OR : Sta Z h0 "com/example/moat/moat/xpath/Operation$Operator" "OR" "Lcom/example/moat/moat/xpath/Operation$Operator;" (.ref u_OR)) (S_AND : Sta Z h0 "com/example/moat/moat/xpath/Operation$Operator" "AND" "Lcom/example/moat/moat/xpath/Operation$Operator;" (.ref u_AND)) (S_EQUAL : Sta Z h0 "com/example/moat/moat/xpath/Operation$Operator" "EQUAL" "Lcom/example/moat/moat/xpath/Operation$Operator;" (.ref u_EQUAL)) (S_NOT_EQUAL : Sta Z h0 "com/example/moat/moat/xpath/Operation$Operator" "NOT_EQUAL" "Lcom/example/moat/moat/xpath/Operation$Operator;" (.ref u_NOT_EQUAL)) (S_LESS : Sta Z h0 "com/example/moat/moat/xpath/Operation$Operator" "LESS" "Lcom/example/moat/moat/xpath/Operation$Operator;" (.ref u_LESS)) (S_LESS_OR_EQUAL : Sta Z h0 "com/example/moat/moat/xpath/Operation$Operator" "LESS_OR_EQUAL" "Lcom/example/moat/moat/xpath/Operation$Operator;" (.ref u_LESS_OR_EQUAL)) (S_GREATER : Sta Z h0 "com/example/moat/moat/xpath/Operation$Operator" "GREATER" "Lcom/example/moat/moat/xpath/Operation$Operator;" (.ref u_GREATER)) (S_GREATER_OR_EQUAL : Sta Z h0 "com/example/moat/moat/xpath/Operation$Operator" "GREATER_OR_EQUAL" "Lcom/example/moat/moat/xpath/Operation$Operator;" (.ref u_GREATER_OR_EQUAL)) (S_PLUS : Sta Z h0 "com/example/moat/moat/xpath/Operation$Operator" "PLUS" "Lcom/example/moat/moat/xpath/Operation$Operator;" (.ref u_PLUS)) (S_MINUS : Sta Z h0 "com/example/moat/moat/xpath/Operation$Operator" "MINUS" "Lcom/example/moat/moat/xpath/Operation$Operator;" (.ref u_MINUS)) (S_MULTIPLY : Sta Z h0 "com/example/moat/moat/xpath/Operation$Operator" "MULTIPLY" "Lcom/example/moat/moat/xpath/Operation$Operator;" (.ref u_MULTIPLY)) (S_DIVIDE : Sta Z h0 "com/example/moat/moat/xpath/Operation$Operator" "DIVIDE" "Lcom/example/moat/moat/xpath/Operation$Operator;" (.ref u_DIVIDE)) (ne_u_OR_u_DIVIDE : u_OR ≠ u_DIVIDE) (ne_u_AND_u_DIVIDE : u_AND ≠ u_DIVIDE) (ne_u_EQUAL_u_DIVIDE : u_EQUAL ≠ u_DIVIDE) (ne_u_NOT_EQUAL_u_DIVIDE : u_NOT_EQUAL ≠ u_DIVIDE) (ne_u_LESS_u_DIVIDE : u_LESS ≠ u_DIVIDE) (ne_u_LESS_OR_EQUAL_u_DIVIDE : u_LESS_OR_EQUAL ≠ u_DIVIDE) (ne_u_GREATER_u_DIVIDE : u_GREATER ≠ u_DIVIDE) (ne_u_GREATER_OR_EQUAL_u_DIVIDE : u_GREATER_OR_EQUAL ≠ u_DIVIDE) (ne_u_PLUS_u_DIVIDE : u_PLUS ≠ u_DIVIDE) (ne_u_MINUS_u_DIVIDE : u_MINUS ≠ u_DIVIDE) (ne_u_MULTIPLY_u_DIVIDE : u_MULTIPLY ≠ u_DIVIDE) :
    MetFree l (⟨"com/example/moat/moat/xpath/OperatorFlippedPinLaw", "index", "(Lcom/example/moat/moat/xpath/Operation$Operator;)I"⟩ : MethodName) (head1 (Jvm.Cond.code (⟨"com/example/moat/moat/xpath/OperatorFlippedPinLaw", "index", "(Lcom/example/moat/moat/xpath/Operation$Operator;)I"⟩ : MethodName) method_4_code 1 (some .int) :: ws) ({ frames := 0, cells := 0, slots := 0, locals := 0 } : Room)) (fun aA UA => aA = #[(.ref u_DIVIDE)] ∧ Z.Warmed39 UA.vm ∧ UA.heap = h0) (fun _ _ _ _ _ => True) (fun _ UA oA UB => ∃ rV LE, oA = .returned rV ∧ QrmX11 Z u_DIVIDE u_OR u_AND u_EQUAL u_NOT_EQUAL u_LESS u_LESS_OR_EQUAL u_GREATER u_GREATER_OR_EQUAL u_PLUS u_MINUS u_MULTIPLY h0 n0 rV UB.heap LE ∧ FrameEnd UA oA UB LE ({ frames := 0, cells := 0, slots := 0, locals := 0 } : Room).cells ({ frames := 0, cells := 0, slots := 0, locals := 0 } : Room).slots) := by
  refine MetFree.of_bodySF (plainFor_of_name pn_0) hisR ?_
  intro p e s m args below meth c s₁ Bd hml0 hP hK
  obtain ⟨rfl, hZ, hh⟩ := hP
  have hx := Bd.exec
  have hby := Bd.bytes
  have hml : c.maxLocals = 1 := hml0
  have hown : s.vm.findClass "com/example/moat/moat/xpath/OperatorFlippedPinLaw" = some m.cls := findClass_of_methodNamed Bd.named
  have hnm := (name_of_methodNamed Bd.named Bd.method).1
  have hlk := Bd.notSynchronized
  have X0 : Stand p l e ({ frames := 0, cells := 0, slots := 0, locals := 0 } : Room) s m #[(.ref u_DIVIDE)] below meth c s₁ [] 0 0 := Stand.of_body Bd
  have e0 : s₁.heap = h0 := by rw [← hh, Bd.state]; rfl
  have N0 := Fr.nil n0
  show Go p e below s (QrmX11 Z u_DIVIDE u_OR u_AND u_EQUAL u_NOT_EQUAL u_LESS u_LESS_OR_EQUAL u_GREATER u_GREATER_OR_EQUAL u_PLUS u_MINUS u_MULTIPLY h0 n0) ({ frames := 0, cells := 0, slots := 0, locals := 0 } : Room).cells ({ frames := 0, cells := 0, slots := 0, locals := 0 } : Room).slots s₁ (entryFrame m #[(.ref u_DIVIDE)] 1)
  refine Go.eq (ef_rmX11 m u_DIVIDE) ?_
  show Go p e below s _ _ _ s₁ (mkF m 0 #[.val (.ref u_DIVIDE)] [])
  refine Go.st (fun _ => XS.aloadN X0.here hx rfl (hb hby d3_0) rfl rfl) ?_
  show Go p e below s _ _ _ s₁ (mkF m 1 #[.val (.ref u_DIVIDE)] [(.ref u_DIVIDE)])
  obtain ⟨T1, X1, e1, st1⟩ := getS2 X0 hx hZ hown (host := "") (Or.inl (hw _ (List.mem_of_getElem? (i := 5) rfl))) Via.refl e0 S_OR (g := (mkF m 1 #[.val (.ref u_DIVIDE)] [(.ref u_DIVIDE)])) rfl (hb hby d3_1)
  refine Go.st st1 ?_
  show Go p e below s _ _ _ T1 (mkF m 4 #[.val (.ref u_DIVIDE)] [(.ref u_OR), (.ref u_DIVIDE)])
  refine Go.st (fun _ => Jvm.RoadKit.acmp (g := (mkF m 4 #[.val (.ref u_DIVIDE)] [(.ref u_OR), (.ref u_DIVIDE)])) X1 hx rfl rfl rfl (pc0 := 4) (pc' := 9) (same := false) rfl (hb hby d3_4) rfl (decide_eq_false fun q => (Ne.symm ne_u_OR_u_DIVIDE) (Value.ref.inj q)) (by decide) (by decide)) ?_
  show Go p e below s _ _ _ T1 (mkF m 9 #[.val (.ref u_DIVIDE)] [])
  refine Go.st (fun _ => XS.aloadN X1.here hx rfl (hb hby d3_9) rfl rfl) ?_
  show Go p e below s _ _ _ T1 (mkF m 10 #[.val (.ref u_DIVIDE)] [(.ref u_DIVIDE)])
  obtain ⟨T2, X2, e2, st2⟩ := getS2 X1 hx hZ hown (host := "") (Or.inl (hw _ (List.mem_of_getElem? (i := 25) rfl))) Via.refl e1 S_AND (g := (mkF m 10 #[.val (.ref u_DIVIDE)] [(.ref u_DIVIDE)])) rfl (hb hby d3_10)
  refine Go.st st2 ?_
  show Go p e below s _ _ _ T2 (mkF m 13 #[.val (.ref u_DIVIDE)] [(.ref u_AND), (.ref u_DIVIDE)])
  refine Go.st (fun _ => Jvm.RoadKit.acmp (g := (mkF m 13 #[.val (.ref u_DIVIDE)] [(.ref u_AND), (.ref u_DIVIDE)])) X2 hx rfl rfl rfl (pc0 := 13) (pc' := 18) (same := false) rfl (hb hby d3_13) rfl (decide_eq_false fun q => (Ne.symm ne_u_AND_u_DIVIDE) (Value.ref.inj q)) (by decide) (by decide)) ?_
  show Go p e below s _ _ _ T2 (mkF m 18 #[.val (.ref u_DIVIDE)] [])
  refine Go.st (fun _ => XS.aloadN X2.here hx rfl (hb hby d3_18) rfl rfl) ?_
  show Go p e below s _ _ _ T2 (mkF m 19 #[.val (.ref u_DIVIDE)] [(.ref u_DIVIDE)])
  obtain ⟨T3, X3, e3, st3⟩ := getS2 X2 hx hZ hown (host := "") (Or.inl (hw _ (List.mem_of_getElem? (i := 27) rfl))) Via.refl e2 S_EQUAL (g := (mkF m 19 #[.val (.ref u_DIVIDE)] [(.ref u_DIVIDE)])) rfl (hb hby d3_19)
  refine Go.st st3 ?_
  show Go p e below s _ _ _ T3 (mkF m 22 #[.val (.ref u_DIVIDE)] [(.ref u_EQUAL), (.ref u_DIVIDE)])
  refine Go.st (fun _ => Jvm.RoadKit.acmp (g := (mkF m 22 #[.val (.ref u_DIVIDE)] [(.ref u_EQUAL), (.ref u_DIVIDE)])) X3 hx rfl rfl rfl (pc0 := 22) (pc' := 27) (same := false) rfl (hb hby d3_22) rfl (decide_eq_false fun q => (Ne.symm ne_u_EQUAL_u_DIVIDE) (Value.ref.inj q)) (by decide) (by decide)) ?_
  show Go p e below s _ _ _ T3 (mkF m 27 #[.val (.ref u_DIVIDE)] [])
  refine Go.st (fun _ => XS.aloadN X3.here hx rfl (hb hby d3_27) rfl rfl) ?_
  show Go p e below s _ _ _ T3 (mkF m 28 #[.val (.ref u_DIVIDE)] [(.ref u_DIVIDE)])
  obtain ⟨T4, X4, e4, st4⟩ := getS2 X3 hx hZ hown (host := "") (Or.inl (hw _ (List.mem_of_getElem? (i := 29) rfl))) Via.refl e3 S_NOT_EQUAL (g := (mkF m 28 #[.val (.ref u_DIVIDE)] [(.ref u_DIVIDE)])) rfl (hb hby d3_28)
  refine Go.st st4 ?_
  show Go p e below s _ _ _ T4 (mkF m 31 #[.val (.ref u_DIVIDE)] [(.ref u_NOT_EQUAL), (.ref u_DIVIDE)])
  refine Go.st (fun _ => Jvm.RoadKit.acmp (g := (mkF m 31 #[.val (.ref u_DIVIDE)] [(.ref u_NOT_EQUAL), (.ref u_DIVIDE)])) X4 hx rfl rfl rfl (pc0 := 31) (pc' := 36) (same := false) rfl (hb hby d3_31) rfl (decide_eq_false fun q => (Ne.symm ne_u_NOT_EQUAL_u_DIVIDE) (Value.ref.inj q)) (by decide) (by decide)) ?_
  show Go p e below s _ _ _ T4 (mkF m 36 #[.val (.ref u_DIVIDE)] [])
  refine Go.st (fun _ => XS.aloadN X4.here hx rfl (hb hby d3_36) rfl rfl) ?_
  show Go p e below s _ _ _ T4 (mkF m 37 #[.val (.ref u_DIVIDE)] [(.ref u_DIVIDE)])
  obtain ⟨T5, X5, e5, st5⟩ := getS2 X4 hx hZ hown (host := "") (Or.inl (hw _ (List.mem_of_getElem? (i := 24) rfl))) Via.refl e4 S_LESS (g := (mkF m 37 #[.val (.ref u_DIVIDE)] [(.ref u_DIVIDE)])) rfl (hb hby d3_37)
  refine Go.st st5 ?_
  show Go p e below s _ _ _ T5 (mkF m 40 #[.val (.ref u_DIVIDE)] [(.ref u_LESS), (.ref u_DIVIDE)])
  refine Go.st (fun _ => Jvm.RoadKit.acmp (g := (mkF m 40 #[.val (.ref u_DIVIDE)] [(.ref u_LESS), (.ref u_DIVIDE)])) X5 hx rfl rfl rfl (pc0 := 40) (pc' := 45) (same := false) rfl (hb hby d3_40) rfl (decide_eq_false fun q => (Ne.symm ne_u_LESS_u_DIVIDE) (Value.ref.inj q)) (by decide) (by decide)) ?_
  show Go p e below s _ _ _ T5 (mkF m 45 #[.val (.ref u_DIVIDE)] [])
  refine Go.st (fun _ => XS.aloadN X5.here hx rfl (hb hby d3_45) rfl rfl) ?_
  show Go p e below s _ _ _ T5 (mkF m 46 #[.val (.ref u_DIVIDE)] [(.ref u_DIVIDE)])
  obtain ⟨T6, X6, e6, st6⟩ := getS2 X5 hx hZ hown (host := "") (Or.inl (hw _ (List.mem_of_getElem? (i := 31) rfl))) Via.refl e5 S_LESS_OR_EQUAL (g := (mkF m 46 #[.val (.ref u_DIVIDE)] [(.ref u_DIVIDE)])) rfl (hb hby d3_46)
  refine Go.st st6 ?_
  show Go p e below s _ _ _ T6 (mkF m 49 #[.val (.ref u_DIVIDE)] [(.ref u_LESS_OR_EQUAL), (.ref u_DIVIDE)])
  refine Go.st (fun _ => Jvm.RoadKit.acmp (g := (mkF m 49 #[.val (.ref u_DIVIDE)] [(.ref u_LESS_OR_EQUAL), (.ref u_DIVIDE)])) X6 hx rfl rfl rfl (pc0 := 49) (pc' := 54) (same := false) rfl (hb hby d3_49) rfl (decide_eq_false fun q => (Ne.symm ne_u_LESS_OR_EQUAL_u_DIVIDE) (Value.ref.inj q)) (by decide) (by decide)) ?_
  show Go p e below s _ _ _ T6 (mkF m 54 #[.val (.ref u_DIVIDE)] [])
  refine Go.st (fun _ => XS.aloadN X6.here hx rfl (hb hby d3_54) rfl rfl) ?_
  show Go p e below s _ _ _ T6 (mkF m 55 #[.val (.ref u_DIVIDE)] [(.ref u_DIVIDE)])
  obtain ⟨T7, X7, e7, st7⟩ := getS2 X6 hx hZ hown (host := "") (Or.inl (hw _ (List.mem_of_getElem? (i := 32) rfl))) Via.refl e6 S_GREATER (g := (mkF m 55 #[.val (.ref u_DIVIDE)] [(.ref u_DIVIDE)])) rfl (hb hby d3_55)
  refine Go.st st7 ?_
  show Go p e below s _ _ _ T7 (mkF m 58 #[.val (.ref u_DIVIDE)] [(.ref u_GREATER), (.ref u_DIVIDE)])
  refine Go.st (fun _ => Jvm.RoadKit.acmp (g := (mkF m 58 #[.val (.ref u_DIVIDE)] [(.ref u_GREATER), (.ref u_DIVIDE)])) X7 hx rfl rfl rfl (pc0 := 58) (pc' := 64) (same := false) rfl (hb hby d3_58) rfl (decide_eq_false fun q => (Ne.symm ne_u_GREATER_u_DIVIDE) (Value.ref.inj q)) (by decide) (by decide)) ?_
  show Go p e below s _ _ _ T7 (mkF m 64 #[.val (.ref u_DIVIDE)] [])
  refine Go.st (fun _ => XS.aloadN X7.here hx rfl (hb hby d3_64) rfl rfl) ?_
  show Go p e below s _ _ _ T7 (mkF m 65 #[.val (.ref u_DIVIDE)] [(.ref u_DIVIDE)])
  obtain ⟨T8, X8, e8, st8⟩ := getS2 X7 hx hZ hown (host := "") (Or.inl (hw _ (List.mem_of_getElem? (i := 36) rfl))) Via.refl e7 S_GREATER_OR_EQUAL (g := (mkF m 65 #[.val (.ref u_DIVIDE)] [(.ref u_DIVIDE)])) rfl (hb hby d3_65)
  refine Go.st st8 ?_
  show Go p e below s _ _ _ T8 (mkF m 68 #[.val (.ref u_DIVIDE)] [(.ref u_GREATER_OR_EQUAL), (.ref u_DIVIDE)])
  refine Go.st (fun _ => Jvm.RoadKit.acmp (g := (mkF m 68 #[.val (.ref u_DIVIDE)] [(.ref u_GREATER_OR_EQUAL), (.ref u_DIVIDE)])) X8 hx rfl rfl rfl (pc0 := 68) (pc' := 74) (same := false) rfl (hb hby d3_68) rfl (decide_eq_false fun q => (Ne.symm ne_u_GREATER_OR_EQUAL_u_DIVIDE) (Value.ref.inj q)) (by decide) (by decide)) ?_
  show Go p e below s _ _ _ T8 (mkF m 74 #[.val (.ref u_DIVIDE)] [])
  refine Go.st (fun _ => XS.aloadN X8.here hx rfl (hb hby d3_74) rfl rfl) ?_
  show Go p e below s _ _ _ T8 (mkF m 75 #[.val (.ref u_DIVIDE)] [(.ref u_DIVIDE)])
  obtain ⟨T9, X9, e9, st9⟩ := getS2 X8 hx hZ hown (host := "") (Or.inl (hw _ (List.mem_of_getElem? (i := 39) rfl))) Via.refl e8 S_PLUS (g := (mkF m 75 #[.val (.ref u_DIVIDE)] [(.ref u_DIVIDE)])) rfl (hb hby d3_75)
  refine Go.st st9 ?_
  show Go p e below s _ _ _ T9 (mkF m 78 #[.val (.ref u_DIVIDE)] [(.ref u_PLUS), (.ref u_DIVIDE)])
  refine Go.st (fun _ => Jvm.RoadKit.acmp (g := (mkF m 78 #[.val (.ref u_DIVIDE)] [(.ref u_PLUS), (.ref u_DIVIDE)])) X9 hx rfl rfl rfl (pc0 := 78) (pc' := 84) (same := false) rfl (hb hby d3_78) rfl (decide_eq_false fun q => (Ne.symm ne_u_PLUS_u_DIVIDE) (Value.ref.inj q)) (by decide) (by decide)) ?_
  show Go p e below s _ _ _ T9 (mkF m 84 #[.val (.ref u_DIVIDE)] [])
  refine Go.st (fun _ => XS.aloadN X9.here hx rfl (hb hby d3_84) rfl rfl) ?_
  show Go p e below s _ _ _ T9 (mkF m 85 #[.val (.ref u_DIVIDE)] [(.ref u_DIVIDE)])
  obtain ⟨T10, X10, e10, st10⟩ := getS2 X9 hx hZ hown (host := "") (Or.inl (hw _ (List.mem_of_getElem? (i := 41) rfl))) Via.refl e9 S_MINUS (g := (mkF m 85 #[.val (.ref u_DIVIDE)] [(.ref u_DIVIDE)])) rfl (hb hby d3_85)
  refine Go.st st10 ?_
  show Go p e below s _ _ _ T10 (mkF m 88 #[.val (.ref u_DIVIDE)] [(.ref u_MINUS), (.ref u_DIVIDE)])
  refine Go.st (fun _ => Jvm.RoadKit.acmp (g := (mkF m 88 #[.val (.ref u_DIVIDE)] [(.ref u_MINUS), (.ref u_DIVIDE)])) X10 hx rfl rfl rfl (pc0 := 88) (pc' := 94) (same := false) rfl (hb hby d3_88) rfl (decide_eq_false fun q => (Ne.symm ne_u_MINUS_u_DIVIDE) (Value.ref.inj q)) (by decide) (by decide)) ?_
  show Go p e below s _ _ _ T10 (mkF m 94 #[.val (.ref u_DIVIDE)] [])
  refine Go.st (fun _ => XS.aloadN X10.here hx rfl (hb hby d3_94) rfl rfl) ?_
  show Go p e below s _ _ _ T10 (mkF m 95 #[.val (.ref u_DIVIDE)] [(.ref u_DIVIDE)])
  obtain ⟨T11, X11, e11, st11⟩ := getS2 X10 hx hZ hown (host := "") (Or.inl (hw _ (List.mem_of_getElem? (i := 37) rfl))) Via.refl e10 S_MULTIPLY (g := (mkF m 95 #[.val (.ref u_DIVIDE)] [(.ref u_DIVIDE)])) rfl (hb hby d3_95)
  refine Go.st st11 ?_
  show Go p e below s _ _ _ T11 (mkF m 98 #[.val (.ref u_DIVIDE)] [(.ref u_MULTIPLY), (.ref u_DIVIDE)])
  refine Go.st (fun _ => Jvm.RoadKit.acmp (g := (mkF m 98 #[.val (.ref u_DIVIDE)] [(.ref u_MULTIPLY), (.ref u_DIVIDE)])) X11 hx rfl rfl rfl (pc0 := 98) (pc' := 104) (same := false) rfl (hb hby d3_98) rfl (decide_eq_false fun q => (Ne.symm ne_u_MULTIPLY_u_DIVIDE) (Value.ref.inj q)) (by decide) (by decide)) ?_
  show Go p e below s _ _ _ T11 (mkF m 104 #[.val (.ref u_DIVIDE)] [])
  refine Go.st (fun _ => XS.aloadN X11.here hx rfl (hb hby d3_104) rfl rfl) ?_
  show Go p e below s _ _ _ T11 (mkF m 105 #[.val (.ref u_DIVIDE)] [(.ref u_DIVIDE)])
  obtain ⟨T12, X12, e12, st12⟩ := getS2 X11 hx hZ hown (host := "") (Or.inl (hw _ (List.mem_of_getElem? (i := 45) rfl))) Via.refl e11 S_DIVIDE (g := (mkF m 105 #[.val (.ref u_DIVIDE)] [(.ref u_DIVIDE)])) rfl (hb hby d3_105)
  refine Go.st st12 ?_
  show Go p e below s _ _ _ T12 (mkF m 108 #[.val (.ref u_DIVIDE)] [(.ref u_DIVIDE), (.ref u_DIVIDE)])
  refine Go.st (fun _ => Jvm.RoadKit.acmp (g := (mkF m 108 #[.val (.ref u_DIVIDE)] [(.ref u_DIVIDE), (.ref u_DIVIDE)])) X12 hx rfl rfl rfl (pc0 := 108) (pc' := 111) (same := true) rfl (hb hby d3_108) rfl (decide_eq_true rfl) (by decide) (by decide)) ?_
  show Go p e below s _ _ _ T12 (mkF m 111 #[.val (.ref u_DIVIDE)] [])
  refine Go.st (fun _ => XS.bipush X12.here hx rfl (hb hby d3_111)) ?_
  show Go p e below s _ _ _ T12 (mkF m 113 #[.val (.ref u_DIVIDE)] [(.int (11 : Int32))])
  exact Go.retI X12 hx hlk Bd.returns (hb hby d3_113) (by rw [e12]; exact ⟨rfl, N0, rfl⟩) (by decide) (by decide)
theorem d1_113 : decode method_3_code 113 = .ok (.iload_n 0, 1) := by decide +kernel
theorem d1_114 : decode method_3_code 114 = .ok (.bipush 12, 2) := by decide +kernel
theorem d1_116 : decode method_3_code 116 = .ok (.if_icmp .ne 7, 3) := by decide +kernel
theorem d1_119 : decode method_3_code 119 = .ok (.getstatic 65, 3) := by decide +kernel
theorem d1_122 : decode method_3_code 122 = .ok (.areturn, 1) := by decide +kernel
theorem ef_rmP12 (m : MethodId)  : entryFrame m #[(.int (12 : Int32))] 1 = mkF m 0 #[.val (.int (12 : Int32))] [] := by first | (simp [entryFrame, mkF, argsToLocals, Value.category]; done) | rfl
def QrmP12 (Z : State) (u_MODULO : Addr) (h0 : Heap) (n0 : Nat) (rV : Option Value) (hE : Heap) (LE : List Loc) : Prop := rV = some (.ref u_MODULO) ∧ Fr n0 LE ∧ hE = h0
set_option maxRecDepth 65536 in
set_option maxHeartbeats 40000000 in
theorem rmP12 (l : Launch) (Z : State) (a0 : Array Value) (hw : ∀ d ∈ tables_1, d.before a0 Z = true) (ws : List Jvm.Cond) (u_MODULO : Addr) (h0 : Heap) (n0 : Nat) (Z0 : n0 ≤ h0.size) (S_MODULO : Sta Z h0 "com/example/moat/moat/xpath/Operation$Operator" "MODULO" "Lcom/example/moat/moat/xpath/Operation$Operator;" (.ref u_MODULO)) :
    MetFree l (⟨"com/example/moat/moat/xpath/OperatorFlippedPinLaw", "pick", "(I)Lcom/example/moat/moat/xpath/Operation$Operator;"⟩ : MethodName) (head1 (Jvm.Cond.code (⟨"com/example/moat/moat/xpath/OperatorFlippedPinLaw", "pick", "(I)Lcom/example/moat/moat/xpath/Operation$Operator;"⟩ : MethodName) method_3_code 1 (some (.object "com/example/moat/moat/xpath/Operation$Operator")) :: ws) ({ frames := 0, cells := 0, slots := 0, locals := 0 } : Room)) (fun aA UA => aA = #[(.int (12 : Int32))] ∧ Z.Warmed39 UA.vm ∧ UA.heap = h0) (fun _ _ _ _ _ => True) (fun _ UA oA UB => ∃ rV LE, oA = .returned rV ∧ QrmP12 Z u_MODULO h0 n0 rV UB.heap LE ∧ FrameEnd UA oA UB LE ({ frames := 0, cells := 0, slots := 0, locals := 0 } : Room).cells ({ frames := 0, cells := 0, slots := 0, locals := 0 } : Room).slots) := by
  refine MetFree.of_bodySF (plainFor_of_name pn_0) hisR ?_
  intro p e s m args below meth c s₁ Bd hml0 hP hK
  obtain ⟨rfl, hZ, hh⟩ := hP
  have hx := Bd.exec
  have hby := Bd.bytes
  have hml : c.maxLocals = 1 := hml0
  have hown : s.vm.findClass "com/example/moat/moat/xpath/OperatorFlippedPinLaw" = some m.cls := findClass_of_methodNamed Bd.named
  have hnm := (name_of_methodNamed Bd.named Bd.method).1
  have hlk := Bd.notSynchronized
  have X0 : Stand p l e ({ frames := 0, cells := 0, slots := 0, locals := 0 } : Room) s m #[(.int (12 : Int32))] below meth c s₁ [] 0 0 := Stand.of_body Bd
  have e0 : s₁.heap = h0 := by rw [← hh, Bd.state]; rfl
  have N0 := Fr.nil n0
  show Go p e below s (QrmP12 Z u_MODULO h0 n0) ({ frames := 0, cells := 0, slots := 0, locals := 0 } : Room).cells ({ frames := 0, cells := 0, slots := 0, locals := 0 } : Room).slots s₁ (entryFrame m #[(.int (12 : Int32))] 1)
  refine Go.eq (ef_rmP12 m ) ?_
  show Go p e below s _ _ _ s₁ (mkF m 0 #[.val (.int (12 : Int32))] [])
  refine Go.st (fun _ => XS.iloadN X0.here hx rfl (hb hby d1_0) rfl) ?_
  show Go p e below s _ _ _ s₁ (mkF m 1 #[.val (.int (12 : Int32))] [(.int (12 : Int32))])
  refine Go.st (fun _ => XS.ifYes X0.here hx rfl (pc0 := 1) (pc' := 8) rfl (hb hby d1_1) rfl ((if0 _ _).trans (feq (by decide : ¬ ((12 : Int32) = (0 : Int32)))).2) (by decide) (by decide)) ?_
  show Go p e below s _ _ _ s₁ (mkF m 8 #[.val (.int (12 : Int32))] [])
  refine Go.st (fun _ => XS.iloadN X0.here hx rfl (hb hby d1_8) rfl) ?_
  show Go p e below s _ _ _ s₁ (mkF m 9 #[.val (.int (12 : Int32))] [(.int (12 : Int32))])
  refine Go.st (fun _ => XS.iconst X0.here hx rfl (hb hby d1_9)) ?_
  show Go p e below s _ _ _ s₁ (mkF m 10 #[.val (.int (12 : Int32))] [(.int (1 : Int32)), (.int (12 : Int32))])
  refine Go.st (fun _ => XS.icmpYes X0.here hx rfl (pc0 := 10) (pc' := 17) rfl (hb hby d1_10) rfl (feq (by decide : ¬ ((12 : Int32) = (1 : Int32)))).2 (by decide) (by decide)) ?_
  show Go p e below s _ _ _ s₁ (mkF m 17 #[.val (.int (12 : Int32))] [])
  refine Go.st (fun _ => XS.iloadN X0.here hx rfl (hb hby d1_17) rfl) ?_
  show Go p e below s _ _ _ s₁ (mkF m 18 #[.val (.int (12 : Int32))] [(.int (12 : Int32))])
  refine Go.st (fun _ => XS.iconst X0.here hx rfl (hb hby d1_18)) ?_
  show Go p e below s _ _ _ s₁ (mkF m 19 #[.val (.int (12 : Int32))] [(.int (2 : Int32)), (.int (12 : Int32))])
  refine Go.st (fun _ => XS.icmpYes X0.here hx rfl (pc0 := 19) (pc' := 26) rfl (hb hby d1_19) rfl (feq (by decide : ¬ ((12 : Int32) = (2 : Int32)))).2 (by decide) (by decide)) ?_
  show Go p e below s _ _ _ s₁ (mkF m 26 #[.val (.int (12 : Int32))] [])
  refine Go.st (fun _ => XS.iloadN X0.here hx rfl (hb hby d1_26) rfl) ?_
  show Go p e below s _ _ _ s₁ (mkF m 27 #[.val (.int (12 : Int32))] [(.int (12 : Int32))])
  refine Go.st (fun _ => XS.iconst X0.here hx rfl (hb hby d1_27)) ?_
  show Go p e below s _ _ _ s₁ (mkF m 28 #[.val (.int (12 : Int32))] [(.int (3 : Int32)), (.int (12 : Int32))])
  refine Go.st (fun _ => XS.icmpYes X0.here hx rfl (pc0 := 28) (pc' := 35) rfl (hb hby d1_28) rfl (feq (by decide : ¬ ((12 : Int32) = (3 : Int32)))).2 (by decide) (by decide)) ?_
  show Go p e below s _ _ _ s₁ (mkF m 35 #[.val (.int (12 : Int32))] [])
  refine Go.st (fun _ => XS.iloadN X0.here hx rfl (hb hby d1_35) rfl) ?_
  show Go p e below s _ _ _ s₁ (mkF m 36 #[.val (.int (12 : Int32))] [(.int (12 : Int32))])
  refine Go.st (fun _ => XS.iconst X0.here hx rfl (hb hby d1_36)) ?_
  show Go p e below s _ _ _ s₁ (mkF m 37 #[.val (.int (12 : Int32))] [(.int (4 : Int32)), (.int (12 : Int32))])
  refine Go.st (fun _ => XS.icmpYes X0.here hx rfl (pc0 := 37) (pc' := 44) rfl (hb hby d1_37) rfl (feq (by decide : ¬ ((12 : Int32) = (4 : Int32)))).2 (by decide) (by decide)) ?_
  show Go p e below s _ _ _ s₁ (mkF m 44 #[.val (.int (12 : Int32))] [])
  refine Go.st (fun _ => XS.iloadN X0.here hx rfl (hb hby d1_44) rfl) ?_
  show Go p e below s _ _ _ s₁ (mkF m 45 #[.val (.int (12 : Int32))] [(.int (12 : Int32))])
  refine Go.st (fun _ => XS.iconst X0.here hx rfl (hb hby d1_45)) ?_
  show Go p e below s _ _ _ s₁ (mkF m 46 #[.val (.int (12 : Int32))] [(.int (5 : Int32)), (.int (12 : Int32))])
  refine Go.st (fun _ => XS.icmpYes X0.here hx rfl (pc0 := 46) (pc' := 53) rfl (hb hby d1_46) rfl (feq (by decide : ¬ ((12 : Int32) = (5 : Int32)))).2 (by decide) (by decide)) ?_
  show Go p e below s _ _ _ s₁ (mkF m 53 #[.val (.int (12 : Int32))] [])
  refine Go.st (fun _ => XS.iloadN X0.here hx rfl (hb hby d1_53) rfl) ?_
  show Go p e below s _ _ _ s₁ (mkF m 54 #[.val (.int (12 : Int32))] [(.int (12 : Int32))])
  refine Go.st (fun _ => XS.bipush X0.here hx rfl (hb hby d1_54)) ?_
  show Go p e below s _ _ _ s₁ (mkF m 56 #[.val (.int (12 : Int32))] [(.int (6 : Int32)), (.int (12 : Int32))])
  refine Go.st (fun _ => XS.icmpYes X0.here hx rfl (pc0 := 56) (pc' := 63) rfl (hb hby d1_56) rfl (feq (by decide : ¬ ((12 : Int32) = (6 : Int32)))).2 (by decide) (by decide)) ?_
  show Go p e below s _ _ _ s₁ (mkF m 63 #[.val (.int (12 : Int32))] [])
  refine Go.st (fun _ => XS.iloadN X0.here hx rfl (hb hby d1_63) rfl) ?_
  show Go p e below s _ _ _ s₁ (mkF m 64 #[.val (.int (12 : Int32))] [(.int (12 : Int32))])
  refine Go.st (fun _ => XS.bipush X0.here hx rfl (hb hby d1_64)) ?_
  show Go p e below s _ _ _ s₁ (mkF m 66 #[.val (.int (12 : Int32))] [(.int (7 : Int32)), (.int (12 : Int32))])
  refine Go.st (fun _ => XS.icmpYes X0.here hx rfl (pc0 := 66) (pc' := 73) rfl (hb hby d1_66) rfl (feq (by decide : ¬ ((12 : Int32) = (7 : Int32)))).2 (by decide) (by decide)) ?_
  show Go p e below s _ _ _ s₁ (mkF m 73 #[.val (.int (12 : Int32))] [])
  refine Go.st (fun _ => XS.iloadN X0.here hx rfl (hb hby d1_73) rfl) ?_
  show Go p e below s _ _ _ s₁ (mkF m 74 #[.val (.int (12 : Int32))] [(.int (12 : Int32))])
  refine Go.st (fun _ => XS.bipush X0.here hx rfl (hb hby d1_74)) ?_
  show Go p e below s _ _ _ s₁ (mkF m 76 #[.val (.int (12 : Int32))] [(.int (8 : Int32)), (.int (12 : Int32))])
  refine Go.st (fun _ => XS.icmpYes X0.here hx rfl (pc0 := 76) (pc' := 83) rfl (hb hby d1_76) rfl (feq (by decide : ¬ ((12 : Int32) = (8 : Int32)))).2 (by decide) (by decide)) ?_
  show Go p e below s _ _ _ s₁ (mkF m 83 #[.val (.int (12 : Int32))] [])
  refine Go.st (fun _ => XS.iloadN X0.here hx rfl (hb hby d1_83) rfl) ?_
  show Go p e below s _ _ _ s₁ (mkF m 84 #[.val (.int (12 : Int32))] [(.int (12 : Int32))])
  refine Go.st (fun _ => XS.bipush X0.here hx rfl (hb hby d1_84)) ?_
  show Go p e below s _ _ _ s₁ (mkF m 86 #[.val (.int (12 : Int32))] [(.int (9 : Int32)), (.int (12 : Int32))])
  refine Go.st (fun _ => XS.icmpYes X0.here hx rfl (pc0 := 86) (pc' := 93) rfl (hb hby d1_86) rfl (feq (by decide : ¬ ((12 : Int32) = (9 : Int32)))).2 (by decide) (by decide)) ?_
  show Go p e below s _ _ _ s₁ (mkF m 93 #[.val (.int (12 : Int32))] [])
  refine Go.st (fun _ => XS.iloadN X0.here hx rfl (hb hby d1_93) rfl) ?_
  show Go p e below s _ _ _ s₁ (mkF m 94 #[.val (.int (12 : Int32))] [(.int (12 : Int32))])
  refine Go.st (fun _ => XS.bipush X0.here hx rfl (hb hby d1_94)) ?_
  show Go p e below s _ _ _ s₁ (mkF m 96 #[.val (.int (12 : Int32))] [(.int (10 : Int32)), (.int (12 : Int32))])
  refine Go.st (fun _ => XS.icmpYes X0.here hx rfl (pc0 := 96) (pc' := 103) rfl (hb hby d1_96) rfl (feq (by decide : ¬ ((12 : Int32) = (10 : Int32)))).2 (by decide) (by decide)) ?_
  show Go p e below s _ _ _ s₁ (mkF m 103 #[.val (.int (12 : Int32))] [])
  refine Go.st (fun _ => XS.iloadN X0.here hx rfl (hb hby d1_103) rfl) ?_
  show Go p e below s _ _ _ s₁ (mkF m 104 #[.val (.int (12 : Int32))] [(.int (12 : Int32))])
  refine Go.st (fun _ => XS.bipush X0.here hx rfl (hb hby d1_104)) ?_
  show Go p e below s _ _ _ s₁ (mkF m 106 #[.val (.int (12 : Int32))] [(.int (11 : Int32)), (.int (12 : Int32))])
  refine Go.st (fun _ => XS.icmpYes X0.here hx rfl (pc0 := 106) (pc' := 113) rfl (hb hby d1_106) rfl (feq (by decide : ¬ ((12 : Int32) = (11 : Int32)))).2 (by decide) (by decide)) ?_
  show Go p e below s _ _ _ s₁ (mkF m 113 #[.val (.int (12 : Int32))] [])
  refine Go.st (fun _ => XS.iloadN X0.here hx rfl (hb hby d1_113) rfl) ?_
  show Go p e below s _ _ _ s₁ (mkF m 114 #[.val (.int (12 : Int32))] [(.int (12 : Int32))])
  refine Go.st (fun _ => XS.bipush X0.here hx rfl (hb hby d1_114)) ?_
  show Go p e below s _ _ _ s₁ (mkF m 116 #[.val (.int (12 : Int32))] [(.int (12 : Int32)), (.int (12 : Int32))])
  refine Go.st (fun _ => XS.icmpNo X0.here hx rfl (hb hby d1_116) rfl (teq (by decide : (12 : Int32) = (12 : Int32))).2) ?_
  show Go p e below s _ _ _ s₁ (mkF m 119 #[.val (.int (12 : Int32))] [])
  obtain ⟨T1, X1, e1, st1⟩ := getS2 X0 hx hZ hown (host := "") (Or.inl (hw _ (List.mem_of_getElem? (i := 47) rfl))) Via.refl e0 S_MODULO (g := (mkF m 119 #[.val (.int (12 : Int32))] [])) rfl (hb hby d1_119)
  refine Go.st st1 ?_
  show Go p e below s _ _ _ T1 (mkF m 122 #[.val (.int (12 : Int32))] [(.ref u_MODULO)])
  exact Go.retA X1 hx hlk Bd.returns rfl rfl (hb hby d1_122) (by rw [e1]; exact ⟨rfl, N0, rfl⟩) (by decide) (by decide)
theorem d3_114 : decode method_4_code 114 = .ok (.aload_n 0, 1) := by decide +kernel
theorem d3_115 : decode method_4_code 115 = .ok (.getstatic 65, 3) := by decide +kernel
theorem d3_118 : decode method_4_code 118 = .ok (.if_acmp .ne 6, 3) := by decide +kernel
theorem d3_121 : decode method_4_code 121 = .ok (.bipush 12, 2) := by decide +kernel
theorem d3_123 : decode method_4_code 123 = .ok (.ireturn, 1) := by decide +kernel
theorem ef_rmX12 (m : MethodId) (u_MODULO : Addr) : entryFrame m #[(.ref u_MODULO)] 1 = mkF m 0 #[.val (.ref u_MODULO)] [] := by first | (simp [entryFrame, mkF, argsToLocals, Value.category]; done) | rfl
def QrmX12 (Z : State) (u_MODULO : Addr) (u_OR : Addr) (u_AND : Addr) (u_EQUAL : Addr) (u_NOT_EQUAL : Addr) (u_LESS : Addr) (u_LESS_OR_EQUAL : Addr) (u_GREATER : Addr) (u_GREATER_OR_EQUAL : Addr) (u_PLUS : Addr) (u_MINUS : Addr) (u_MULTIPLY : Addr) (u_DIVIDE : Addr) (h0 : Heap) (n0 : Nat) (rV : Option Value) (hE : Heap) (LE : List Loc) : Prop := rV = some (.int (12 : Int32)) ∧ Fr n0 LE ∧ hE = h0
set_option maxRecDepth 65536 in
set_option maxHeartbeats 40000000 in
theorem rmX12 (l : Launch) (Z : State) (a0 : Array Value) (hw : ∀ d ∈ tables_1, d.before a0 Z = true) (ws : List Jvm.Cond) (u_MODULO : Addr) (u_OR : Addr) (u_AND : Addr) (u_EQUAL : Addr) (u_NOT_EQUAL : Addr) (u_LESS : Addr) (u_LESS_OR_EQUAL : Addr) (u_GREATER : Addr) (u_GREATER_OR_EQUAL : Addr) (u_PLUS : Addr) (u_MINUS : Addr) (u_MULTIPLY : Addr) (u_DIVIDE : Addr) (h0 : Heap) (n0 : Nat) (Z0 : n0 ≤ h0.size) (S_OR : Sta Z h0 "com/example/moat/moat/xpath/Operation$Operator" "OR" "Lcom/example/moat/moat/xpath/Operation$Operator;" (.ref u_OR)) (S_AND : Sta Z h0 "com/example/moat/moat/xpath/Operation$Operator" "AND" "Lcom/example/moat/moat/xpath/Operation$Operator;" (.ref u_AND)) (S_EQUAL : Sta Z h0 "com/example/moat/moat/xpath/Operation$Operator" "EQUAL" "Lcom/example/moat/moat/xpath/Operation$Operator;" (.ref u_EQUAL)) (S_NOT_EQUAL : Sta Z h0 "com/example/moat/moat/xpath/Operation$Operator" "NOT_EQUAL" "Lcom/example/moat/moat/xpath/Operation$Operator;" (.ref u_NOT_EQUAL)) (S_LESS : Sta Z h0 "com/example/moat/moat/xpath/Operation$Operator" "LESS" "Lcom/example/moat/moat/xpath/Operation$Operator;" (.ref u_LESS)) (S_LESS_OR_EQUAL : Sta Z h0 "com/example/moat/moat/xpath/Operation$Operator" "LESS_OR_EQUAL" "Lcom/example/moat/moat/xpath/Operation$Operator;" (.ref u_LESS_OR_EQUAL)) (S_GREATER : Sta Z h0 "com/example/moat/moat/xpath/Operation$Operator" "GREATER" "Lcom/example/moat/moat/xpath/Operation$Operator;" (.ref u_GREATER)) (S_GREATER_OR_EQUAL : Sta Z h0 "com/example/moat/moat/xpath/Operation$Operator" "GREATER_OR_EQUAL" "Lcom/example/moat/moat/xpath/Operation$Operator;" (.ref u_GREATER_OR_EQUAL)) (S_PLUS : Sta Z h0 "com/example/moat/moat/xpath/Operation$Operator" "PLUS" "Lcom/example/moat/moat/xpath/Operation$Operator;" (.ref u_PLUS)) (S_MINUS : Sta Z h0 "com/example/moat/moat/xpath/Operation$Operator" "MINUS" "Lcom/example/moat/moat/xpath/Operation$Operator;" (.ref u_MINUS)) (S_MULTIPLY : Sta Z h0 "com/example/moat/moat/xpath/Operation$Operator" "MULTIPLY" "Lcom/example/moat/moat/xpath/Operation$Operator;" (.ref u_MULTIPLY)) (S_DIVIDE : Sta Z h0 "com/example/moat/moat/xpath/Operation$Operator" "DIVIDE" "Lcom/example/moat/moat/xpath/Operation$Operator;" (.ref u_DIVIDE)) (S_MODULO : Sta Z h0 "com/example/moat/moat/xpath/Operation$Operator" "MODULO" "Lcom/example/moat/moat/xpath/Operation$Operator;" (.ref u_MODULO)) (ne_u_OR_u_MODULO : u_OR ≠ u_MODULO) (ne_u_AND_u_MODULO : u_AND ≠ u_MODULO) (ne_u_EQUAL_u_MODULO : u_EQUAL ≠ u_MODULO) (ne_u_NOT_EQUAL_u_MODULO : u_NOT_EQUAL ≠ u_MODULO) (ne_u_LESS_u_MODULO : u_LESS ≠ u_MODULO) (ne_u_LESS_OR_EQUAL_u_MODULO : u_LESS_OR_EQUAL ≠ u_MODULO) (ne_u_GREATER_u_MODULO : u_GREATER ≠ u_MODULO) (ne_u_GREATER_OR_EQUAL_u_MODULO : u_GREATER_OR_EQUAL ≠ u_MODULO) (ne_u_PLUS_u_MODULO : u_PLUS ≠ u_MODULO) (ne_u_MINUS_u_MODULO : u_MINUS ≠ u_MODULO) (ne_u_MULTIPLY_u_MODULO : u_MULTIPLY ≠ u_MODULO) (ne_u_DIVIDE_u_MODULO : u_DIVIDE ≠ u_MODULO) :
    MetFree l (⟨"com/example/moat/moat/xpath/OperatorFlippedPinLaw", "index", "(Lcom/example/moat/moat/xpath/Operation$Operator;)I"⟩ : MethodName) (head1 (Jvm.Cond.code (⟨"com/example/moat/moat/xpath/OperatorFlippedPinLaw", "index", "(Lcom/example/moat/moat/xpath/Operation$Operator;)I"⟩ : MethodName) method_4_code 1 (some .int) :: ws) ({ frames := 0, cells := 0, slots := 0, locals := 0 } : Room)) (fun aA UA => aA = #[(.ref u_MODULO)] ∧ Z.Warmed39 UA.vm ∧ UA.heap = h0) (fun _ _ _ _ _ => True) (fun _ UA oA UB => ∃ rV LE, oA = .returned rV ∧ QrmX12 Z u_MODULO u_OR u_AND u_EQUAL u_NOT_EQUAL u_LESS u_LESS_OR_EQUAL u_GREATER u_GREATER_OR_EQUAL u_PLUS u_MINUS u_MULTIPLY u_DIVIDE h0 n0 rV UB.heap LE ∧ FrameEnd UA oA UB LE ({ frames := 0, cells := 0, slots := 0, locals := 0 } : Room).cells ({ frames := 0, cells := 0, slots := 0, locals := 0 } : Room).slots) := by
  refine MetFree.of_bodySF (plainFor_of_name pn_0) hisR ?_
  intro p e s m args below meth c s₁ Bd hml0 hP hK
  obtain ⟨rfl, hZ, hh⟩ := hP
  have hx := Bd.exec
  have hby := Bd.bytes
  have hml : c.maxLocals = 1 := hml0
  have hown : s.vm.findClass "com/example/moat/moat/xpath/OperatorFlippedPinLaw" = some m.cls := findClass_of_methodNamed Bd.named
  have hnm := (name_of_methodNamed Bd.named Bd.method).1
  have hlk := Bd.notSynchronized
  have X0 : Stand p l e ({ frames := 0, cells := 0, slots := 0, locals := 0 } : Room) s m #[(.ref u_MODULO)] below meth c s₁ [] 0 0 := Stand.of_body Bd
  have e0 : s₁.heap = h0 := by rw [← hh, Bd.state]; rfl
  have N0 := Fr.nil n0
  show Go p e below s (QrmX12 Z u_MODULO u_OR u_AND u_EQUAL u_NOT_EQUAL u_LESS u_LESS_OR_EQUAL u_GREATER u_GREATER_OR_EQUAL u_PLUS u_MINUS u_MULTIPLY u_DIVIDE h0 n0) ({ frames := 0, cells := 0, slots := 0, locals := 0 } : Room).cells ({ frames := 0, cells := 0, slots := 0, locals := 0 } : Room).slots s₁ (entryFrame m #[(.ref u_MODULO)] 1)
  refine Go.eq (ef_rmX12 m u_MODULO) ?_
  show Go p e below s _ _ _ s₁ (mkF m 0 #[.val (.ref u_MODULO)] [])
  refine Go.st (fun _ => XS.aloadN X0.here hx rfl (hb hby d3_0) rfl rfl) ?_
  show Go p e below s _ _ _ s₁ (mkF m 1 #[.val (.ref u_MODULO)] [(.ref u_MODULO)])
  obtain ⟨T1, X1, e1, st1⟩ := getS2 X0 hx hZ hown (host := "") (Or.inl (hw _ (List.mem_of_getElem? (i := 5) rfl))) Via.refl e0 S_OR (g := (mkF m 1 #[.val (.ref u_MODULO)] [(.ref u_MODULO)])) rfl (hb hby d3_1)
  refine Go.st st1 ?_
  show Go p e below s _ _ _ T1 (mkF m 4 #[.val (.ref u_MODULO)] [(.ref u_OR), (.ref u_MODULO)])
  refine Go.st (fun _ => Jvm.RoadKit.acmp (g := (mkF m 4 #[.val (.ref u_MODULO)] [(.ref u_OR), (.ref u_MODULO)])) X1 hx rfl rfl rfl (pc0 := 4) (pc' := 9) (same := false) rfl (hb hby d3_4) rfl (decide_eq_false fun q => (Ne.symm ne_u_OR_u_MODULO) (Value.ref.inj q)) (by decide) (by decide)) ?_
  show Go p e below s _ _ _ T1 (mkF m 9 #[.val (.ref u_MODULO)] [])
  refine Go.st (fun _ => XS.aloadN X1.here hx rfl (hb hby d3_9) rfl rfl) ?_
  show Go p e below s _ _ _ T1 (mkF m 10 #[.val (.ref u_MODULO)] [(.ref u_MODULO)])
  obtain ⟨T2, X2, e2, st2⟩ := getS2 X1 hx hZ hown (host := "") (Or.inl (hw _ (List.mem_of_getElem? (i := 25) rfl))) Via.refl e1 S_AND (g := (mkF m 10 #[.val (.ref u_MODULO)] [(.ref u_MODULO)])) rfl (hb hby d3_10)
  refine Go.st st2 ?_
  show Go p e below s _ _ _ T2 (mkF m 13 #[.val (.ref u_MODULO)] [(.ref u_AND), (.ref u_MODULO)])
  refine Go.st (fun _ => Jvm.RoadKit.acmp (g := (mkF m 13 #[.val (.ref u_MODULO)] [(.ref u_AND), (.ref u_MODULO)])) X2 hx rfl rfl rfl (pc0 := 13) (pc' := 18) (same := false) rfl (hb hby d3_13) rfl (decide_eq_false fun q => (Ne.symm ne_u_AND_u_MODULO) (Value.ref.inj q)) (by decide) (by decide)) ?_
  show Go p e below s _ _ _ T2 (mkF m 18 #[.val (.ref u_MODULO)] [])
  refine Go.st (fun _ => XS.aloadN X2.here hx rfl (hb hby d3_18) rfl rfl) ?_
  show Go p e below s _ _ _ T2 (mkF m 19 #[.val (.ref u_MODULO)] [(.ref u_MODULO)])
  obtain ⟨T3, X3, e3, st3⟩ := getS2 X2 hx hZ hown (host := "") (Or.inl (hw _ (List.mem_of_getElem? (i := 27) rfl))) Via.refl e2 S_EQUAL (g := (mkF m 19 #[.val (.ref u_MODULO)] [(.ref u_MODULO)])) rfl (hb hby d3_19)
  refine Go.st st3 ?_
  show Go p e below s _ _ _ T3 (mkF m 22 #[.val (.ref u_MODULO)] [(.ref u_EQUAL), (.ref u_MODULO)])
  refine Go.st (fun _ => Jvm.RoadKit.acmp (g := (mkF m 22 #[.val (.ref u_MODULO)] [(.ref u_EQUAL), (.ref u_MODULO)])) X3 hx rfl rfl rfl (pc0 := 22) (pc' := 27) (same := false) rfl (hb hby d3_22) rfl (decide_eq_false fun q => (Ne.symm ne_u_EQUAL_u_MODULO) (Value.ref.inj q)) (by decide) (by decide)) ?_
  show Go p e below s _ _ _ T3 (mkF m 27 #[.val (.ref u_MODULO)] [])
  refine Go.st (fun _ => XS.aloadN X3.here hx rfl (hb hby d3_27) rfl rfl) ?_
  show Go p e below s _ _ _ T3 (mkF m 28 #[.val (.ref u_MODULO)] [(.ref u_MODULO)])
  obtain ⟨T4, X4, e4, st4⟩ := getS2 X3 hx hZ hown (host := "") (Or.inl (hw _ (List.mem_of_getElem? (i := 29) rfl))) Via.refl e3 S_NOT_EQUAL (g := (mkF m 28 #[.val (.ref u_MODULO)] [(.ref u_MODULO)])) rfl (hb hby d3_28)
  refine Go.st st4 ?_
  show Go p e below s _ _ _ T4 (mkF m 31 #[.val (.ref u_MODULO)] [(.ref u_NOT_EQUAL), (.ref u_MODULO)])
  refine Go.st (fun _ => Jvm.RoadKit.acmp (g := (mkF m 31 #[.val (.ref u_MODULO)] [(.ref u_NOT_EQUAL), (.ref u_MODULO)])) X4 hx rfl rfl rfl (pc0 := 31) (pc' := 36) (same := false) rfl (hb hby d3_31) rfl (decide_eq_false fun q => (Ne.symm ne_u_NOT_EQUAL_u_MODULO) (Value.ref.inj q)) (by decide) (by decide)) ?_
  show Go p e below s _ _ _ T4 (mkF m 36 #[.val (.ref u_MODULO)] [])
  refine Go.st (fun _ => XS.aloadN X4.here hx rfl (hb hby d3_36) rfl rfl) ?_
  show Go p e below s _ _ _ T4 (mkF m 37 #[.val (.ref u_MODULO)] [(.ref u_MODULO)])
  obtain ⟨T5, X5, e5, st5⟩ := getS2 X4 hx hZ hown (host := "") (Or.inl (hw _ (List.mem_of_getElem? (i := 24) rfl))) Via.refl e4 S_LESS (g := (mkF m 37 #[.val (.ref u_MODULO)] [(.ref u_MODULO)])) rfl (hb hby d3_37)
  refine Go.st st5 ?_
  show Go p e below s _ _ _ T5 (mkF m 40 #[.val (.ref u_MODULO)] [(.ref u_LESS), (.ref u_MODULO)])
  refine Go.st (fun _ => Jvm.RoadKit.acmp (g := (mkF m 40 #[.val (.ref u_MODULO)] [(.ref u_LESS), (.ref u_MODULO)])) X5 hx rfl rfl rfl (pc0 := 40) (pc' := 45) (same := false) rfl (hb hby d3_40) rfl (decide_eq_false fun q => (Ne.symm ne_u_LESS_u_MODULO) (Value.ref.inj q)) (by decide) (by decide)) ?_
  show Go p e below s _ _ _ T5 (mkF m 45 #[.val (.ref u_MODULO)] [])
  refine Go.st (fun _ => XS.aloadN X5.here hx rfl (hb hby d3_45) rfl rfl) ?_
  show Go p e below s _ _ _ T5 (mkF m 46 #[.val (.ref u_MODULO)] [(.ref u_MODULO)])
  obtain ⟨T6, X6, e6, st6⟩ := getS2 X5 hx hZ hown (host := "") (Or.inl (hw _ (List.mem_of_getElem? (i := 31) rfl))) Via.refl e5 S_LESS_OR_EQUAL (g := (mkF m 46 #[.val (.ref u_MODULO)] [(.ref u_MODULO)])) rfl (hb hby d3_46)
  refine Go.st st6 ?_
  show Go p e below s _ _ _ T6 (mkF m 49 #[.val (.ref u_MODULO)] [(.ref u_LESS_OR_EQUAL), (.ref u_MODULO)])
  refine Go.st (fun _ => Jvm.RoadKit.acmp (g := (mkF m 49 #[.val (.ref u_MODULO)] [(.ref u_LESS_OR_EQUAL), (.ref u_MODULO)])) X6 hx rfl rfl rfl (pc0 := 49) (pc' := 54) (same := false) rfl (hb hby d3_49) rfl (decide_eq_false fun q => (Ne.symm ne_u_LESS_OR_EQUAL_u_MODULO) (Value.ref.inj q)) (by decide) (by decide)) ?_
  show Go p e below s _ _ _ T6 (mkF m 54 #[.val (.ref u_MODULO)] [])
  refine Go.st (fun _ => XS.aloadN X6.here hx rfl (hb hby d3_54) rfl rfl) ?_
  show Go p e below s _ _ _ T6 (mkF m 55 #[.val (.ref u_MODULO)] [(.ref u_MODULO)])
  obtain ⟨T7, X7, e7, st7⟩ := getS2 X6 hx hZ hown (host := "") (Or.inl (hw _ (List.mem_of_getElem? (i := 32) rfl))) Via.refl e6 S_GREATER (g := (mkF m 55 #[.val (.ref u_MODULO)] [(.ref u_MODULO)])) rfl (hb hby d3_55)
  refine Go.st st7 ?_
  show Go p e below s _ _ _ T7 (mkF m 58 #[.val (.ref u_MODULO)] [(.ref u_GREATER), (.ref u_MODULO)])
  refine Go.st (fun _ => Jvm.RoadKit.acmp (g := (mkF m 58 #[.val (.ref u_MODULO)] [(.ref u_GREATER), (.ref u_MODULO)])) X7 hx rfl rfl rfl (pc0 := 58) (pc' := 64) (same := false) rfl (hb hby d3_58) rfl (decide_eq_false fun q => (Ne.symm ne_u_GREATER_u_MODULO) (Value.ref.inj q)) (by decide) (by decide)) ?_
  show Go p e below s _ _ _ T7 (mkF m 64 #[.val (.ref u_MODULO)] [])
  refine Go.st (fun _ => XS.aloadN X7.here hx rfl (hb hby d3_64) rfl rfl) ?_
  show Go p e below s _ _ _ T7 (mkF m 65 #[.val (.ref u_MODULO)] [(.ref u_MODULO)])
  obtain ⟨T8, X8, e8, st8⟩ := getS2 X7 hx hZ hown (host := "") (Or.inl (hw _ (List.mem_of_getElem? (i := 36) rfl))) Via.refl e7 S_GREATER_OR_EQUAL (g := (mkF m 65 #[.val (.ref u_MODULO)] [(.ref u_MODULO)])) rfl (hb hby d3_65)
  refine Go.st st8 ?_
  show Go p e below s _ _ _ T8 (mkF m 68 #[.val (.ref u_MODULO)] [(.ref u_GREATER_OR_EQUAL), (.ref u_MODULO)])
  refine Go.st (fun _ => Jvm.RoadKit.acmp (g := (mkF m 68 #[.val (.ref u_MODULO)] [(.ref u_GREATER_OR_EQUAL), (.ref u_MODULO)])) X8 hx rfl rfl rfl (pc0 := 68) (pc' := 74) (same := false) rfl (hb hby d3_68) rfl (decide_eq_false fun q => (Ne.symm ne_u_GREATER_OR_EQUAL_u_MODULO) (Value.ref.inj q)) (by decide) (by decide)) ?_
  show Go p e below s _ _ _ T8 (mkF m 74 #[.val (.ref u_MODULO)] [])
  refine Go.st (fun _ => XS.aloadN X8.here hx rfl (hb hby d3_74) rfl rfl) ?_
  show Go p e below s _ _ _ T8 (mkF m 75 #[.val (.ref u_MODULO)] [(.ref u_MODULO)])
  obtain ⟨T9, X9, e9, st9⟩ := getS2 X8 hx hZ hown (host := "") (Or.inl (hw _ (List.mem_of_getElem? (i := 39) rfl))) Via.refl e8 S_PLUS (g := (mkF m 75 #[.val (.ref u_MODULO)] [(.ref u_MODULO)])) rfl (hb hby d3_75)
  refine Go.st st9 ?_
  show Go p e below s _ _ _ T9 (mkF m 78 #[.val (.ref u_MODULO)] [(.ref u_PLUS), (.ref u_MODULO)])
  refine Go.st (fun _ => Jvm.RoadKit.acmp (g := (mkF m 78 #[.val (.ref u_MODULO)] [(.ref u_PLUS), (.ref u_MODULO)])) X9 hx rfl rfl rfl (pc0 := 78) (pc' := 84) (same := false) rfl (hb hby d3_78) rfl (decide_eq_false fun q => (Ne.symm ne_u_PLUS_u_MODULO) (Value.ref.inj q)) (by decide) (by decide)) ?_
  show Go p e below s _ _ _ T9 (mkF m 84 #[.val (.ref u_MODULO)] [])
  refine Go.st (fun _ => XS.aloadN X9.here hx rfl (hb hby d3_84) rfl rfl) ?_
  show Go p e below s _ _ _ T9 (mkF m 85 #[.val (.ref u_MODULO)] [(.ref u_MODULO)])
  obtain ⟨T10, X10, e10, st10⟩ := getS2 X9 hx hZ hown (host := "") (Or.inl (hw _ (List.mem_of_getElem? (i := 41) rfl))) Via.refl e9 S_MINUS (g := (mkF m 85 #[.val (.ref u_MODULO)] [(.ref u_MODULO)])) rfl (hb hby d3_85)
  refine Go.st st10 ?_
  show Go p e below s _ _ _ T10 (mkF m 88 #[.val (.ref u_MODULO)] [(.ref u_MINUS), (.ref u_MODULO)])
  refine Go.st (fun _ => Jvm.RoadKit.acmp (g := (mkF m 88 #[.val (.ref u_MODULO)] [(.ref u_MINUS), (.ref u_MODULO)])) X10 hx rfl rfl rfl (pc0 := 88) (pc' := 94) (same := false) rfl (hb hby d3_88) rfl (decide_eq_false fun q => (Ne.symm ne_u_MINUS_u_MODULO) (Value.ref.inj q)) (by decide) (by decide)) ?_
  show Go p e below s _ _ _ T10 (mkF m 94 #[.val (.ref u_MODULO)] [])
  refine Go.st (fun _ => XS.aloadN X10.here hx rfl (hb hby d3_94) rfl rfl) ?_
  show Go p e below s _ _ _ T10 (mkF m 95 #[.val (.ref u_MODULO)] [(.ref u_MODULO)])
  obtain ⟨T11, X11, e11, st11⟩ := getS2 X10 hx hZ hown (host := "") (Or.inl (hw _ (List.mem_of_getElem? (i := 37) rfl))) Via.refl e10 S_MULTIPLY (g := (mkF m 95 #[.val (.ref u_MODULO)] [(.ref u_MODULO)])) rfl (hb hby d3_95)
  refine Go.st st11 ?_
  show Go p e below s _ _ _ T11 (mkF m 98 #[.val (.ref u_MODULO)] [(.ref u_MULTIPLY), (.ref u_MODULO)])
  refine Go.st (fun _ => Jvm.RoadKit.acmp (g := (mkF m 98 #[.val (.ref u_MODULO)] [(.ref u_MULTIPLY), (.ref u_MODULO)])) X11 hx rfl rfl rfl (pc0 := 98) (pc' := 104) (same := false) rfl (hb hby d3_98) rfl (decide_eq_false fun q => (Ne.symm ne_u_MULTIPLY_u_MODULO) (Value.ref.inj q)) (by decide) (by decide)) ?_
  show Go p e below s _ _ _ T11 (mkF m 104 #[.val (.ref u_MODULO)] [])
  refine Go.st (fun _ => XS.aloadN X11.here hx rfl (hb hby d3_104) rfl rfl) ?_
  show Go p e below s _ _ _ T11 (mkF m 105 #[.val (.ref u_MODULO)] [(.ref u_MODULO)])
  obtain ⟨T12, X12, e12, st12⟩ := getS2 X11 hx hZ hown (host := "") (Or.inl (hw _ (List.mem_of_getElem? (i := 45) rfl))) Via.refl e11 S_DIVIDE (g := (mkF m 105 #[.val (.ref u_MODULO)] [(.ref u_MODULO)])) rfl (hb hby d3_105)
  refine Go.st st12 ?_
  show Go p e below s _ _ _ T12 (mkF m 108 #[.val (.ref u_MODULO)] [(.ref u_DIVIDE), (.ref u_MODULO)])
  refine Go.st (fun _ => Jvm.RoadKit.acmp (g := (mkF m 108 #[.val (.ref u_MODULO)] [(.ref u_DIVIDE), (.ref u_MODULO)])) X12 hx rfl rfl rfl (pc0 := 108) (pc' := 114) (same := false) rfl (hb hby d3_108) rfl (decide_eq_false fun q => (Ne.symm ne_u_DIVIDE_u_MODULO) (Value.ref.inj q)) (by decide) (by decide)) ?_
  show Go p e below s _ _ _ T12 (mkF m 114 #[.val (.ref u_MODULO)] [])
  refine Go.st (fun _ => XS.aloadN X12.here hx rfl (hb hby d3_114) rfl rfl) ?_
  show Go p e below s _ _ _ T12 (mkF m 115 #[.val (.ref u_MODULO)] [(.ref u_MODULO)])
  obtain ⟨T13, X13, e13, st13⟩ := getS2 X12 hx hZ hown (host := "") (Or.inl (hw _ (List.mem_of_getElem? (i := 47) rfl))) Via.refl e12 S_MODULO (g := (mkF m 115 #[.val (.ref u_MODULO)] [(.ref u_MODULO)])) rfl (hb hby d3_115)
  refine Go.st st13 ?_
  show Go p e below s _ _ _ T13 (mkF m 118 #[.val (.ref u_MODULO)] [(.ref u_MODULO), (.ref u_MODULO)])
  refine Go.st (fun _ => Jvm.RoadKit.acmp (g := (mkF m 118 #[.val (.ref u_MODULO)] [(.ref u_MODULO), (.ref u_MODULO)])) X13 hx rfl rfl rfl (pc0 := 118) (pc' := 121) (same := true) rfl (hb hby d3_118) rfl (decide_eq_true rfl) (by decide) (by decide)) ?_
  show Go p e below s _ _ _ T13 (mkF m 121 #[.val (.ref u_MODULO)] [])
  refine Go.st (fun _ => XS.bipush X13.here hx rfl (hb hby d3_121)) ?_
  show Go p e below s _ _ _ T13 (mkF m 123 #[.val (.ref u_MODULO)] [(.int (12 : Int32))])
  exact Go.retI X13 hx hlk Bd.returns (hb hby d3_123) (by rw [e13]; exact ⟨rfl, N0, rfl⟩) (by decide) (by decide)
theorem d1_123 : decode method_3_code 123 = .ok (.getstatic 68, 3) := by decide +kernel
theorem d1_126 : decode method_3_code 126 = .ok (.areturn, 1) := by decide +kernel
theorem ef_rmP13 (m : MethodId)  : entryFrame m #[(.int (13 : Int32))] 1 = mkF m 0 #[.val (.int (13 : Int32))] [] := by first | (simp [entryFrame, mkF, argsToLocals, Value.category]; done) | rfl
def QrmP13 (Z : State) (u_NEGATE : Addr) (h0 : Heap) (n0 : Nat) (rV : Option Value) (hE : Heap) (LE : List Loc) : Prop := rV = some (.ref u_NEGATE) ∧ Fr n0 LE ∧ hE = h0
set_option maxRecDepth 65536 in
set_option maxHeartbeats 40000000 in
theorem rmP13 (l : Launch) (Z : State) (a0 : Array Value) (hw : ∀ d ∈ tables_1, d.before a0 Z = true) (ws : List Jvm.Cond) (u_NEGATE : Addr) (h0 : Heap) (n0 : Nat) (Z0 : n0 ≤ h0.size) (S_NEGATE : Sta Z h0 "com/example/moat/moat/xpath/Operation$Operator" "NEGATE" "Lcom/example/moat/moat/xpath/Operation$Operator;" (.ref u_NEGATE)) :
    MetFree l (⟨"com/example/moat/moat/xpath/OperatorFlippedPinLaw", "pick", "(I)Lcom/example/moat/moat/xpath/Operation$Operator;"⟩ : MethodName) (head1 (Jvm.Cond.code (⟨"com/example/moat/moat/xpath/OperatorFlippedPinLaw", "pick", "(I)Lcom/example/moat/moat/xpath/Operation$Operator;"⟩ : MethodName) method_3_code 1 (some (.object "com/example/moat/moat/xpath/Operation$Operator")) :: ws) ({ frames := 0, cells := 0, slots := 0, locals := 0 } : Room)) (fun aA UA => aA = #[(.int (13 : Int32))] ∧ Z.Warmed39 UA.vm ∧ UA.heap = h0) (fun _ _ _ _ _ => True) (fun _ UA oA UB => ∃ rV LE, oA = .returned rV ∧ QrmP13 Z u_NEGATE h0 n0 rV UB.heap LE ∧ FrameEnd UA oA UB LE ({ frames := 0, cells := 0, slots := 0, locals := 0 } : Room).cells ({ frames := 0, cells := 0, slots := 0, locals := 0 } : Room).slots) := by
  refine MetFree.of_bodySF (plainFor_of_name pn_0) hisR ?_
  intro p e s m args below meth c s₁ Bd hml0 hP hK
  obtain ⟨rfl, hZ, hh⟩ := hP
  have hx := Bd.exec
  have hby := Bd.bytes
  have hml : c.maxLocals = 1 := hml0
  have hown : s.vm.findClass "com/example/moat/moat/xpath/OperatorFlippedPinLaw" = some m.cls := findClass_of_methodNamed Bd.named
  have hnm := (name_of_methodNamed Bd.named Bd.method).1
  have hlk := Bd.notSynchronized
  have X0 : Stand p l e ({ frames := 0, cells := 0, slots := 0, locals := 0 } : Room) s m #[(.int (13 : Int32))] below meth c s₁ [] 0 0 := Stand.of_body Bd
  have e0 : s₁.heap = h0 := by rw [← hh, Bd.state]; rfl
  have N0 := Fr.nil n0
  show Go p e below s (QrmP13 Z u_NEGATE h0 n0) ({ frames := 0, cells := 0, slots := 0, locals := 0 } : Room).cells ({ frames := 0, cells := 0, slots := 0, locals := 0 } : Room).slots s₁ (entryFrame m #[(.int (13 : Int32))] 1)
  refine Go.eq (ef_rmP13 m ) ?_
  show Go p e below s _ _ _ s₁ (mkF m 0 #[.val (.int (13 : Int32))] [])
  refine Go.st (fun _ => XS.iloadN X0.here hx rfl (hb hby d1_0) rfl) ?_
  show Go p e below s _ _ _ s₁ (mkF m 1 #[.val (.int (13 : Int32))] [(.int (13 : Int32))])
  refine Go.st (fun _ => XS.ifYes X0.here hx rfl (pc0 := 1) (pc' := 8) rfl (hb hby d1_1) rfl ((if0 _ _).trans (feq (by decide : ¬ ((13 : Int32) = (0 : Int32)))).2) (by decide) (by decide)) ?_
  show Go p e below s _ _ _ s₁ (mkF m 8 #[.val (.int (13 : Int32))] [])
  refine Go.st (fun _ => XS.iloadN X0.here hx rfl (hb hby d1_8) rfl) ?_
  show Go p e below s _ _ _ s₁ (mkF m 9 #[.val (.int (13 : Int32))] [(.int (13 : Int32))])
  refine Go.st (fun _ => XS.iconst X0.here hx rfl (hb hby d1_9)) ?_
  show Go p e below s _ _ _ s₁ (mkF m 10 #[.val (.int (13 : Int32))] [(.int (1 : Int32)), (.int (13 : Int32))])
  refine Go.st (fun _ => XS.icmpYes X0.here hx rfl (pc0 := 10) (pc' := 17) rfl (hb hby d1_10) rfl (feq (by decide : ¬ ((13 : Int32) = (1 : Int32)))).2 (by decide) (by decide)) ?_
  show Go p e below s _ _ _ s₁ (mkF m 17 #[.val (.int (13 : Int32))] [])
  refine Go.st (fun _ => XS.iloadN X0.here hx rfl (hb hby d1_17) rfl) ?_
  show Go p e below s _ _ _ s₁ (mkF m 18 #[.val (.int (13 : Int32))] [(.int (13 : Int32))])
  refine Go.st (fun _ => XS.iconst X0.here hx rfl (hb hby d1_18)) ?_
  show Go p e below s _ _ _ s₁ (mkF m 19 #[.val (.int (13 : Int32))] [(.int (2 : Int32)), (.int (13 : Int32))])
  refine Go.st (fun _ => XS.icmpYes X0.here hx rfl (pc0 := 19) (pc' := 26) rfl (hb hby d1_19) rfl (feq (by decide : ¬ ((13 : Int32) = (2 : Int32)))).2 (by decide) (by decide)) ?_
  show Go p e below s _ _ _ s₁ (mkF m 26 #[.val (.int (13 : Int32))] [])
  refine Go.st (fun _ => XS.iloadN X0.here hx rfl (hb hby d1_26) rfl) ?_
  show Go p e below s _ _ _ s₁ (mkF m 27 #[.val (.int (13 : Int32))] [(.int (13 : Int32))])
  refine Go.st (fun _ => XS.iconst X0.here hx rfl (hb hby d1_27)) ?_
  show Go p e below s _ _ _ s₁ (mkF m 28 #[.val (.int (13 : Int32))] [(.int (3 : Int32)), (.int (13 : Int32))])
  refine Go.st (fun _ => XS.icmpYes X0.here hx rfl (pc0 := 28) (pc' := 35) rfl (hb hby d1_28) rfl (feq (by decide : ¬ ((13 : Int32) = (3 : Int32)))).2 (by decide) (by decide)) ?_
  show Go p e below s _ _ _ s₁ (mkF m 35 #[.val (.int (13 : Int32))] [])
  refine Go.st (fun _ => XS.iloadN X0.here hx rfl (hb hby d1_35) rfl) ?_
  show Go p e below s _ _ _ s₁ (mkF m 36 #[.val (.int (13 : Int32))] [(.int (13 : Int32))])
  refine Go.st (fun _ => XS.iconst X0.here hx rfl (hb hby d1_36)) ?_
  show Go p e below s _ _ _ s₁ (mkF m 37 #[.val (.int (13 : Int32))] [(.int (4 : Int32)), (.int (13 : Int32))])
  refine Go.st (fun _ => XS.icmpYes X0.here hx rfl (pc0 := 37) (pc' := 44) rfl (hb hby d1_37) rfl (feq (by decide : ¬ ((13 : Int32) = (4 : Int32)))).2 (by decide) (by decide)) ?_
  show Go p e below s _ _ _ s₁ (mkF m 44 #[.val (.int (13 : Int32))] [])
  refine Go.st (fun _ => XS.iloadN X0.here hx rfl (hb hby d1_44) rfl) ?_
  show Go p e below s _ _ _ s₁ (mkF m 45 #[.val (.int (13 : Int32))] [(.int (13 : Int32))])
  refine Go.st (fun _ => XS.iconst X0.here hx rfl (hb hby d1_45)) ?_
  show Go p e below s _ _ _ s₁ (mkF m 46 #[.val (.int (13 : Int32))] [(.int (5 : Int32)), (.int (13 : Int32))])
  refine Go.st (fun _ => XS.icmpYes X0.here hx rfl (pc0 := 46) (pc' := 53) rfl (hb hby d1_46) rfl (feq (by decide : ¬ ((13 : Int32) = (5 : Int32)))).2 (by decide) (by decide)) ?_
  show Go p e below s _ _ _ s₁ (mkF m 53 #[.val (.int (13 : Int32))] [])
  refine Go.st (fun _ => XS.iloadN X0.here hx rfl (hb hby d1_53) rfl) ?_
  show Go p e below s _ _ _ s₁ (mkF m 54 #[.val (.int (13 : Int32))] [(.int (13 : Int32))])
  refine Go.st (fun _ => XS.bipush X0.here hx rfl (hb hby d1_54)) ?_
  show Go p e below s _ _ _ s₁ (mkF m 56 #[.val (.int (13 : Int32))] [(.int (6 : Int32)), (.int (13 : Int32))])
  refine Go.st (fun _ => XS.icmpYes X0.here hx rfl (pc0 := 56) (pc' := 63) rfl (hb hby d1_56) rfl (feq (by decide : ¬ ((13 : Int32) = (6 : Int32)))).2 (by decide) (by decide)) ?_
  show Go p e below s _ _ _ s₁ (mkF m 63 #[.val (.int (13 : Int32))] [])
  refine Go.st (fun _ => XS.iloadN X0.here hx rfl (hb hby d1_63) rfl) ?_
  show Go p e below s _ _ _ s₁ (mkF m 64 #[.val (.int (13 : Int32))] [(.int (13 : Int32))])
  refine Go.st (fun _ => XS.bipush X0.here hx rfl (hb hby d1_64)) ?_
  show Go p e below s _ _ _ s₁ (mkF m 66 #[.val (.int (13 : Int32))] [(.int (7 : Int32)), (.int (13 : Int32))])
  refine Go.st (fun _ => XS.icmpYes X0.here hx rfl (pc0 := 66) (pc' := 73) rfl (hb hby d1_66) rfl (feq (by decide : ¬ ((13 : Int32) = (7 : Int32)))).2 (by decide) (by decide)) ?_
  show Go p e below s _ _ _ s₁ (mkF m 73 #[.val (.int (13 : Int32))] [])
  refine Go.st (fun _ => XS.iloadN X0.here hx rfl (hb hby d1_73) rfl) ?_
  show Go p e below s _ _ _ s₁ (mkF m 74 #[.val (.int (13 : Int32))] [(.int (13 : Int32))])
  refine Go.st (fun _ => XS.bipush X0.here hx rfl (hb hby d1_74)) ?_
  show Go p e below s _ _ _ s₁ (mkF m 76 #[.val (.int (13 : Int32))] [(.int (8 : Int32)), (.int (13 : Int32))])
  refine Go.st (fun _ => XS.icmpYes X0.here hx rfl (pc0 := 76) (pc' := 83) rfl (hb hby d1_76) rfl (feq (by decide : ¬ ((13 : Int32) = (8 : Int32)))).2 (by decide) (by decide)) ?_
  show Go p e below s _ _ _ s₁ (mkF m 83 #[.val (.int (13 : Int32))] [])
  refine Go.st (fun _ => XS.iloadN X0.here hx rfl (hb hby d1_83) rfl) ?_
  show Go p e below s _ _ _ s₁ (mkF m 84 #[.val (.int (13 : Int32))] [(.int (13 : Int32))])
  refine Go.st (fun _ => XS.bipush X0.here hx rfl (hb hby d1_84)) ?_
  show Go p e below s _ _ _ s₁ (mkF m 86 #[.val (.int (13 : Int32))] [(.int (9 : Int32)), (.int (13 : Int32))])
  refine Go.st (fun _ => XS.icmpYes X0.here hx rfl (pc0 := 86) (pc' := 93) rfl (hb hby d1_86) rfl (feq (by decide : ¬ ((13 : Int32) = (9 : Int32)))).2 (by decide) (by decide)) ?_
  show Go p e below s _ _ _ s₁ (mkF m 93 #[.val (.int (13 : Int32))] [])
  refine Go.st (fun _ => XS.iloadN X0.here hx rfl (hb hby d1_93) rfl) ?_
  show Go p e below s _ _ _ s₁ (mkF m 94 #[.val (.int (13 : Int32))] [(.int (13 : Int32))])
  refine Go.st (fun _ => XS.bipush X0.here hx rfl (hb hby d1_94)) ?_
  show Go p e below s _ _ _ s₁ (mkF m 96 #[.val (.int (13 : Int32))] [(.int (10 : Int32)), (.int (13 : Int32))])
  refine Go.st (fun _ => XS.icmpYes X0.here hx rfl (pc0 := 96) (pc' := 103) rfl (hb hby d1_96) rfl (feq (by decide : ¬ ((13 : Int32) = (10 : Int32)))).2 (by decide) (by decide)) ?_
  show Go p e below s _ _ _ s₁ (mkF m 103 #[.val (.int (13 : Int32))] [])
  refine Go.st (fun _ => XS.iloadN X0.here hx rfl (hb hby d1_103) rfl) ?_
  show Go p e below s _ _ _ s₁ (mkF m 104 #[.val (.int (13 : Int32))] [(.int (13 : Int32))])
  refine Go.st (fun _ => XS.bipush X0.here hx rfl (hb hby d1_104)) ?_
  show Go p e below s _ _ _ s₁ (mkF m 106 #[.val (.int (13 : Int32))] [(.int (11 : Int32)), (.int (13 : Int32))])
  refine Go.st (fun _ => XS.icmpYes X0.here hx rfl (pc0 := 106) (pc' := 113) rfl (hb hby d1_106) rfl (feq (by decide : ¬ ((13 : Int32) = (11 : Int32)))).2 (by decide) (by decide)) ?_
  show Go p e below s _ _ _ s₁ (mkF m 113 #[.val (.int (13 : Int32))] [])
  refine Go.st (fun _ => XS.iloadN X0.here hx rfl (hb hby d1_113) rfl) ?_
  show Go p e below s _ _ _ s₁ (mkF m 114 #[.val (.int (13 : Int32))] [(.int (13 : Int32))])
  refine Go.st (fun _ => XS.bipush X0.here hx rfl (hb hby d1_114)) ?_
  show Go p e below s _ _ _ s₁ (mkF m 116 #[.val (.int (13 : Int32))] [(.int (12 : Int32)), (.int (13 : Int32))])
  refine Go.st (fun _ => XS.icmpYes X0.here hx rfl (pc0 := 116) (pc' := 123) rfl (hb hby d1_116) rfl (feq (by decide : ¬ ((13 : Int32) = (12 : Int32)))).2 (by decide) (by decide)) ?_
  show Go p e below s _ _ _ s₁ (mkF m 123 #[.val (.int (13 : Int32))] [])
  obtain ⟨T1, X1, e1, st1⟩ := getS2 X0 hx hZ hown (host := "") (Or.inl (hw _ (List.mem_of_getElem? (i := 43) rfl))) Via.refl e0 S_NEGATE (g := (mkF m 123 #[.val (.int (13 : Int32))] [])) rfl (hb hby d1_123)
  refine Go.st st1 ?_
  show Go p e below s _ _ _ T1 (mkF m 126 #[.val (.int (13 : Int32))] [(.ref u_NEGATE)])
  exact Go.retA X1 hx hlk Bd.returns rfl rfl (hb hby d1_126) (by rw [e1]; exact ⟨rfl, N0, rfl⟩) (by decide) (by decide)
theorem d3_124 : decode method_4_code 124 = .ok (.aload_n 0, 1) := by decide +kernel
theorem d3_125 : decode method_4_code 125 = .ok (.getstatic 68, 3) := by decide +kernel
theorem d3_128 : decode method_4_code 128 = .ok (.if_acmp .ne 6, 3) := by decide +kernel
theorem d3_131 : decode method_4_code 131 = .ok (.bipush 13, 2) := by decide +kernel
theorem d3_133 : decode method_4_code 133 = .ok (.ireturn, 1) := by decide +kernel
theorem ef_rmX13 (m : MethodId) (u_NEGATE : Addr) : entryFrame m #[(.ref u_NEGATE)] 1 = mkF m 0 #[.val (.ref u_NEGATE)] [] := by first | (simp [entryFrame, mkF, argsToLocals, Value.category]; done) | rfl
def QrmX13 (Z : State) (u_NEGATE : Addr) (u_OR : Addr) (u_AND : Addr) (u_EQUAL : Addr) (u_NOT_EQUAL : Addr) (u_LESS : Addr) (u_LESS_OR_EQUAL : Addr) (u_GREATER : Addr) (u_GREATER_OR_EQUAL : Addr) (u_PLUS : Addr) (u_MINUS : Addr) (u_MULTIPLY : Addr) (u_DIVIDE : Addr) (u_MODULO : Addr) (h0 : Heap) (n0 : Nat) (rV : Option Value) (hE : Heap) (LE : List Loc) : Prop := rV = some (.int (13 : Int32)) ∧ Fr n0 LE ∧ hE = h0
set_option maxRecDepth 65536 in
set_option maxHeartbeats 40000000 in
theorem rmX13 (l : Launch) (Z : State) (a0 : Array Value) (hw : ∀ d ∈ tables_1, d.before a0 Z = true) (ws : List Jvm.Cond) (u_NEGATE : Addr) (u_OR : Addr) (u_AND : Addr) (u_EQUAL : Addr) (u_NOT_EQUAL : Addr) (u_LESS : Addr) (u_LESS_OR_EQUAL : Addr) (u_GREATER : Addr) (u_GREATER_OR_EQUAL : Addr) (u_PLUS : Addr) (u_MINUS : Addr) (u_MULTIPLY : Addr) (u_DIVIDE : Addr) (u_MODULO : Addr) (h0 : Heap) (n0 : Nat) (Z0 : n0 ≤ h0.size) (S_OR : Sta Z h0 "com/example/moat/moat/xpath/Operation$Operator" "OR" "Lcom/example/moat/moat/xpath/Operation$Operator;" (.ref u_OR)) (S_AND : Sta Z h0 "com/example/moat/moat/xpath/Operation$Operator" "AND" "Lcom/example/moat/moat/xpath/Operation$Operator;" (.ref u_AND)) (S_EQUAL : Sta Z h0 "com/example/moat/moat/xpath/Operation$Operator" "EQUAL" "Lcom/example/moat/moat/xpath/Operation$Operator;" (.ref u_EQUAL)) (S_NOT_EQUAL : Sta Z h0 "com/example/moat/moat/xpath/Operation$Operator" "NOT_EQUAL" "Lcom/example/moat/moat/xpath/Operation$Operator;" (.ref u_NOT_EQUAL)) (S_LESS : Sta Z h0 "com/example/moat/moat/xpath/Operation$Operator" "LESS" "Lcom/example/moat/moat/xpath/Operation$Operator;" (.ref u_LESS)) (S_LESS_OR_EQUAL : Sta Z h0 "com/example/moat/moat/xpath/Operation$Operator" "LESS_OR_EQUAL" "Lcom/example/moat/moat/xpath/Operation$Operator;" (.ref u_LESS_OR_EQUAL)) (S_GREATER : Sta Z h0 "com/example/moat/moat/xpath/Operation$Operator" "GREATER" "Lcom/example/moat/moat/xpath/Operation$Operator;" (.ref u_GREATER)) (S_GREATER_OR_EQUAL : Sta Z h0 "com/example/moat/moat/xpath/Operation$Operator" "GREATER_OR_EQUAL" "Lcom/example/moat/moat/xpath/Operation$Operator;" (.ref u_GREATER_OR_EQUAL)) (S_PLUS : Sta Z h0 "com/example/moat/moat/xpath/Operation$Operator" "PLUS" "Lcom/example/moat/moat/xpath/Operation$Operator;" (.ref u_PLUS)) (S_MINUS : Sta Z h0 "com/example/moat/moat/xpath/Operation$Operator" "MINUS" "Lcom/example/moat/moat/xpath/Operation$Operator;" (.ref u_MINUS)) (S_MULTIPLY : Sta Z h0 "com/example/moat/moat/xpath/Operation$Operator" "MULTIPLY" "Lcom/example/moat/moat/xpath/Operation$Operator;" (.ref u_MULTIPLY)) (S_DIVIDE : Sta Z h0 "com/example/moat/moat/xpath/Operation$Operator" "DIVIDE" "Lcom/example/moat/moat/xpath/Operation$Operator;" (.ref u_DIVIDE)) (S_MODULO : Sta Z h0 "com/example/moat/moat/xpath/Operation$Operator" "MODULO" "Lcom/example/moat/moat/xpath/Operation$Operator;" (.ref u_MODULO)) (S_NEGATE : Sta Z h0 "com/example/moat/moat/xpath/Operation$Operator" "NEGATE" "Lcom/example/moat/moat/xpath/Operation$Operator;" (.ref u_NEGATE)) (ne_u_OR_u_NEGATE : u_OR ≠ u_NEGATE) (ne_u_AND_u_NEGATE : u_AND ≠ u_NEGATE) (ne_u_EQUAL_u_NEGATE : u_EQUAL ≠ u_NEGATE) (ne_u_NOT_EQUAL_u_NEGATE : u_NOT_EQUAL ≠ u_NEGATE) (ne_u_LESS_u_NEGATE : u_LESS ≠ u_NEGATE) (ne_u_LESS_OR_EQUAL_u_NEGATE : u_LESS_OR_EQUAL ≠ u_NEGATE) (ne_u_GREATER_u_NEGATE : u_GREATER ≠ u_NEGATE) (ne_u_GREATER_OR_EQUAL_u_NEGATE : u_GREATER_OR_EQUAL ≠ u_NEGATE) (ne_u_PLUS_u_NEGATE : u_PLUS ≠ u_NEGATE) (ne_u_MINUS_u_NEGATE : u_MINUS ≠ u_NEGATE) (ne_u_MULTIPLY_u_NEGATE : u_MULTIPLY ≠ u_NEGATE) (ne_u_DIVIDE_u_NEGATE : u_DIVIDE ≠ u_NEGATE) (ne_u_MODULO_u_NEGATE : u_MODULO ≠ u_NEGATE) :
    MetFree l (⟨"com/example/moat/moat/xpath/OperatorFlippedPinLaw", "index", "(Lcom/example/moat/moat/xpath/Operation$Operator;)I"⟩ : MethodName) (head1 (Jvm.Cond.code (⟨"com/example/moat/moat/xpath/OperatorFlippedPinLaw", "index", "(Lcom/example/moat/moat/xpath/Operation$Operator;)I"⟩ : MethodName) method_4_code 1 (some .int) :: ws) ({ frames := 0, cells := 0, slots := 0, locals := 0 } : Room)) (fun aA UA => aA = #[(.ref u_NEGATE)] ∧ Z.Warmed39 UA.vm ∧ UA.heap = h0) (fun _ _ _ _ _ => True) (fun _ UA oA UB => ∃ rV LE, oA = .returned rV ∧ QrmX13 Z u_NEGATE u_OR u_AND u_EQUAL u_NOT_EQUAL u_LESS u_LESS_OR_EQUAL u_GREATER u_GREATER_OR_EQUAL u_PLUS u_MINUS u_MULTIPLY u_DIVIDE u_MODULO h0 n0 rV UB.heap LE ∧ FrameEnd UA oA UB LE ({ frames := 0, cells := 0, slots := 0, locals := 0 } : Room).cells ({ frames := 0, cells := 0, slots := 0, locals := 0 } : Room).slots) := by
  refine MetFree.of_bodySF (plainFor_of_name pn_0) hisR ?_
  intro p e s m args below meth c s₁ Bd hml0 hP hK
  obtain ⟨rfl, hZ, hh⟩ := hP
  have hx := Bd.exec
  have hby := Bd.bytes
  have hml : c.maxLocals = 1 := hml0
  have hown : s.vm.findClass "com/example/moat/moat/xpath/OperatorFlippedPinLaw" = some m.cls := findClass_of_methodNamed Bd.named
  have hnm := (name_of_methodNamed Bd.named Bd.method).1
  have hlk := Bd.notSynchronized
  have X0 : Stand p l e ({ frames := 0, cells := 0, slots := 0, locals := 0 } : Room) s m #[(.ref u_NEGATE)] below meth c s₁ [] 0 0 := Stand.of_body Bd
  have e0 : s₁.heap = h0 := by rw [← hh, Bd.state]; rfl
  have N0 := Fr.nil n0
  show Go p e below s (QrmX13 Z u_NEGATE u_OR u_AND u_EQUAL u_NOT_EQUAL u_LESS u_LESS_OR_EQUAL u_GREATER u_GREATER_OR_EQUAL u_PLUS u_MINUS u_MULTIPLY u_DIVIDE u_MODULO h0 n0) ({ frames := 0, cells := 0, slots := 0, locals := 0 } : Room).cells ({ frames := 0, cells := 0, slots := 0, locals := 0 } : Room).slots s₁ (entryFrame m #[(.ref u_NEGATE)] 1)
  refine Go.eq (ef_rmX13 m u_NEGATE) ?_
  show Go p e below s _ _ _ s₁ (mkF m 0 #[.val (.ref u_NEGATE)] [])
  refine Go.st (fun _ => XS.aloadN X0.here hx rfl (hb hby d3_0) rfl rfl) ?_
  show Go p e below s _ _ _ s₁ (mkF m 1 #[.val (.ref u_NEGATE)] [(.ref u_NEGATE)])
  obtain ⟨T1, X1, e1, st1⟩ := getS2 X0 hx hZ hown (host := "") (Or.inl (hw _ (List.mem_of_getElem? (i := 5) rfl))) Via.refl e0 S_OR (g := (mkF m 1 #[.val (.ref u_NEGATE)] [(.ref u_NEGATE)])) rfl (hb hby d3_1)
  refine Go.st st1 ?_
  show Go p e below s _ _ _ T1 (mkF m 4 #[.val (.ref u_NEGATE)] [(.ref u_OR), (.ref u_NEGATE)])
  refine Go.st (fun _ => Jvm.RoadKit.acmp (g := (mkF m 4 #[.val (.ref u_NEGATE)] [(.ref u_OR), (.ref u_NEGATE)])) X1 hx rfl rfl rfl (pc0 := 4) (pc' := 9) (same := false) rfl (hb hby d3_4) rfl (decide_eq_false fun q => (Ne.symm ne_u_OR_u_NEGATE) (Value.ref.inj q)) (by decide) (by decide)) ?_
  show Go p e below s _ _ _ T1 (mkF m 9 #[.val (.ref u_NEGATE)] [])
  refine Go.st (fun _ => XS.aloadN X1.here hx rfl (hb hby d3_9) rfl rfl) ?_
  show Go p e below s _ _ _ T1 (mkF m 10 #[.val (.ref u_NEGATE)] [(.ref u_NEGATE)])
  obtain ⟨T2, X2, e2, st2⟩ := getS2 X1 hx hZ hown (host := "") (Or.inl (hw _ (List.mem_of_getElem? (i := 25) rfl))) Via.refl e1 S_AND (g := (mkF m 10 #[.val (.ref u_NEGATE)] [(.ref u_NEGATE)])) rfl (hb hby d3_10)
  refine Go.st st2 ?_
  show Go p e below s _ _ _ T2 (mkF m 13 #[.val (.ref u_NEGATE)] [(.ref u_AND), (.ref u_NEGATE)])
  refine Go.st (fun _ => Jvm.RoadKit.acmp (g := (mkF m 13 #[.val (.ref u_NEGATE)] [(.ref u_AND), (.ref u_NEGATE)])) X2 hx rfl rfl rfl (pc0 := 13) (pc' := 18) (same := false) rfl (hb hby d3_13) rfl (decide_eq_false fun q => (Ne.symm ne_u_AND_u_NEGATE) (Value.ref.inj q)) (by decide) (by decide)) ?_
  show Go p e below s _ _ _ T2 (mkF m 18 #[.val (.ref u_NEGATE)] [])
  refine Go.st (fun _ => XS.aloadN X2.here hx rfl (hb hby d3_18) rfl rfl) ?_
  show Go p e below s _ _ _ T2 (mkF m 19 #[.val (.ref u_NEGATE)] [(.ref u_NEGATE)])
  obtain ⟨T3, X3, e3, st3⟩ := getS2 X2 hx hZ hown (host := "") (Or.inl (hw _ (List.mem_of_getElem? (i := 27) rfl))) Via.refl e2 S_EQUAL (g := (mkF m 19 #[.val (.ref u_NEGATE)] [(.ref u_NEGATE)])) rfl (hb hby d3_19)
  refine Go.st st3 ?_
  show Go p e below s _ _ _ T3 (mkF m 22 #[.val (.ref u_NEGATE)] [(.ref u_EQUAL), (.ref u_NEGATE)])
  refine Go.st (fun _ => Jvm.RoadKit.acmp (g := (mkF m 22 #[.val (.ref u_NEGATE)] [(.ref u_EQUAL), (.ref u_NEGATE)])) X3 hx rfl rfl rfl (pc0 := 22) (pc' := 27) (same := false) rfl (hb hby d3_22) rfl (decide_eq_false fun q => (Ne.symm ne_u_EQUAL_u_NEGATE) (Value.ref.inj q)) (by decide) (by decide)) ?_
  show Go p e below s _ _ _ T3 (mkF m 27 #[.val (.ref u_NEGATE)] [])
  refine Go.st (fun _ => XS.aloadN X3.here hx rfl (hb hby d3_27) rfl rfl) ?_
  show Go p e below s _ _ _ T3 (mkF m 28 #[.val (.ref u_NEGATE)] [(.ref u_NEGATE)])
  obtain ⟨T4, X4, e4, st4⟩ := getS2 X3 hx hZ hown (host := "") (Or.inl (hw _ (List.mem_of_getElem? (i := 29) rfl))) Via.refl e3 S_NOT_EQUAL (g := (mkF m 28 #[.val (.ref u_NEGATE)] [(.ref u_NEGATE)])) rfl (hb hby d3_28)
  refine Go.st st4 ?_
  show Go p e below s _ _ _ T4 (mkF m 31 #[.val (.ref u_NEGATE)] [(.ref u_NOT_EQUAL), (.ref u_NEGATE)])
  refine Go.st (fun _ => Jvm.RoadKit.acmp (g := (mkF m 31 #[.val (.ref u_NEGATE)] [(.ref u_NOT_EQUAL), (.ref u_NEGATE)])) X4 hx rfl rfl rfl (pc0 := 31) (pc' := 36) (same := false) rfl (hb hby d3_31) rfl (decide_eq_false fun q => (Ne.symm ne_u_NOT_EQUAL_u_NEGATE) (Value.ref.inj q)) (by decide) (by decide)) ?_
  show Go p e below s _ _ _ T4 (mkF m 36 #[.val (.ref u_NEGATE)] [])
  refine Go.st (fun _ => XS.aloadN X4.here hx rfl (hb hby d3_36) rfl rfl) ?_
  show Go p e below s _ _ _ T4 (mkF m 37 #[.val (.ref u_NEGATE)] [(.ref u_NEGATE)])
  obtain ⟨T5, X5, e5, st5⟩ := getS2 X4 hx hZ hown (host := "") (Or.inl (hw _ (List.mem_of_getElem? (i := 24) rfl))) Via.refl e4 S_LESS (g := (mkF m 37 #[.val (.ref u_NEGATE)] [(.ref u_NEGATE)])) rfl (hb hby d3_37)
  refine Go.st st5 ?_
  show Go p e below s _ _ _ T5 (mkF m 40 #[.val (.ref u_NEGATE)] [(.ref u_LESS), (.ref u_NEGATE)])
  refine Go.st (fun _ => Jvm.RoadKit.acmp (g := (mkF m 40 #[.val (.ref u_NEGATE)] [(.ref u_LESS), (.ref u_NEGATE)])) X5 hx rfl rfl rfl (pc0 := 40) (pc' := 45) (same := false) rfl (hb hby d3_40) rfl (decide_eq_false fun q => (Ne.symm ne_u_LESS_u_NEGATE) (Value.ref.inj q)) (by decide) (by decide)) ?_
  show Go p e below s _ _ _ T5 (mkF m 45 #[.val (.ref u_NEGATE)] [])
  refine Go.st (fun _ => XS.aloadN X5.here hx rfl (hb hby d3_45) rfl rfl) ?_
  show Go p e below s _ _ _ T5 (mkF m 46 #[.val (.ref u_NEGATE)] [(.ref u_NEGATE)])
  obtain ⟨T6, X6, e6, st6⟩ := getS2 X5 hx hZ hown (host := "") (Or.inl (hw _ (List.mem_of_getElem? (i := 31) rfl))) Via.refl e5 S_LESS_OR_EQUAL (g := (mkF m 46 #[.val (.ref u_NEGATE)] [(.ref u_NEGATE)])) rfl (hb hby d3_46)
  refine Go.st st6 ?_
  show Go p e below s _ _ _ T6 (mkF m 49 #[.val (.ref u_NEGATE)] [(.ref u_LESS_OR_EQUAL), (.ref u_NEGATE)])
  refine Go.st (fun _ => Jvm.RoadKit.acmp (g := (mkF m 49 #[.val (.ref u_NEGATE)] [(.ref u_LESS_OR_EQUAL), (.ref u_NEGATE)])) X6 hx rfl rfl rfl (pc0 := 49) (pc' := 54) (same := false) rfl (hb hby d3_49) rfl (decide_eq_false fun q => (Ne.symm ne_u_LESS_OR_EQUAL_u_NEGATE) (Value.ref.inj q)) (by decide) (by decide)) ?_
  show Go p e below s _ _ _ T6 (mkF m 54 #[.val (.ref u_NEGATE)] [])
  refine Go.st (fun _ => XS.aloadN X6.here hx rfl (hb hby d3_54) rfl rfl) ?_
  show Go p e below s _ _ _ T6 (mkF m 55 #[.val (.ref u_NEGATE)] [(.ref u_NEGATE)])
  obtain ⟨T7, X7, e7, st7⟩ := getS2 X6 hx hZ hown (host := "") (Or.inl (hw _ (List.mem_of_getElem? (i := 32) rfl))) Via.refl e6 S_GREATER (g := (mkF m 55 #[.val (.ref u_NEGATE)] [(.ref u_NEGATE)])) rfl (hb hby d3_55)
  refine Go.st st7 ?_
  show Go p e below s _ _ _ T7 (mkF m 58 #[.val (.ref u_NEGATE)] [(.ref u_GREATER), (.ref u_NEGATE)])
  refine Go.st (fun _ => Jvm.RoadKit.acmp (g := (mkF m 58 #[.val (.ref u_NEGATE)] [(.ref u_GREATER), (.ref u_NEGATE)])) X7 hx rfl rfl rfl (pc0 := 58) (pc' := 64) (same := false) rfl (hb hby d3_58) rfl (decide_eq_false fun q => (Ne.symm ne_u_GREATER_u_NEGATE) (Value.ref.inj q)) (by decide) (by decide)) ?_
  show Go p e below s _ _ _ T7 (mkF m 64 #[.val (.ref u_NEGATE)] [])
  refine Go.st (fun _ => XS.aloadN X7.here hx rfl (hb hby d3_64) rfl rfl) ?_
  show Go p e below s _ _ _ T7 (mkF m 65 #[.val (.ref u_NEGATE)] [(.ref u_NEGATE)])
  obtain ⟨T8, X8, e8, st8⟩ := getS2 X7 hx hZ hown (host := "") (Or.inl (hw _ (List.mem_of_getElem? (i := 36) rfl))) Via.refl e7 S_GREATER_OR_EQUAL (g := (mkF m 65 #[.val (.ref u_NEGATE)] [(.ref u_NEGATE)])) rfl (hb hby d3_65)
  refine Go.st st8 ?_
  show Go p e below s _ _ _ T8 (mkF m 68 #[.val (.ref u_NEGATE)] [(.ref u_GREATER_OR_EQUAL), (.ref u_NEGATE)])
  refine Go.st (fun _ => Jvm.RoadKit.acmp (g := (mkF m 68 #[.val (.ref u_NEGATE)] [(.ref u_GREATER_OR_EQUAL), (.ref u_NEGATE)])) X8 hx rfl rfl rfl (pc0 := 68) (pc' := 74) (same := false) rfl (hb hby d3_68) rfl (decide_eq_false fun q => (Ne.symm ne_u_GREATER_OR_EQUAL_u_NEGATE) (Value.ref.inj q)) (by decide) (by decide)) ?_
  show Go p e below s _ _ _ T8 (mkF m 74 #[.val (.ref u_NEGATE)] [])
  refine Go.st (fun _ => XS.aloadN X8.here hx rfl (hb hby d3_74) rfl rfl) ?_
  show Go p e below s _ _ _ T8 (mkF m 75 #[.val (.ref u_NEGATE)] [(.ref u_NEGATE)])
  obtain ⟨T9, X9, e9, st9⟩ := getS2 X8 hx hZ hown (host := "") (Or.inl (hw _ (List.mem_of_getElem? (i := 39) rfl))) Via.refl e8 S_PLUS (g := (mkF m 75 #[.val (.ref u_NEGATE)] [(.ref u_NEGATE)])) rfl (hb hby d3_75)
  refine Go.st st9 ?_
  show Go p e below s _ _ _ T9 (mkF m 78 #[.val (.ref u_NEGATE)] [(.ref u_PLUS), (.ref u_NEGATE)])
  refine Go.st (fun _ => Jvm.RoadKit.acmp (g := (mkF m 78 #[.val (.ref u_NEGATE)] [(.ref u_PLUS), (.ref u_NEGATE)])) X9 hx rfl rfl rfl (pc0 := 78) (pc' := 84) (same := false) rfl (hb hby d3_78) rfl (decide_eq_false fun q => (Ne.symm ne_u_PLUS_u_NEGATE) (Value.ref.inj q)) (by decide) (by decide)) ?_
  show Go p e below s _ _ _ T9 (mkF m 84 #[.val (.ref u_NEGATE)] [])
  refine Go.st (fun _ => XS.aloadN X9.here hx rfl (hb hby d3_84) rfl rfl) ?_
  show Go p e below s _ _ _ T9 (mkF m 85 #[.val (.ref u_NEGATE)] [(.ref u_NEGATE)])
  obtain ⟨T10, X10, e10, st10⟩ := getS2 X9 hx hZ hown (host := "") (Or.inl (hw _ (List.mem_of_getElem? (i := 41) rfl))) Via.refl e9 S_MINUS (g := (mkF m 85 #[.val (.ref u_NEGATE)] [(.ref u_NEGATE)])) rfl (hb hby d3_85)
  refine Go.st st10 ?_
  show Go p e below s _ _ _ T10 (mkF m 88 #[.val (.ref u_NEGATE)] [(.ref u_MINUS), (.ref u_NEGATE)])
  refine Go.st (fun _ => Jvm.RoadKit.acmp (g := (mkF m 88 #[.val (.ref u_NEGATE)] [(.ref u_MINUS), (.ref u_NEGATE)])) X10 hx rfl rfl rfl (pc0 := 88) (pc' := 94) (same := false) rfl (hb hby d3_88) rfl (decide_eq_false fun q => (Ne.symm ne_u_MINUS_u_NEGATE) (Value.ref.inj q)) (by decide) (by decide)) ?_
  show Go p e below s _ _ _ T10 (mkF m 94 #[.val (.ref u_NEGATE)] [])
  refine Go.st (fun _ => XS.aloadN X10.here hx rfl (hb hby d3_94) rfl rfl) ?_
  show Go p e below s _ _ _ T10 (mkF m 95 #[.val (.ref u_NEGATE)] [(.ref u_NEGATE)])
  obtain ⟨T11, X11, e11, st11⟩ := getS2 X10 hx hZ hown (host := "") (Or.inl (hw _ (List.mem_of_getElem? (i := 37) rfl))) Via.refl e10 S_MULTIPLY (g := (mkF m 95 #[.val (.ref u_NEGATE)] [(.ref u_NEGATE)])) rfl (hb hby d3_95)
  refine Go.st st11 ?_
  show Go p e below s _ _ _ T11 (mkF m 98 #[.val (.ref u_NEGATE)] [(.ref u_MULTIPLY), (.ref u_NEGATE)])
  refine Go.st (fun _ => Jvm.RoadKit.acmp (g := (mkF m 98 #[.val (.ref u_NEGATE)] [(.ref u_MULTIPLY), (.ref u_NEGATE)])) X11 hx rfl rfl rfl (pc0 := 98) (pc' := 104) (same := false) rfl (hb hby d3_98) rfl (decide_eq_false fun q => (Ne.symm ne_u_MULTIPLY_u_NEGATE) (Value.ref.inj q)) (by decide) (by decide)) ?_
  show Go p e below s _ _ _ T11 (mkF m 104 #[.val (.ref u_NEGATE)] [])
  refine Go.st (fun _ => XS.aloadN X11.here hx rfl (hb hby d3_104) rfl rfl) ?_
  show Go p e below s _ _ _ T11 (mkF m 105 #[.val (.ref u_NEGATE)] [(.ref u_NEGATE)])
  obtain ⟨T12, X12, e12, st12⟩ := getS2 X11 hx hZ hown (host := "") (Or.inl (hw _ (List.mem_of_getElem? (i := 45) rfl))) Via.refl e11 S_DIVIDE (g := (mkF m 105 #[.val (.ref u_NEGATE)] [(.ref u_NEGATE)])) rfl (hb hby d3_105)
  refine Go.st st12 ?_
  show Go p e below s _ _ _ T12 (mkF m 108 #[.val (.ref u_NEGATE)] [(.ref u_DIVIDE), (.ref u_NEGATE)])
  refine Go.st (fun _ => Jvm.RoadKit.acmp (g := (mkF m 108 #[.val (.ref u_NEGATE)] [(.ref u_DIVIDE), (.ref u_NEGATE)])) X12 hx rfl rfl rfl (pc0 := 108) (pc' := 114) (same := false) rfl (hb hby d3_108) rfl (decide_eq_false fun q => (Ne.symm ne_u_DIVIDE_u_NEGATE) (Value.ref.inj q)) (by decide) (by decide)) ?_
  show Go p e below s _ _ _ T12 (mkF m 114 #[.val (.ref u_NEGATE)] [])
  refine Go.st (fun _ => XS.aloadN X12.here hx rfl (hb hby d3_114) rfl rfl) ?_
  show Go p e below s _ _ _ T12 (mkF m 115 #[.val (.ref u_NEGATE)] [(.ref u_NEGATE)])
  obtain ⟨T13, X13, e13, st13⟩ := getS2 X12 hx hZ hown (host := "") (Or.inl (hw _ (List.mem_of_getElem? (i := 47) rfl))) Via.refl e12 S_MODULO (g := (mkF m 115 #[.val (.ref u_NEGATE)] [(.ref u_NEGATE)])) rfl (hb hby d3_115)
  refine Go.st st13 ?_
  show Go p e below s _ _ _ T13 (mkF m 118 #[.val (.ref u_NEGATE)] [(.ref u_MODULO), (.ref u_NEGATE)])
  refine Go.st (fun _ => Jvm.RoadKit.acmp (g := (mkF m 118 #[.val (.ref u_NEGATE)] [(.ref u_MODULO), (.ref u_NEGATE)])) X13 hx rfl rfl rfl (pc0 := 118) (pc' := 124) (same := false) rfl (hb hby d3_118) rfl (decide_eq_false fun q => (Ne.symm ne_u_MODULO_u_NEGATE) (Value.ref.inj q)) (by decide) (by decide)) ?_
  show Go p e below s _ _ _ T13 (mkF m 124 #[.val (.ref u_NEGATE)] [])
  refine Go.st (fun _ => XS.aloadN X13.here hx rfl (hb hby d3_124) rfl rfl) ?_
  show Go p e below s _ _ _ T13 (mkF m 125 #[.val (.ref u_NEGATE)] [(.ref u_NEGATE)])
  obtain ⟨T14, X14, e14, st14⟩ := getS2 X13 hx hZ hown (host := "") (Or.inl (hw _ (List.mem_of_getElem? (i := 43) rfl))) Via.refl e13 S_NEGATE (g := (mkF m 125 #[.val (.ref u_NEGATE)] [(.ref u_NEGATE)])) rfl (hb hby d3_125)
  refine Go.st st14 ?_
  show Go p e below s _ _ _ T14 (mkF m 128 #[.val (.ref u_NEGATE)] [(.ref u_NEGATE), (.ref u_NEGATE)])
  refine Go.st (fun _ => Jvm.RoadKit.acmp (g := (mkF m 128 #[.val (.ref u_NEGATE)] [(.ref u_NEGATE), (.ref u_NEGATE)])) X14 hx rfl rfl rfl (pc0 := 128) (pc' := 131) (same := true) rfl (hb hby d3_128) rfl (decide_eq_true rfl) (by decide) (by decide)) ?_
  show Go p e below s _ _ _ T14 (mkF m 131 #[.val (.ref u_NEGATE)] [])
  refine Go.st (fun _ => XS.bipush X14.here hx rfl (hb hby d3_131)) ?_
  show Go p e below s _ _ _ T14 (mkF m 133 #[.val (.ref u_NEGATE)] [(.int (13 : Int32))])
  exact Go.retI X14 hx hlk Bd.returns (hb hby d3_133) (by rw [e14]; exact ⟨rfl, N0, rfl⟩) (by decide) (by decide)
theorem d2_0 : decode prog_61_method_7_code 0 = .ok (.aload_n 0, 1) := by decide +kernel
theorem d2_1 : decode prog_61_method_7_code 1 = .ok (.getstatic 16, 3) := by decide +kernel
theorem d2_4 : decode prog_61_method_7_code 4 = .ok (.if_acmp .ne 10, 3) := by decide +kernel
theorem d2_14 : decode prog_61_method_7_code 14 = .ok (.aload_n 0, 1) := by decide +kernel
theorem d2_15 : decode prog_61_method_7_code 15 = .ok (.getstatic 19, 3) := by decide +kernel
theorem d2_18 : decode prog_61_method_7_code 18 = .ok (.if_acmp .ne 10, 3) := by decide +kernel
theorem d2_28 : decode prog_61_method_7_code 28 = .ok (.aload_n 0, 1) := by decide +kernel
theorem d2_29 : decode prog_61_method_7_code 29 = .ok (.getstatic 22, 3) := by decide +kernel
theorem d2_32 : decode prog_61_method_7_code 32 = .ok (.if_acmp .ne 10, 3) := by decide +kernel
theorem d2_42 : decode prog_61_method_7_code 42 = .ok (.aload_n 0, 1) := by decide +kernel
theorem d2_43 : decode prog_61_method_7_code 43 = .ok (.getstatic 25, 3) := by decide +kernel
theorem d2_46 : decode prog_61_method_7_code 46 = .ok (.if_acmp .ne 10, 3) := by decide +kernel
theorem d2_56 : decode prog_61_method_7_code 56 = .ok (.aload_n 0, 1) := by decide +kernel
theorem d2_57 : decode prog_61_method_7_code 57 = .ok (.astore_n 1, 1) := by decide +kernel
theorem d2_58 : decode prog_61_method_7_code 58 = .ok (.aload_n 1, 1) := by decide +kernel
theorem d2_59 : decode prog_61_method_7_code 59 = .ok (.areturn, 1) := by decide +kernel
theorem pn_1 : plainName "com/example/moat/moat/xpath/Operation$Operator" = true := by first | (simp [plainName, overriddenIn]; done) | decide +kernel
theorem ef_rmF0 (m : MethodId) (u_OR : Addr) : entryFrame m #[(.ref u_OR)] 2 = mkF m 0 #[.val (.ref u_OR), .unset] [] := by first | (simp [entryFrame, mkF, argsToLocals, Value.category]; done) | rfl
def QrmF0 (Z : State) (u_OR : Addr) (u_LESS : Addr) (u_LESS_OR_EQUAL : Addr) (u_GREATER : Addr) (u_GREATER_OR_EQUAL : Addr) (h0 : Heap) (n0 : Nat) (rV : Option Value) (hE : Heap) (LE : List Loc) : Prop := rV = some (.ref u_OR) ∧ Fr n0 LE ∧ hE = h0
set_option maxRecDepth 65536 in
set_option maxHeartbeats 40000000 in
theorem rmF0 (l : Launch) (Z : State) (a0 : Array Value) (hw : ∀ d ∈ tables_1, d.before a0 Z = true) (ws : List Jvm.Cond) (u_OR : Addr) (u_LESS : Addr) (u_LESS_OR_EQUAL : Addr) (u_GREATER : Addr) (u_GREATER_OR_EQUAL : Addr) (h0 : Heap) (n0 : Nat) (Z0 : n0 ≤ h0.size) (S_LESS : Sta Z h0 "com/example/moat/moat/xpath/Operation$Operator" "LESS" "Lcom/example/moat/moat/xpath/Operation$Operator;" (.ref u_LESS)) (S_LESS_OR_EQUAL : Sta Z h0 "com/example/moat/moat/xpath/Operation$Operator" "LESS_OR_EQUAL" "Lcom/example/moat/moat/xpath/Operation$Operator;" (.ref u_LESS_OR_EQUAL)) (S_GREATER : Sta Z h0 "com/example/moat/moat/xpath/Operation$Operator" "GREATER" "Lcom/example/moat/moat/xpath/Operation$Operator;" (.ref u_GREATER)) (S_GREATER_OR_EQUAL : Sta Z h0 "com/example/moat/moat/xpath/Operation$Operator" "GREATER_OR_EQUAL" "Lcom/example/moat/moat/xpath/Operation$Operator;" (.ref u_GREATER_OR_EQUAL)) (ne_u_LESS_u_OR : u_LESS ≠ u_OR) (ne_u_LESS_OR_EQUAL_u_OR : u_LESS_OR_EQUAL ≠ u_OR) (ne_u_GREATER_u_OR : u_GREATER ≠ u_OR) (ne_u_GREATER_OR_EQUAL_u_OR : u_GREATER_OR_EQUAL ≠ u_OR) :
    MetFree l (⟨"com/example/moat/moat/xpath/Operation$Operator", "flipped", "()Lcom/example/moat/moat/xpath/Operation$Operator;"⟩ : MethodName) (head1 (Jvm.Cond.code (⟨"com/example/moat/moat/xpath/Operation$Operator", "flipped", "()Lcom/example/moat/moat/xpath/Operation$Operator;"⟩ : MethodName) prog_61_method_7_code 2 (some (.object "com/example/moat/moat/xpath/Operation$Operator")) :: ws) ({ frames := 0, cells := 0, slots := 0, locals := 0 } : Room)) (fun aA UA => aA = #[(.ref u_OR)] ∧ Z.Warmed39 UA.vm ∧ UA.heap = h0) (fun _ _ _ _ _ => True) (fun _ UA oA UB => ∃ rV LE, oA = .returned rV ∧ QrmF0 Z u_OR u_LESS u_LESS_OR_EQUAL u_GREATER u_GREATER_OR_EQUAL h0 n0 rV UB.heap LE ∧ FrameEnd UA oA UB LE ({ frames := 0, cells := 0, slots := 0, locals := 0 } : Room).cells ({ frames := 0, cells := 0, slots := 0, locals := 0 } : Room).slots) := by
  refine MetFree.of_bodySF (plainFor_of_name pn_1) hisR ?_
  intro p e s m args below meth c s₁ Bd hml0 hP hK
  obtain ⟨rfl, hZ, hh⟩ := hP
  have hx := Bd.exec
  have hby := Bd.bytes
  have hml : c.maxLocals = 2 := hml0
  have hown : s.vm.findClass "com/example/moat/moat/xpath/Operation$Operator" = some m.cls := findClass_of_methodNamed Bd.named
  have hnm := (name_of_methodNamed Bd.named Bd.method).1
  have hlk := Bd.notSynchronized
  have X0 : Stand p l e ({ frames := 0, cells := 0, slots := 0, locals := 0 } : Room) s m #[(.ref u_OR)] below meth c s₁ [] 0 0 := Stand.of_body Bd
  have e0 : s₁.heap = h0 := by rw [← hh, Bd.state]; rfl
  have N0 := Fr.nil n0
  show Go p e below s (QrmF0 Z u_OR u_LESS u_LESS_OR_EQUAL u_GREATER u_GREATER_OR_EQUAL h0 n0) ({ frames := 0, cells := 0, slots := 0, locals := 0 } : Room).cells ({ frames := 0, cells := 0, slots := 0, locals := 0 } : Room).slots s₁ (entryFrame m #[(.ref u_OR)] 2)
  refine Go.eq (ef_rmF0 m u_OR) ?_
  show Go p e below s _ _ _ s₁ (mkF m 0 #[.val (.ref u_OR), .unset] [])
  refine Go.st (fun _ => XS.aloadN X0.here hx rfl (hb hby d2_0) rfl rfl) ?_
  show Go p e below s _ _ _ s₁ (mkF m 1 #[.val (.ref u_OR), .unset] [(.ref u_OR)])
  obtain ⟨T1, X1, e1, st1⟩ := getS2 X0 hx hZ hown (host := "") (Or.inl (hw _ (List.mem_of_getElem? (i := 13) rfl))) Via.refl e0 S_LESS (g := (mkF m 1 #[.val (.ref u_OR), .unset] [(.ref u_OR)])) rfl (hb hby d2_1)
  refine Go.st st1 ?_
  show Go p e below s _ _ _ T1 (mkF m 4 #[.val (.ref u_OR), .unset] [(.ref u_LESS), (.ref u_OR)])
  refine Go.st (fun _ => Jvm.RoadKit.acmp (g := (mkF m 4 #[.val (.ref u_OR), .unset] [(.ref u_LESS), (.ref u_OR)])) X1 hx rfl rfl rfl (pc0 := 4) (pc' := 14) (same := false) rfl (hb hby d2_4) rfl (decide_eq_false fun q => (Ne.symm ne_u_LESS_u_OR) (Value.ref.inj q)) (by decide) (by decide)) ?_
  show Go p e below s _ _ _ T1 (mkF m 14 #[.val (.ref u_OR), .unset] [])
  refine Go.st (fun _ => XS.aloadN X1.here hx rfl (hb hby d2_14) rfl rfl) ?_
  show Go p e below s _ _ _ T1 (mkF m 15 #[.val (.ref u_OR), .unset] [(.ref u_OR)])
  obtain ⟨T2, X2, e2, st2⟩ := getS2 X1 hx hZ hown (host := "") (Or.inl (hw _ (List.mem_of_getElem? (i := 15) rfl))) Via.refl e1 S_LESS_OR_EQUAL (g := (mkF m 15 #[.val (.ref u_OR), .unset] [(.ref u_OR)])) rfl (hb hby d2_15)
  refine Go.st st2 ?_
  show Go p e below s _ _ _ T2 (mkF m 18 #[.val (.ref u_OR), .unset] [(.ref u_LESS_OR_EQUAL), (.ref u_OR)])
  refine Go.st (fun _ => Jvm.RoadKit.acmp (g := (mkF m 18 #[.val (.ref u_OR), .unset] [(.ref u_LESS_OR_EQUAL), (.ref u_OR)])) X2 hx rfl rfl rfl (pc0 := 18) (pc' := 28) (same := false) rfl (hb hby d2_18) rfl (decide_eq_false fun q => (Ne.symm ne_u_LESS_OR_EQUAL_u_OR) (Value.ref.inj q)) (by decide) (by decide)) ?_
  show Go p e below s _ _ _ T2 (mkF m 28 #[.val (.ref u_OR), .unset] [])
  refine Go.st (fun _ => XS.aloadN X2.here hx rfl (hb hby d2_28) rfl rfl) ?_
  show Go p e below s _ _ _ T2 (mkF m 29 #[.val (.ref u_OR), .unset] [(.ref u_OR)])
  obtain ⟨T3, X3, e3, st3⟩ := getS2 X2 hx hZ hown (host := "") (Or.inl (hw _ (List.mem_of_getElem? (i := 17) rfl))) Via.refl e2 S_GREATER (g := (mkF m 29 #[.val (.ref u_OR), .unset] [(.ref u_OR)])) rfl (hb hby d2_29)
  refine Go.st st3 ?_
  show Go p e below s _ _ _ T3 (mkF m 32 #[.val (.ref u_OR), .unset] [(.ref u_GREATER), (.ref u_OR)])
  refine Go.st (fun _ => Jvm.RoadKit.acmp (g := (mkF m 32 #[.val (.ref u_OR), .unset] [(.ref u_GREATER), (.ref u_OR)])) X3 hx rfl rfl rfl (pc0 := 32) (pc' := 42) (same := false) rfl (hb hby d2_32) rfl (decide_eq_false fun q => (Ne.symm ne_u_GREATER_u_OR) (Value.ref.inj q)) (by decide) (by decide)) ?_
  show Go p e below s _ _ _ T3 (mkF m 42 #[.val (.ref u_OR), .unset] [])
  refine Go.st (fun _ => XS.aloadN X3.here hx rfl (hb hby d2_42) rfl rfl) ?_
  show Go p e below s _ _ _ T3 (mkF m 43 #[.val (.ref u_OR), .unset] [(.ref u_OR)])
  obtain ⟨T4, X4, e4, st4⟩ := getS2 X3 hx hZ hown (host := "") (Or.inl (hw _ (List.mem_of_getElem? (i := 19) rfl))) Via.refl e3 S_GREATER_OR_EQUAL (g := (mkF m 43 #[.val (.ref u_OR), .unset] [(.ref u_OR)])) rfl (hb hby d2_43)
  refine Go.st st4 ?_
  show Go p e below s _ _ _ T4 (mkF m 46 #[.val (.ref u_OR), .unset] [(.ref u_GREATER_OR_EQUAL), (.ref u_OR)])
  refine Go.st (fun _ => Jvm.RoadKit.acmp (g := (mkF m 46 #[.val (.ref u_OR), .unset] [(.ref u_GREATER_OR_EQUAL), (.ref u_OR)])) X4 hx rfl rfl rfl (pc0 := 46) (pc' := 56) (same := false) rfl (hb hby d2_46) rfl (decide_eq_false fun q => (Ne.symm ne_u_GREATER_OR_EQUAL_u_OR) (Value.ref.inj q)) (by decide) (by decide)) ?_
  show Go p e below s _ _ _ T4 (mkF m 56 #[.val (.ref u_OR), .unset] [])
  refine Go.st (fun _ => XS.aloadN X4.here hx rfl (hb hby d2_56) rfl rfl) ?_
  show Go p e below s _ _ _ T4 (mkF m 57 #[.val (.ref u_OR), .unset] [(.ref u_OR)])
  refine Go.st (fun _ => XS.astoreN X4.here hx rfl (hb hby d2_57) rfl rfl (l' := #[.val (.ref u_OR), .val (.ref u_OR)]) rfl) ?_
  show Go p e below s _ _ _ T4 (mkF m 58 #[.val (.ref u_OR), .val (.ref u_OR)] [])
  refine Go.st (fun _ => XS.aloadN X4.here hx rfl (hb hby d2_58) rfl rfl) ?_
  show Go p e below s _ _ _ T4 (mkF m 59 #[.val (.ref u_OR), .val (.ref u_OR)] [(.ref u_OR)])
  exact Go.retA X4 hx hlk Bd.returns rfl rfl (hb hby d2_59) (by rw [e4]; exact ⟨rfl, N0, rfl⟩) (by decide) (by decide)
theorem ef_rmF1 (m : MethodId) (u_AND : Addr) : entryFrame m #[(.ref u_AND)] 2 = mkF m 0 #[.val (.ref u_AND), .unset] [] := by first | (simp [entryFrame, mkF, argsToLocals, Value.category]; done) | rfl
def QrmF1 (Z : State) (u_AND : Addr) (u_LESS : Addr) (u_LESS_OR_EQUAL : Addr) (u_GREATER : Addr) (u_GREATER_OR_EQUAL : Addr) (h0 : Heap) (n0 : Nat) (rV : Option Value) (hE : Heap) (LE : List Loc) : Prop := rV = some (.ref u_AND) ∧ Fr n0 LE ∧ hE = h0
set_option maxRecDepth 65536 in
set_option maxHeartbeats 40000000 in
theorem rmF1 (l : Launch) (Z : State) (a0 : Array Value) (hw : ∀ d ∈ tables_1, d.before a0 Z = true) (ws : List Jvm.Cond) (u_AND : Addr) (u_LESS : Addr) (u_LESS_OR_EQUAL : Addr) (u_GREATER : Addr) (u_GREATER_OR_EQUAL : Addr) (h0 : Heap) (n0 : Nat) (Z0 : n0 ≤ h0.size) (S_LESS : Sta Z h0 "com/example/moat/moat/xpath/Operation$Operator" "LESS" "Lcom/example/moat/moat/xpath/Operation$Operator;" (.ref u_LESS)) (S_LESS_OR_EQUAL : Sta Z h0 "com/example/moat/moat/xpath/Operation$Operator" "LESS_OR_EQUAL" "Lcom/example/moat/moat/xpath/Operation$Operator;" (.ref u_LESS_OR_EQUAL)) (S_GREATER : Sta Z h0 "com/example/moat/moat/xpath/Operation$Operator" "GREATER" "Lcom/example/moat/moat/xpath/Operation$Operator;" (.ref u_GREATER)) (S_GREATER_OR_EQUAL : Sta Z h0 "com/example/moat/moat/xpath/Operation$Operator" "GREATER_OR_EQUAL" "Lcom/example/moat/moat/xpath/Operation$Operator;" (.ref u_GREATER_OR_EQUAL)) (ne_u_LESS_u_AND : u_LESS ≠ u_AND) (ne_u_LESS_OR_EQUAL_u_AND : u_LESS_OR_EQUAL ≠ u_AND) (ne_u_GREATER_u_AND : u_GREATER ≠ u_AND) (ne_u_GREATER_OR_EQUAL_u_AND : u_GREATER_OR_EQUAL ≠ u_AND) :
    MetFree l (⟨"com/example/moat/moat/xpath/Operation$Operator", "flipped", "()Lcom/example/moat/moat/xpath/Operation$Operator;"⟩ : MethodName) (head1 (Jvm.Cond.code (⟨"com/example/moat/moat/xpath/Operation$Operator", "flipped", "()Lcom/example/moat/moat/xpath/Operation$Operator;"⟩ : MethodName) prog_61_method_7_code 2 (some (.object "com/example/moat/moat/xpath/Operation$Operator")) :: ws) ({ frames := 0, cells := 0, slots := 0, locals := 0 } : Room)) (fun aA UA => aA = #[(.ref u_AND)] ∧ Z.Warmed39 UA.vm ∧ UA.heap = h0) (fun _ _ _ _ _ => True) (fun _ UA oA UB => ∃ rV LE, oA = .returned rV ∧ QrmF1 Z u_AND u_LESS u_LESS_OR_EQUAL u_GREATER u_GREATER_OR_EQUAL h0 n0 rV UB.heap LE ∧ FrameEnd UA oA UB LE ({ frames := 0, cells := 0, slots := 0, locals := 0 } : Room).cells ({ frames := 0, cells := 0, slots := 0, locals := 0 } : Room).slots) := by
  refine MetFree.of_bodySF (plainFor_of_name pn_1) hisR ?_
  intro p e s m args below meth c s₁ Bd hml0 hP hK
  obtain ⟨rfl, hZ, hh⟩ := hP
  have hx := Bd.exec
  have hby := Bd.bytes
  have hml : c.maxLocals = 2 := hml0
  have hown : s.vm.findClass "com/example/moat/moat/xpath/Operation$Operator" = some m.cls := findClass_of_methodNamed Bd.named
  have hnm := (name_of_methodNamed Bd.named Bd.method).1
  have hlk := Bd.notSynchronized
  have X0 : Stand p l e ({ frames := 0, cells := 0, slots := 0, locals := 0 } : Room) s m #[(.ref u_AND)] below meth c s₁ [] 0 0 := Stand.of_body Bd
  have e0 : s₁.heap = h0 := by rw [← hh, Bd.state]; rfl
  have N0 := Fr.nil n0
  show Go p e below s (QrmF1 Z u_AND u_LESS u_LESS_OR_EQUAL u_GREATER u_GREATER_OR_EQUAL h0 n0) ({ frames := 0, cells := 0, slots := 0, locals := 0 } : Room).cells ({ frames := 0, cells := 0, slots := 0, locals := 0 } : Room).slots s₁ (entryFrame m #[(.ref u_AND)] 2)
  refine Go.eq (ef_rmF1 m u_AND) ?_
  show Go p e below s _ _ _ s₁ (mkF m 0 #[.val (.ref u_AND), .unset] [])
  refine Go.st (fun _ => XS.aloadN X0.here hx rfl (hb hby d2_0) rfl rfl) ?_
  show Go p e below s _ _ _ s₁ (mkF m 1 #[.val (.ref u_AND), .unset] [(.ref u_AND)])
  obtain ⟨T1, X1, e1, st1⟩ := getS2 X0 hx hZ hown (host := "") (Or.inl (hw _ (List.mem_of_getElem? (i := 13) rfl))) Via.refl e0 S_LESS (g := (mkF m 1 #[.val (.ref u_AND), .unset] [(.ref u_AND)])) rfl (hb hby d2_1)
  refine Go.st st1 ?_
  show Go p e below s _ _ _ T1 (mkF m 4 #[.val (.ref u_AND), .unset] [(.ref u_LESS), (.ref u_AND)])
  refine Go.st (fun _ => Jvm.RoadKit.acmp (g := (mkF m 4 #[.val (.ref u_AND), .unset] [(.ref u_LESS), (.ref u_AND)])) X1 hx rfl rfl rfl (pc0 := 4) (pc' := 14) (same := false) rfl (hb hby d2_4) rfl (decide_eq_false fun q => (Ne.symm ne_u_LESS_u_AND) (Value.ref.inj q)) (by decide) (by decide)) ?_
  show Go p e below s _ _ _ T1 (mkF m 14 #[.val (.ref u_AND), .unset] [])
  refine Go.st (fun _ => XS.aloadN X1.here hx rfl (hb hby d2_14) rfl rfl) ?_
  show Go p e below s _ _ _ T1 (mkF m 15 #[.val (.ref u_AND), .unset] [(.ref u_AND)])
  obtain ⟨T2, X2, e2, st2⟩ := getS2 X1 hx hZ hown (host := "") (Or.inl (hw _ (List.mem_of_getElem? (i := 15) rfl))) Via.refl e1 S_LESS_OR_EQUAL (g := (mkF m 15 #[.val (.ref u_AND), .unset] [(.ref u_AND)])) rfl (hb hby d2_15)
  refine Go.st st2 ?_
  show Go p e below s _ _ _ T2 (mkF m 18 #[.val (.ref u_AND), .unset] [(.ref u_LESS_OR_EQUAL), (.ref u_AND)])
  refine Go.st (fun _ => Jvm.RoadKit.acmp (g := (mkF m 18 #[.val (.ref u_AND), .unset] [(.ref u_LESS_OR_EQUAL), (.ref u_AND)])) X2 hx rfl rfl rfl (pc0 := 18) (pc' := 28) (same := false) rfl (hb hby d2_18) rfl (decide_eq_false fun q => (Ne.symm ne_u_LESS_OR_EQUAL_u_AND) (Value.ref.inj q)) (by decide) (by decide)) ?_
  show Go p e below s _ _ _ T2 (mkF m 28 #[.val (.ref u_AND), .unset] [])
  refine Go.st (fun _ => XS.aloadN X2.here hx rfl (hb hby d2_28) rfl rfl) ?_
  show Go p e below s _ _ _ T2 (mkF m 29 #[.val (.ref u_AND), .unset] [(.ref u_AND)])
  obtain ⟨T3, X3, e3, st3⟩ := getS2 X2 hx hZ hown (host := "") (Or.inl (hw _ (List.mem_of_getElem? (i := 17) rfl))) Via.refl e2 S_GREATER (g := (mkF m 29 #[.val (.ref u_AND), .unset] [(.ref u_AND)])) rfl (hb hby d2_29)
  refine Go.st st3 ?_
  show Go p e below s _ _ _ T3 (mkF m 32 #[.val (.ref u_AND), .unset] [(.ref u_GREATER), (.ref u_AND)])
  refine Go.st (fun _ => Jvm.RoadKit.acmp (g := (mkF m 32 #[.val (.ref u_AND), .unset] [(.ref u_GREATER), (.ref u_AND)])) X3 hx rfl rfl rfl (pc0 := 32) (pc' := 42) (same := false) rfl (hb hby d2_32) rfl (decide_eq_false fun q => (Ne.symm ne_u_GREATER_u_AND) (Value.ref.inj q)) (by decide) (by decide)) ?_
  show Go p e below s _ _ _ T3 (mkF m 42 #[.val (.ref u_AND), .unset] [])
  refine Go.st (fun _ => XS.aloadN X3.here hx rfl (hb hby d2_42) rfl rfl) ?_
  show Go p e below s _ _ _ T3 (mkF m 43 #[.val (.ref u_AND), .unset] [(.ref u_AND)])
  obtain ⟨T4, X4, e4, st4⟩ := getS2 X3 hx hZ hown (host := "") (Or.inl (hw _ (List.mem_of_getElem? (i := 19) rfl))) Via.refl e3 S_GREATER_OR_EQUAL (g := (mkF m 43 #[.val (.ref u_AND), .unset] [(.ref u_AND)])) rfl (hb hby d2_43)
  refine Go.st st4 ?_
  show Go p e below s _ _ _ T4 (mkF m 46 #[.val (.ref u_AND), .unset] [(.ref u_GREATER_OR_EQUAL), (.ref u_AND)])
  refine Go.st (fun _ => Jvm.RoadKit.acmp (g := (mkF m 46 #[.val (.ref u_AND), .unset] [(.ref u_GREATER_OR_EQUAL), (.ref u_AND)])) X4 hx rfl rfl rfl (pc0 := 46) (pc' := 56) (same := false) rfl (hb hby d2_46) rfl (decide_eq_false fun q => (Ne.symm ne_u_GREATER_OR_EQUAL_u_AND) (Value.ref.inj q)) (by decide) (by decide)) ?_
  show Go p e below s _ _ _ T4 (mkF m 56 #[.val (.ref u_AND), .unset] [])
  refine Go.st (fun _ => XS.aloadN X4.here hx rfl (hb hby d2_56) rfl rfl) ?_
  show Go p e below s _ _ _ T4 (mkF m 57 #[.val (.ref u_AND), .unset] [(.ref u_AND)])
  refine Go.st (fun _ => XS.astoreN X4.here hx rfl (hb hby d2_57) rfl rfl (l' := #[.val (.ref u_AND), .val (.ref u_AND)]) rfl) ?_
  show Go p e below s _ _ _ T4 (mkF m 58 #[.val (.ref u_AND), .val (.ref u_AND)] [])
  refine Go.st (fun _ => XS.aloadN X4.here hx rfl (hb hby d2_58) rfl rfl) ?_
  show Go p e below s _ _ _ T4 (mkF m 59 #[.val (.ref u_AND), .val (.ref u_AND)] [(.ref u_AND)])
  exact Go.retA X4 hx hlk Bd.returns rfl rfl (hb hby d2_59) (by rw [e4]; exact ⟨rfl, N0, rfl⟩) (by decide) (by decide)
theorem ef_rmF2 (m : MethodId) (u_EQUAL : Addr) : entryFrame m #[(.ref u_EQUAL)] 2 = mkF m 0 #[.val (.ref u_EQUAL), .unset] [] := by first | (simp [entryFrame, mkF, argsToLocals, Value.category]; done) | rfl
def QrmF2 (Z : State) (u_EQUAL : Addr) (u_LESS : Addr) (u_LESS_OR_EQUAL : Addr) (u_GREATER : Addr) (u_GREATER_OR_EQUAL : Addr) (h0 : Heap) (n0 : Nat) (rV : Option Value) (hE : Heap) (LE : List Loc) : Prop := rV = some (.ref u_EQUAL) ∧ Fr n0 LE ∧ hE = h0
set_option maxRecDepth 65536 in
set_option maxHeartbeats 40000000 in
theorem rmF2 (l : Launch) (Z : State) (a0 : Array Value) (hw : ∀ d ∈ tables_1, d.before a0 Z = true) (ws : List Jvm.Cond) (u_EQUAL : Addr) (u_LESS : Addr) (u_LESS_OR_EQUAL : Addr) (u_GREATER : Addr) (u_GREATER_OR_EQUAL : Addr) (h0 : Heap) (n0 : Nat) (Z0 : n0 ≤ h0.size) (S_LESS : Sta Z h0 "com/example/moat/moat/xpath/Operation$Operator" "LESS" "Lcom/example/moat/moat/xpath/Operation$Operator;" (.ref u_LESS)) (S_LESS_OR_EQUAL : Sta Z h0 "com/example/moat/moat/xpath/Operation$Operator" "LESS_OR_EQUAL" "Lcom/example/moat/moat/xpath/Operation$Operator;" (.ref u_LESS_OR_EQUAL)) (S_GREATER : Sta Z h0 "com/example/moat/moat/xpath/Operation$Operator" "GREATER" "Lcom/example/moat/moat/xpath/Operation$Operator;" (.ref u_GREATER)) (S_GREATER_OR_EQUAL : Sta Z h0 "com/example/moat/moat/xpath/Operation$Operator" "GREATER_OR_EQUAL" "Lcom/example/moat/moat/xpath/Operation$Operator;" (.ref u_GREATER_OR_EQUAL)) (ne_u_LESS_u_EQUAL : u_LESS ≠ u_EQUAL) (ne_u_LESS_OR_EQUAL_u_EQUAL : u_LESS_OR_EQUAL ≠ u_EQUAL) (ne_u_GREATER_u_EQUAL : u_GREATER ≠ u_EQUAL) (ne_u_GREATER_OR_EQUAL_u_EQUAL : u_GREATER_OR_EQUAL ≠ u_EQUAL) :
    MetFree l (⟨"com/example/moat/moat/xpath/Operation$Operator", "flipped", "()Lcom/example/moat/moat/xpath/Operation$Operator;"⟩ : MethodName) (head1 (Jvm.Cond.code (⟨"com/example/moat/moat/xpath/Operation$Operator", "flipped", "()Lcom/example/moat/moat/xpath/Operation$Operator;"⟩ : MethodName) prog_61_method_7_code 2 (some (.object "com/example/moat/moat/xpath/Operation$Operator")) :: ws) ({ frames := 0, cells := 0, slots := 0, locals := 0 } : Room)) (fun aA UA => aA = #[(.ref u_EQUAL)] ∧ Z.Warmed39 UA.vm ∧ UA.heap = h0) (fun _ _ _ _ _ => True) (fun _ UA oA UB => ∃ rV LE, oA = .returned rV ∧ QrmF2 Z u_EQUAL u_LESS u_LESS_OR_EQUAL u_GREATER u_GREATER_OR_EQUAL h0 n0 rV UB.heap LE ∧ FrameEnd UA oA UB LE ({ frames := 0, cells := 0, slots := 0, locals := 0 } : Room).cells ({ frames := 0, cells := 0, slots := 0, locals := 0 } : Room).slots) := by
  refine MetFree.of_bodySF (plainFor_of_name pn_1) hisR ?_
  intro p e s m args below meth c s₁ Bd hml0 hP hK
  obtain ⟨rfl, hZ, hh⟩ := hP
  have hx := Bd.exec
  have hby := Bd.bytes
  have hml : c.maxLocals = 2 := hml0
  have hown : s.vm.findClass "com/example/moat/moat/xpath/Operation$Operator" = some m.cls := findClass_of_methodNamed Bd.named
  have hnm := (name_of_methodNamed Bd.named Bd.method).1
  have hlk := Bd.notSynchronized
  have X0 : Stand p l e ({ frames := 0, cells := 0, slots := 0, locals := 0 } : Room) s m #[(.ref u_EQUAL)] below meth c s₁ [] 0 0 := Stand.of_body Bd
  have e0 : s₁.heap = h0 := by rw [← hh, Bd.state]; rfl
  have N0 := Fr.nil n0
  show Go p e below s (QrmF2 Z u_EQUAL u_LESS u_LESS_OR_EQUAL u_GREATER u_GREATER_OR_EQUAL h0 n0) ({ frames := 0, cells := 0, slots := 0, locals := 0 } : Room).cells ({ frames := 0, cells := 0, slots := 0, locals := 0 } : Room).slots s₁ (entryFrame m #[(.ref u_EQUAL)] 2)
  refine Go.eq (ef_rmF2 m u_EQUAL) ?_
  show Go p e below s _ _ _ s₁ (mkF m 0 #[.val (.ref u_EQUAL), .unset] [])
  refine Go.st (fun _ => XS.aloadN X0.here hx rfl (hb hby d2_0) rfl rfl) ?_
  show Go p e below s _ _ _ s₁ (mkF m 1 #[.val (.ref u_EQUAL), .unset] [(.ref u_EQUAL)])
  obtain ⟨T1, X1, e1, st1⟩ := getS2 X0 hx hZ hown (host := "") (Or.inl (hw _ (List.mem_of_getElem? (i := 13) rfl))) Via.refl e0 S_LESS (g := (mkF m 1 #[.val (.ref u_EQUAL), .unset] [(.ref u_EQUAL)])) rfl (hb hby d2_1)
  refine Go.st st1 ?_
  show Go p e below s _ _ _ T1 (mkF m 4 #[.val (.ref u_EQUAL), .unset] [(.ref u_LESS), (.ref u_EQUAL)])
  refine Go.st (fun _ => Jvm.RoadKit.acmp (g := (mkF m 4 #[.val (.ref u_EQUAL), .unset] [(.ref u_LESS), (.ref u_EQUAL)])) X1 hx rfl rfl rfl (pc0 := 4) (pc' := 14) (same := false) rfl (hb hby d2_4) rfl (decide_eq_false fun q => (Ne.symm ne_u_LESS_u_EQUAL) (Value.ref.inj q)) (by decide) (by decide)) ?_
  show Go p e below s _ _ _ T1 (mkF m 14 #[.val (.ref u_EQUAL), .unset] [])
  refine Go.st (fun _ => XS.aloadN X1.here hx rfl (hb hby d2_14) rfl rfl) ?_
  show Go p e below s _ _ _ T1 (mkF m 15 #[.val (.ref u_EQUAL), .unset] [(.ref u_EQUAL)])
  obtain ⟨T2, X2, e2, st2⟩ := getS2 X1 hx hZ hown (host := "") (Or.inl (hw _ (List.mem_of_getElem? (i := 15) rfl))) Via.refl e1 S_LESS_OR_EQUAL (g := (mkF m 15 #[.val (.ref u_EQUAL), .unset] [(.ref u_EQUAL)])) rfl (hb hby d2_15)
  refine Go.st st2 ?_
  show Go p e below s _ _ _ T2 (mkF m 18 #[.val (.ref u_EQUAL), .unset] [(.ref u_LESS_OR_EQUAL), (.ref u_EQUAL)])
  refine Go.st (fun _ => Jvm.RoadKit.acmp (g := (mkF m 18 #[.val (.ref u_EQUAL), .unset] [(.ref u_LESS_OR_EQUAL), (.ref u_EQUAL)])) X2 hx rfl rfl rfl (pc0 := 18) (pc' := 28) (same := false) rfl (hb hby d2_18) rfl (decide_eq_false fun q => (Ne.symm ne_u_LESS_OR_EQUAL_u_EQUAL) (Value.ref.inj q)) (by decide) (by decide)) ?_
  show Go p e below s _ _ _ T2 (mkF m 28 #[.val (.ref u_EQUAL), .unset] [])
  refine Go.st (fun _ => XS.aloadN X2.here hx rfl (hb hby d2_28) rfl rfl) ?_
  show Go p e below s _ _ _ T2 (mkF m 29 #[.val (.ref u_EQUAL), .unset] [(.ref u_EQUAL)])
  obtain ⟨T3, X3, e3, st3⟩ := getS2 X2 hx hZ hown (host := "") (Or.inl (hw _ (List.mem_of_getElem? (i := 17) rfl))) Via.refl e2 S_GREATER (g := (mkF m 29 #[.val (.ref u_EQUAL), .unset] [(.ref u_EQUAL)])) rfl (hb hby d2_29)
  refine Go.st st3 ?_
  show Go p e below s _ _ _ T3 (mkF m 32 #[.val (.ref u_EQUAL), .unset] [(.ref u_GREATER), (.ref u_EQUAL)])
  refine Go.st (fun _ => Jvm.RoadKit.acmp (g := (mkF m 32 #[.val (.ref u_EQUAL), .unset] [(.ref u_GREATER), (.ref u_EQUAL)])) X3 hx rfl rfl rfl (pc0 := 32) (pc' := 42) (same := false) rfl (hb hby d2_32) rfl (decide_eq_false fun q => (Ne.symm ne_u_GREATER_u_EQUAL) (Value.ref.inj q)) (by decide) (by decide)) ?_
  show Go p e below s _ _ _ T3 (mkF m 42 #[.val (.ref u_EQUAL), .unset] [])
  refine Go.st (fun _ => XS.aloadN X3.here hx rfl (hb hby d2_42) rfl rfl) ?_
  show Go p e below s _ _ _ T3 (mkF m 43 #[.val (.ref u_EQUAL), .unset] [(.ref u_EQUAL)])
  obtain ⟨T4, X4, e4, st4⟩ := getS2 X3 hx hZ hown (host := "") (Or.inl (hw _ (List.mem_of_getElem? (i := 19) rfl))) Via.refl e3 S_GREATER_OR_EQUAL (g := (mkF m 43 #[.val (.ref u_EQUAL), .unset] [(.ref u_EQUAL)])) rfl (hb hby d2_43)
  refine Go.st st4 ?_
  show Go p e below s _ _ _ T4 (mkF m 46 #[.val (.ref u_EQUAL), .unset] [(.ref u_GREATER_OR_EQUAL), (.ref u_EQUAL)])
  refine Go.st (fun _ => Jvm.RoadKit.acmp (g := (mkF m 46 #[.val (.ref u_EQUAL), .unset] [(.ref u_GREATER_OR_EQUAL), (.ref u_EQUAL)])) X4 hx rfl rfl rfl (pc0 := 46) (pc' := 56) (same := false) rfl (hb hby d2_46) rfl (decide_eq_false fun q => (Ne.symm ne_u_GREATER_OR_EQUAL_u_EQUAL) (Value.ref.inj q)) (by decide) (by decide)) ?_
  show Go p e below s _ _ _ T4 (mkF m 56 #[.val (.ref u_EQUAL), .unset] [])
  refine Go.st (fun _ => XS.aloadN X4.here hx rfl (hb hby d2_56) rfl rfl) ?_
  show Go p e below s _ _ _ T4 (mkF m 57 #[.val (.ref u_EQUAL), .unset] [(.ref u_EQUAL)])
  refine Go.st (fun _ => XS.astoreN X4.here hx rfl (hb hby d2_57) rfl rfl (l' := #[.val (.ref u_EQUAL), .val (.ref u_EQUAL)]) rfl) ?_
  show Go p e below s _ _ _ T4 (mkF m 58 #[.val (.ref u_EQUAL), .val (.ref u_EQUAL)] [])
  refine Go.st (fun _ => XS.aloadN X4.here hx rfl (hb hby d2_58) rfl rfl) ?_
  show Go p e below s _ _ _ T4 (mkF m 59 #[.val (.ref u_EQUAL), .val (.ref u_EQUAL)] [(.ref u_EQUAL)])
  exact Go.retA X4 hx hlk Bd.returns rfl rfl (hb hby d2_59) (by rw [e4]; exact ⟨rfl, N0, rfl⟩) (by decide) (by decide)
theorem ef_rmF3 (m : MethodId) (u_NOT_EQUAL : Addr) : entryFrame m #[(.ref u_NOT_EQUAL)] 2 = mkF m 0 #[.val (.ref u_NOT_EQUAL), .unset] [] := by first | (simp [entryFrame, mkF, argsToLocals, Value.category]; done) | rfl
def QrmF3 (Z : State) (u_NOT_EQUAL : Addr) (u_LESS : Addr) (u_LESS_OR_EQUAL : Addr) (u_GREATER : Addr) (u_GREATER_OR_EQUAL : Addr) (h0 : Heap) (n0 : Nat) (rV : Option Value) (hE : Heap) (LE : List Loc) : Prop := rV = some (.ref u_NOT_EQUAL) ∧ Fr n0 LE ∧ hE = h0
set_option maxRecDepth 65536 in
set_option maxHeartbeats 40000000 in
theorem rmF3 (l : Launch) (Z : State) (a0 : Array Value) (hw : ∀ d ∈ tables_1, d.before a0 Z = true) (ws : List Jvm.Cond) (u_NOT_EQUAL : Addr) (u_LESS : Addr) (u_LESS_OR_EQUAL : Addr) (u_GREATER : Addr) (u_GREATER_OR_EQUAL : Addr) (h0 : Heap) (n0 : Nat) (Z0 : n0 ≤ h0.size) (S_LESS : Sta Z h0 "com/example/moat/moat/xpath/Operation$Operator" "LESS" "Lcom/example/moat/moat/xpath/Operation$Operator;" (.ref u_LESS)) (S_LESS_OR_EQUAL : Sta Z h0 "com/example/moat/moat/xpath/Operation$Operator" "LESS_OR_EQUAL" "Lcom/example/moat/moat/xpath/Operation$Operator;" (.ref u_LESS_OR_EQUAL)) (S_GREATER : Sta Z h0 "com/example/moat/moat/xpath/Operation$Operator" "GREATER" "Lcom/example/moat/moat/xpath/Operation$Operator;" (.ref u_GREATER)) (S_GREATER_OR_EQUAL : Sta Z h0 "com/example/moat/moat/xpath/Operation$Operator" "GREATER_OR_EQUAL" "Lcom/example/moat/moat/xpath/Operation$Operator;" (.ref u_GREATER_OR_EQUAL)) (ne_u_LESS_u_NOT_EQUAL : u_LESS ≠ u_NOT_EQUAL) (ne_u_LESS_OR_EQUAL_u_NOT_EQUAL : u_LESS_OR_EQUAL ≠ u_NOT_EQUAL) (ne_u_GREATER_u_NOT_EQUAL : u_GREATER ≠ u_NOT_EQUAL) (ne_u_GREATER_OR_EQUAL_u_NOT_EQUAL : u_GREATER_OR_EQUAL ≠ u_NOT_EQUAL) :
    MetFree l (⟨"com/example/moat/moat/xpath/Operation$Operator", "flipped", "()Lcom/example/moat/moat/xpath/Operation$Operator;"⟩ : MethodName) (head1 (Jvm.Cond.code (⟨"com/example/moat/moat/xpath/Operation$Operator", "flipped", "()Lcom/example/moat/moat/xpath/Operation$Operator;"⟩ : MethodName) prog_61_method_7_code 2 (some (.object "com/example/moat/moat/xpath/Operation$Operator")) :: ws) ({ frames := 0, cells := 0, slots := 0, locals := 0 } : Room)) (fun aA UA => aA = #[(.ref u_NOT_EQUAL)] ∧ Z.Warmed39 UA.vm ∧ UA.heap = h0) (fun _ _ _ _ _ => True) (fun _ UA oA UB => ∃ rV LE, oA = .returned rV ∧ QrmF3 Z u_NOT_EQUAL u_LESS u_LESS_OR_EQUAL u_GREATER u_GREATER_OR_EQUAL h0 n0 rV UB.heap LE ∧ FrameEnd UA oA UB LE ({ frames := 0, cells := 0, slots := 0, locals := 0 } : Room).cells ({ frames := 0, cells := 0, slots := 0, locals := 0 } : Room).slots) := by
  refine MetFree.of_bodySF (plainFor_of_name pn_1) hisR ?_
  intro p e s m args below meth c s₁ Bd hml0 hP hK
  obtain ⟨rfl, hZ, hh⟩ := hP
  have hx := Bd.exec
  have hby := Bd.bytes
  have hml : c.maxLocals = 2 := hml0
  have hown : s.vm.findClass "com/example/moat/moat/xpath/Operation$Operator" = some m.cls := findClass_of_methodNamed Bd.named
  have hnm := (name_of_methodNamed Bd.named Bd.method).1
  have hlk := Bd.notSynchronized
  have X0 : Stand p l e ({ frames := 0, cells := 0, slots := 0, locals := 0 } : Room) s m #[(.ref u_NOT_EQUAL)] below meth c s₁ [] 0 0 := Stand.of_body Bd
  have e0 : s₁.heap = h0 := by rw [← hh, Bd.state]; rfl
  have N0 := Fr.nil n0
  show Go p e below s (QrmF3 Z u_NOT_EQUAL u_LESS u_LESS_OR_EQUAL u_GREATER u_GREATER_OR_EQUAL h0 n0) ({ frames := 0, cells := 0, slots := 0, locals := 0 } : Room).cells ({ frames := 0, cells := 0, slots := 0, locals := 0 } : Room).slots s₁ (entryFrame m #[(.ref u_NOT_EQUAL)] 2)
  refine Go.eq (ef_rmF3 m u_NOT_EQUAL) ?_
  show Go p e below s _ _ _ s₁ (mkF m 0 #[.val (.ref u_NOT_EQUAL), .unset] [])
  refine Go.st (fun _ => XS.aloadN X0.here hx rfl (hb hby d2_0) rfl rfl) ?_
  show Go p e below s _ _ _ s₁ (mkF m 1 #[.val (.ref u_NOT_EQUAL), .unset] [(.ref u_NOT_EQUAL)])
  obtain ⟨T1, X1, e1, st1⟩ := getS2 X0 hx hZ hown (host := "") (Or.inl (hw _ (List.mem_of_getElem? (i := 13) rfl))) Via.refl e0 S_LESS (g := (mkF m 1 #[.val (.ref u_NOT_EQUAL), .unset] [(.ref u_NOT_EQUAL)])) rfl (hb hby d2_1)
  refine Go.st st1 ?_
  show Go p e below s _ _ _ T1 (mkF m 4 #[.val (.ref u_NOT_EQUAL), .unset] [(.ref u_LESS), (.ref u_NOT_EQUAL)])
  refine Go.st (fun _ => Jvm.RoadKit.acmp (g := (mkF m 4 #[.val (.ref u_NOT_EQUAL), .unset] [(.ref u_LESS), (.ref u_NOT_EQUAL)])) X1 hx rfl rfl rfl (pc0 := 4) (pc' := 14) (same := false) rfl (hb hby d2_4) rfl (decide_eq_false fun q => (Ne.symm ne_u_LESS_u_NOT_EQUAL) (Value.ref.inj q)) (by decide) (by decide)) ?_
  show Go p e below s _ _ _ T1 (mkF m 14 #[.val (.ref u_NOT_EQUAL), .unset] [])
  refine Go.st (fun _ => XS.aloadN X1.here hx rfl (hb hby d2_14) rfl rfl) ?_
  show Go p e below s _ _ _ T1 (mkF m 15 #[.val (.ref u_NOT_EQUAL), .unset] [(.ref u_NOT_EQUAL)])
  obtain ⟨T2, X2, e2, st2⟩ := getS2 X1 hx hZ hown (host := "") (Or.inl (hw _ (List.mem_of_getElem? (i := 15) rfl))) Via.refl e1 S_LESS_OR_EQUAL (g := (mkF m 15 #[.val (.ref u_NOT_EQUAL), .unset] [(.ref u_NOT_EQUAL)])) rfl (hb hby d2_15)
  refine Go.st st2 ?_
  show Go p e below s _ _ _ T2 (mkF m 18 #[.val (.ref u_NOT_EQUAL), .unset] [(.ref u_LESS_OR_EQUAL), (.ref u_NOT_EQUAL)])
  refine Go.st (fun _ => Jvm.RoadKit.acmp (g := (mkF m 18 #[.val (.ref u_NOT_EQUAL), .unset] [(.ref u_LESS_OR_EQUAL), (.ref u_NOT_EQUAL)])) X2 hx rfl rfl rfl (pc0 := 18) (pc' := 28) (same := false) rfl (hb hby d2_18) rfl (decide_eq_false fun q => (Ne.symm ne_u_LESS_OR_EQUAL_u_NOT_EQUAL) (Value.ref.inj q)) (by decide) (by decide)) ?_
  show Go p e below s _ _ _ T2 (mkF m 28 #[.val (.ref u_NOT_EQUAL), .unset] [])
  refine Go.st (fun _ => XS.aloadN X2.here hx rfl (hb hby d2_28) rfl rfl) ?_
  show Go p e below s _ _ _ T2 (mkF m 29 #[.val (.ref u_NOT_EQUAL), .unset] [(.ref u_NOT_EQUAL)])
  obtain ⟨T3, X3, e3, st3⟩ := getS2 X2 hx hZ hown (host := "") (Or.inl (hw _ (List.mem_of_getElem? (i := 17) rfl))) Via.refl e2 S_GREATER (g := (mkF m 29 #[.val (.ref u_NOT_EQUAL), .unset] [(.ref u_NOT_EQUAL)])) rfl (hb hby d2_29)
  refine Go.st st3 ?_
  show Go p e below s _ _ _ T3 (mkF m 32 #[.val (.ref u_NOT_EQUAL), .unset] [(.ref u_GREATER), (.ref u_NOT_EQUAL)])
  refine Go.st (fun _ => Jvm.RoadKit.acmp (g := (mkF m 32 #[.val (.ref u_NOT_EQUAL), .unset] [(.ref u_GREATER), (.ref u_NOT_EQUAL)])) X3 hx rfl rfl rfl (pc0 := 32) (pc' := 42) (same := false) rfl (hb hby d2_32) rfl (decide_eq_false fun q => (Ne.symm ne_u_GREATER_u_NOT_EQUAL) (Value.ref.inj q)) (by decide) (by decide)) ?_
  show Go p e below s _ _ _ T3 (mkF m 42 #[.val (.ref u_NOT_EQUAL), .unset] [])
  refine Go.st (fun _ => XS.aloadN X3.here hx rfl (hb hby d2_42) rfl rfl) ?_
  show Go p e below s _ _ _ T3 (mkF m 43 #[.val (.ref u_NOT_EQUAL), .unset] [(.ref u_NOT_EQUAL)])
  obtain ⟨T4, X4, e4, st4⟩ := getS2 X3 hx hZ hown (host := "") (Or.inl (hw _ (List.mem_of_getElem? (i := 19) rfl))) Via.refl e3 S_GREATER_OR_EQUAL (g := (mkF m 43 #[.val (.ref u_NOT_EQUAL), .unset] [(.ref u_NOT_EQUAL)])) rfl (hb hby d2_43)
  refine Go.st st4 ?_
  show Go p e below s _ _ _ T4 (mkF m 46 #[.val (.ref u_NOT_EQUAL), .unset] [(.ref u_GREATER_OR_EQUAL), (.ref u_NOT_EQUAL)])
  refine Go.st (fun _ => Jvm.RoadKit.acmp (g := (mkF m 46 #[.val (.ref u_NOT_EQUAL), .unset] [(.ref u_GREATER_OR_EQUAL), (.ref u_NOT_EQUAL)])) X4 hx rfl rfl rfl (pc0 := 46) (pc' := 56) (same := false) rfl (hb hby d2_46) rfl (decide_eq_false fun q => (Ne.symm ne_u_GREATER_OR_EQUAL_u_NOT_EQUAL) (Value.ref.inj q)) (by decide) (by decide)) ?_
  show Go p e below s _ _ _ T4 (mkF m 56 #[.val (.ref u_NOT_EQUAL), .unset] [])
  refine Go.st (fun _ => XS.aloadN X4.here hx rfl (hb hby d2_56) rfl rfl) ?_
  show Go p e below s _ _ _ T4 (mkF m 57 #[.val (.ref u_NOT_EQUAL), .unset] [(.ref u_NOT_EQUAL)])
  refine Go.st (fun _ => XS.astoreN X4.here hx rfl (hb hby d2_57) rfl rfl (l' := #[.val (.ref u_NOT_EQUAL), .val (.ref u_NOT_EQUAL)]) rfl) ?_
  show Go p e below s _ _ _ T4 (mkF m 58 #[.val (.ref u_NOT_EQUAL), .val (.ref u_NOT_EQUAL)] [])
  refine Go.st (fun _ => XS.aloadN X4.here hx rfl (hb hby d2_58) rfl rfl) ?_
  show Go p e below s _ _ _ T4 (mkF m 59 #[.val (.ref u_NOT_EQUAL), .val (.ref u_NOT_EQUAL)] [(.ref u_NOT_EQUAL)])
  exact Go.retA X4 hx hlk Bd.returns rfl rfl (hb hby d2_59) (by rw [e4]; exact ⟨rfl, N0, rfl⟩) (by decide) (by decide)
theorem d2_7 : decode prog_61_method_7_code 7 = .ok (.getstatic 22, 3) := by decide +kernel
theorem d2_10 : decode prog_61_method_7_code 10 = .ok (.astore_n 1, 1) := by decide +kernel
theorem d2_11 : decode prog_61_method_7_code 11 = .ok (.goto 47, 3) := by decide +kernel
theorem ef_rmF4 (m : MethodId) (u_LESS : Addr) : entryFrame m #[(.ref u_LESS)] 2 = mkF m 0 #[.val (.ref u_LESS), .unset] [] := by first | (simp [entryFrame, mkF, argsToLocals, Value.category]; done) | rfl
def QrmF4 (Z : State) (u_LESS : Addr) (u_GREATER : Addr) (h0 : Heap) (n0 : Nat) (rV : Option Value) (hE : Heap) (LE : List Loc) : Prop := rV = some (.ref u_GREATER) ∧ Fr n0 LE ∧ hE = h0
set_option maxRecDepth 65536 in
set_option maxHeartbeats 40000000 in
theorem rmF4 (l : Launch) (Z : State) (a0 : Array Value) (hw : ∀ d ∈ tables_1, d.before a0 Z = true) (ws : List Jvm.Cond) (u_LESS : Addr) (u_GREATER : Addr) (h0 : Heap) (n0 : Nat) (Z0 : n0 ≤ h0.size) (S_LESS : Sta Z h0 "com/example/moat/moat/xpath/Operation$Operator" "LESS" "Lcom/example/moat/moat/xpath/Operation$Operator;" (.ref u_LESS)) (S_GREATER : Sta Z h0 "com/example/moat/moat/xpath/Operation$Operator" "GREATER" "Lcom/example/moat/moat/xpath/Operation$Operator;" (.ref u_GREATER)) :
    MetFree l (⟨"com/example/moat/moat/xpath/Operation$Operator", "flipped", "()Lcom/example/moat/moat/xpath/Operation$Operator;"⟩ : MethodName) (head1 (Jvm.Cond.code (⟨"com/example/moat/moat/xpath/Operation$Operator", "flipped", "()Lcom/example/moat/moat/xpath/Operation$Operator;"⟩ : MethodName) prog_61_method_7_code 2 (some (.object "com/example/moat/moat/xpath/Operation$Operator")) :: ws) ({ frames := 0, cells := 0, slots := 0, locals := 0 } : Room)) (fun aA UA => aA = #[(.ref u_LESS)] ∧ Z.Warmed39 UA.vm ∧ UA.heap = h0) (fun _ _ _ _ _ => True) (fun _ UA oA UB => ∃ rV LE, oA = .returned rV ∧ QrmF4 Z u_LESS u_GREATER h0 n0 rV UB.heap LE ∧ FrameEnd UA oA UB LE ({ frames := 0, cells := 0, slots := 0, locals := 0 } : Room).cells ({ frames := 0, cells := 0, slots := 0, locals := 0 } : Room).slots) := by
  refine MetFree.of_bodySF (plainFor_of_name pn_1) hisR ?_
  intro p e s m args below meth c s₁ Bd hml0 hP hK
  obtain ⟨rfl, hZ, hh⟩ := hP
  have hx := Bd.exec
  have hby := Bd.bytes
  have hml : c.maxLocals = 2 := hml0
  have hown : s.vm.findClass "com/example/moat/moat/xpath/Operation$Operator" = some m.cls := findClass_of_methodNamed Bd.named
  have hnm := (name_of_methodNamed Bd.named Bd.method).1
  have hlk := Bd.notSynchronized
  have X0 : Stand p l e ({ frames := 0, cells := 0, slots := 0, locals := 0 } : Room) s m #[(.ref u_LESS)] below meth c s₁ [] 0 0 := Stand.of_body Bd
  have e0 : s₁.heap = h0 := by rw [← hh, Bd.state]; rfl
  have N0 := Fr.nil n0
  show Go p e below s (QrmF4 Z u_LESS u_GREATER h0 n0) ({ frames := 0, cells := 0, slots := 0, locals := 0 } : Room).cells ({ frames := 0, cells := 0, slots := 0, locals := 0 } : Room).slots s₁ (entryFrame m #[(.ref u_LESS)] 2)
  refine Go.eq (ef_rmF4 m u_LESS) ?_
  show Go p e below s _ _ _ s₁ (mkF m 0 #[.val (.ref u_LESS), .unset] [])
  refine Go.st (fun _ => XS.aloadN X0.here hx rfl (hb hby d2_0) rfl rfl) ?_
  show Go p e below s _ _ _ s₁ (mkF m 1 #[.val (.ref u_LESS), .unset] [(.ref u_LESS)])
  obtain ⟨T1, X1, e1, st1⟩ := getS2 X0 hx hZ hown (host := "") (Or.inl (hw _ (List.mem_of_getElem? (i := 13) rfl))) Via.refl e0 S_LESS (g := (mkF m 1 #[.val (.ref u_LESS), .unset] [(.ref u_LESS)])) rfl (hb hby d2_1)
  refine Go.st st1 ?_
  show Go p e below s _ _ _ T1 (mkF m 4 #[.val (.ref u_LESS), .unset] [(.ref u_LESS), (.ref u_LESS)])
  refine Go.st (fun _ => Jvm.RoadKit.acmp (g := (mkF m 4 #[.val (.ref u_LESS), .unset] [(.ref u_LESS), (.ref u_LESS)])) X1 hx rfl rfl rfl (pc0 := 4) (pc' := 7) (same := true) rfl (hb hby d2_4) rfl (decide_eq_true rfl) (by decide) (by decide)) ?_
  show Go p e below s _ _ _ T1 (mkF m 7 #[.val (.ref u_LESS), .unset] [])
  obtain ⟨T2, X2, e2, st2⟩ := getS2 X1 hx hZ hown (host := "") (Or.inl (hw _ (List.mem_of_getElem? (i := 17) rfl))) Via.refl e1 S_GREATER (g := (mkF m 7 #[.val (.ref u_LESS), .unset] [])) rfl (hb hby d2_7)
  refine Go.st st2 ?_
  show Go p e below s _ _ _ T2 (mkF m 10 #[.val (.ref u_LESS), .unset] [(.ref u_GREATER)])
  refine Go.st (fun _ => XS.astoreN X2.here hx rfl (hb hby d2_10) rfl rfl (l' := #[.val (.ref u_LESS), .val (.ref u_GREATER)]) rfl) ?_
  show Go p e below s _ _ _ T2 (mkF m 11 #[.val (.ref u_LESS), .val (.ref u_GREATER)] [])
  refine Go.st (fun _ => XS.goto X2.here hx rfl (pc0 := 11) (pc' := 58) rfl (hb hby d2_11) (by decide) (by decide)) ?_
  show Go p e below s _ _ _ T2 (mkF m 58 #[.val (.ref u_LESS), .val (.ref u_GREATER)] [])
  refine Go.st (fun _ => XS.aloadN X2.here hx rfl (hb hby d2_58) rfl rfl) ?_
  show Go p e below s _ _ _ T2 (mkF m 59 #[.val (.ref u_LESS), .val (.ref u_GREATER)] [(.ref u_GREATER)])
  exact Go.retA X2 hx hlk Bd.returns rfl rfl (hb hby d2_59) (by rw [e2]; exact ⟨rfl, N0, rfl⟩) (by decide) (by decide)
theorem d2_21 : decode prog_61_method_7_code 21 = .ok (.getstatic 25, 3) := by decide +kernel
theorem d2_24 : decode prog_61_method_7_code 24 = .ok (.astore_n 1, 1) := by decide +kernel
theorem d2_25 : decode prog_61_method_7_code 25 = .ok (.goto 33, 3) := by decide +kernel
theorem ef_rmF5 (m : MethodId) (u_LESS_OR_EQUAL : Addr) : entryFrame m #[(.ref u_LESS_OR_EQUAL)] 2 = mkF m 0 #[.val (.ref u_LESS_OR_EQUAL), .unset] [] := by first | (simp [entryFrame, mkF, argsToLocals, Value.category]; done) | rfl
def QrmF5 (Z : State) (u_LESS_OR_EQUAL : Addr) (u_LESS : Addr) (u_GREATER_OR_EQUAL : Addr) (h0 : Heap) (n0 : Nat) (rV : Option Value) (hE : Heap) (LE : List Loc) : Prop := rV = some (.ref u_GREATER_OR_EQUAL) ∧ Fr n0 LE ∧ hE = h0
set_option maxRecDepth 65536 in
set_option maxHeartbeats 40000000 in
theorem rmF5 (l : Launch) (Z : State) (a0 : Array Value) (hw : ∀ d ∈ tables_1, d.before a0 Z = true) (ws : List Jvm.Cond) (u_LESS_OR_EQUAL : Addr) (u_LESS : Addr) (u_GREATER_OR_EQUAL : Addr) (h0 : Heap) (n0 : Nat) (Z0 : n0 ≤ h0.size) (S_LESS : Sta Z h0 "com/example/moat/moat/xpath/Operation$Operator" "LESS" "Lcom/example/moat/moat/xpath/Operation$Operator;" (.ref u_LESS)) (S_LESS_OR_EQUAL : Sta Z h0 "com/example/moat/moat/xpath/Operation$Operator" "LESS_OR_EQUAL" "Lcom/example/moat/moat/xpath/Operation$Operator;" (.ref u_LESS_OR_EQUAL)) (S_GREATER_OR_EQUAL : Sta Z h0 "com/example/moat/moat/xpath/Operation$Operator" "GREATER_OR_EQUAL" "Lcom/example/moat/moat/xpath/Operation$Operator;" (.ref u_GREATER_OR_EQUAL)) (ne_u_LESS_u_LESS_OR_EQUAL : u_LESS ≠ u_LESS_OR_EQUAL) :
    MetFree l (⟨"com/example/moat/moat/xpath/Operation$Operator", "flipped", "()Lcom/example/moat/moat/xpath/Operation$Operator;"⟩ : MethodName) (head1 (Jvm.Cond.code (⟨"com/example/moat/moat/xpath/Operation$Operator", "flipped", "()Lcom/example/moat/moat/xpath/Operation$Operator;"⟩ : MethodName) prog_61_method_7_code 2 (some (.object "com/example/moat/moat/xpath/Operation$Operator")) :: ws) ({ frames := 0, cells := 0, slots := 0, locals := 0 } : Room)) (fun aA UA => aA = #[(.ref u_LESS_OR_EQUAL)] ∧ Z.Warmed39 UA.vm ∧ UA.heap = h0) (fun _ _ _ _ _ => True) (fun _ UA oA UB => ∃ rV LE, oA = .returned rV ∧ QrmF5 Z u_LESS_OR_EQUAL u_LESS u_GREATER_OR_EQUAL h0 n0 rV UB.heap LE ∧ FrameEnd UA oA UB LE ({ frames := 0, cells := 0, slots := 0, locals := 0 } : Room).cells ({ frames := 0, cells := 0, slots := 0, locals := 0 } : Room).slots) := by
  refine MetFree.of_bodySF (plainFor_of_name pn_1) hisR ?_
  intro p e s m args below meth c s₁ Bd hml0 hP hK
  obtain ⟨rfl, hZ, hh⟩ := hP
  have hx := Bd.exec
  have hby := Bd.bytes
  have hml : c.maxLocals = 2 := hml0
  have hown : s.vm.findClass "com/example/moat/moat/xpath/Operation$Operator" = some m.cls := findClass_of_methodNamed Bd.named
  have hnm := (name_of_methodNamed Bd.named Bd.method).1
  have hlk := Bd.notSynchronized
  have X0 : Stand p l e ({ frames := 0, cells := 0, slots := 0, locals := 0 } : Room) s m #[(.ref u_LESS_OR_EQUAL)] below meth c s₁ [] 0 0 := Stand.of_body Bd
  have e0 : s₁.heap = h0 := by rw [← hh, Bd.state]; rfl
  have N0 := Fr.nil n0
  show Go p e below s (QrmF5 Z u_LESS_OR_EQUAL u_LESS u_GREATER_OR_EQUAL h0 n0) ({ frames := 0, cells := 0, slots := 0, locals := 0 } : Room).cells ({ frames := 0, cells := 0, slots := 0, locals := 0 } : Room).slots s₁ (entryFrame m #[(.ref u_LESS_OR_EQUAL)] 2)
  refine Go.eq (ef_rmF5 m u_LESS_OR_EQUAL) ?_
  show Go p e below s _ _ _ s₁ (mkF m 0 #[.val (.ref u_LESS_OR_EQUAL), .unset] [])
  refine Go.st (fun _ => XS.aloadN X0.here hx rfl (hb hby d2_0) rfl rfl) ?_
  show Go p e below s _ _ _ s₁ (mkF m 1 #[.val (.ref u_LESS_OR_EQUAL), .unset] [(.ref u_LESS_OR_EQUAL)])
  obtain ⟨T1, X1, e1, st1⟩ := getS2 X0 hx hZ hown (host := "") (Or.inl (hw _ (List.mem_of_getElem? (i := 13) rfl))) Via.refl e0 S_LESS (g := (mkF m 1 #[.val (.ref u_LESS_OR_EQUAL), .unset] [(.ref u_LESS_OR_EQUAL)])) rfl (hb hby d2_1)
  refine Go.st st1 ?_
  show Go p e below s _ _ _ T1 (mkF m 4 #[.val (.ref u_LESS_OR_EQUAL), .unset] [(.ref u_LESS), (.ref u_LESS_OR_EQUAL)])
  refine Go.st (fun _ => Jvm.RoadKit.acmp (g := (mkF m 4 #[.val (.ref u_LESS_OR_EQUAL), .unset] [(.ref u_LESS), (.ref u_LESS_OR_EQUAL)])) X1 hx rfl rfl rfl (pc0 := 4) (pc' := 14) (same := false) rfl (hb hby d2_4) rfl (decide_eq_false fun q => (Ne.symm ne_u_LESS_u_LESS_OR_EQUAL) (Value.ref.inj q)) (by decide) (by decide)) ?_
  show Go p e below s _ _ _ T1 (mkF m 14 #[.val (.ref u_LESS_OR_EQUAL), .unset] [])
  refine Go.st (fun _ => XS.aloadN X1.here hx rfl (hb hby d2_14) rfl rfl) ?_
  show Go p e below s _ _ _ T1 (mkF m 15 #[.val (.ref u_LESS_OR_EQUAL), .unset] [(.ref u_LESS_OR_EQUAL)])
  obtain ⟨T2, X2, e2, st2⟩ := getS2 X1 hx hZ hown (host := "") (Or.inl (hw _ (List.mem_of_getElem? (i := 15) rfl))) Via.refl e1 S_LESS_OR_EQUAL (g := (mkF m 15 #[.val (.ref u_LESS_OR_EQUAL), .unset] [(.ref u_LESS_OR_EQUAL)])) rfl (hb hby d2_15)
  refine Go.st st2 ?_
  show Go p e below s _ _ _ T2 (mkF m 18 #[.val (.ref u_LESS_OR_EQUAL), .unset] [(.ref u_LESS_OR_EQUAL), (.ref u_LESS_OR_EQUAL)])
  refine Go.st (fun _ => Jvm.RoadKit.acmp (g := (mkF m 18 #[.val (.ref u_LESS_OR_EQUAL), .unset] [(.ref u_LESS_OR_EQUAL), (.ref u_LESS_OR_EQUAL)])) X2 hx rfl rfl rfl (pc0 := 18) (pc' := 21) (same := true) rfl (hb hby d2_18) rfl (decide_eq_true rfl) (by decide) (by decide)) ?_
  show Go p e below s _ _ _ T2 (mkF m 21 #[.val (.ref u_LESS_OR_EQUAL), .unset] [])
  obtain ⟨T3, X3, e3, st3⟩ := getS2 X2 hx hZ hown (host := "") (Or.inl (hw _ (List.mem_of_getElem? (i := 19) rfl))) Via.refl e2 S_GREATER_OR_EQUAL (g := (mkF m 21 #[.val (.ref u_LESS_OR_EQUAL), .unset] [])) rfl (hb hby d2_21)
  refine Go.st st3 ?_
  show Go p e below s _ _ _ T3 (mkF m 24 #[.val (.ref u_LESS_OR_EQUAL), .unset] [(.ref u_GREATER_OR_EQUAL)])
  refine Go.st (fun _ => XS.astoreN X3.here hx rfl (hb hby d2_24) rfl rfl (l' := #[.val (.ref u_LESS_OR_EQUAL), .val (.ref u_GREATER_OR_EQUAL)]) rfl) ?_
  show Go p e below s _ _ _ T3 (mkF m 25 #[.val (.ref u_LESS_OR_EQUAL), .val (.ref u_GREATER_OR_EQUAL)] [])
  refine Go.st (fun _ => XS.goto X3.here hx rfl (pc0 := 25) (pc' := 58) rfl (hb hby d2_25) (by decide) (by decide)) ?_
  show Go p e below s _ _ _ T3 (mkF m 58 #[.val (.ref u_LESS_OR_EQUAL), .val (.ref u_GREATER_OR_EQUAL)] [])
  refine Go.st (fun _ => XS.aloadN X3.here hx rfl (hb hby d2_58) rfl rfl) ?_
  show Go p e below s _ _ _ T3 (mkF m 59 #[.val (.ref u_LESS_OR_EQUAL), .val (.ref u_GREATER_OR_EQUAL)] [(.ref u_GREATER_OR_EQUAL)])
  exact Go.retA X3 hx hlk Bd.returns rfl rfl (hb hby d2_59) (by rw [e3]; exact ⟨rfl, N0, rfl⟩) (by decide) (by decide)
theorem d2_35 : decode prog_61_method_7_code 35 = .ok (.getstatic 16, 3) := by decide +kernel
theorem d2_38 : decode prog_61_method_7_code 38 = .ok (.astore_n 1, 1) := by decide +kernel
theorem d2_39 : decode prog_61_method_7_code 39 = .ok (.goto 19, 3) := by decide +kernel
theorem ef_rmF6 (m : MethodId) (u_GREATER : Addr) : entryFrame m #[(.ref u_GREATER)] 2 = mkF m 0 #[.val (.ref u_GREATER), .unset] [] := by first | (simp [entryFrame, mkF, argsToLocals, Value.category]; done) | rfl
def QrmF6 (Z : State) (u_GREATER : Addr) (u_LESS : Addr) (u_LESS_OR_EQUAL : Addr) (h0 : Heap) (n0 : Nat) (rV : Option Value) (hE : Heap) (LE : List Loc) : Prop := rV = some (.ref u_LESS) ∧ Fr n0 LE ∧ hE = h0
set_option maxRecDepth 65536 in
set_option maxHeartbeats 40000000 in
theorem rmF6 (l : Launch) (Z : State) (a0 : Array Value) (hw : ∀ d ∈ tables_1, d.before a0 Z = true) (ws : List Jvm.Cond) (u_GREATER : Addr) (u_LESS : Addr) (u_LESS_OR_EQUAL : Addr) (h0 : Heap) (n0 : Nat) (Z0 : n0 ≤ h0.size) (S_LESS : Sta Z h0 "com/example/moat/moat/xpath/Operation$Operator" "LESS" "Lcom/example/moat/moat/xpath/Operation$Operator;" (.ref u_LESS)) (S_LESS_OR_EQUAL : Sta Z h0 "com/example/moat/moat/xpath/Operation$Operator" "LESS_OR_EQUAL" "Lcom/example/moat/moat/xpath/Operation$Operator;" (.ref u_LESS_OR_EQUAL)) (S_GREATER : Sta Z h0 "com/example/moat/moat/xpath/Operation$Operator" "GREATER" "Lcom/example/moat/moat/xpath/Operation$Operator;" (.ref u_GREATER)) (ne_u_LESS_u_GREATER : u_LESS ≠ u_GREATER) (ne_u_LESS_OR_EQUAL_u_GREATER : u_LESS_OR_EQUAL ≠ u_GREATER) :
    MetFree l (⟨"com/example/moat/moat/xpath/Operation$Operator", "flipped", "()Lcom/example/moat/moat/xpath/Operation$Operator;"⟩ : MethodName) (head1 (Jvm.Cond.code (⟨"com/example/moat/moat/xpath/Operation$Operator", "flipped", "()Lcom/example/moat/moat/xpath/Operation$Operator;"⟩ : MethodName) prog_61_method_7_code 2 (some (.object "com/example/moat/moat/xpath/Operation$Operator")) :: ws) ({ frames := 0, cells := 0, slots := 0, locals := 0 } : Room)) (fun aA UA => aA = #[(.ref u_GREATER)] ∧ Z.Warmed39 UA.vm ∧ UA.heap = h0) (fun _ _ _ _ _ => True) (fun _ UA oA UB => ∃ rV LE, oA = .returned rV ∧ QrmF6 Z u_GREATER u_LESS u_LESS_OR_EQUAL h0 n0 rV UB.heap LE ∧ FrameEnd UA oA UB LE ({ frames := 0, cells := 0, slots := 0, locals := 0 } : Room).cells ({ frames := 0, cells := 0, slots := 0, locals := 0 } : Room).slots) := by
  refine MetFree.of_bodySF (plainFor_of_name pn_1) hisR ?_
  intro p e s m args below meth c s₁ Bd hml0 hP hK
  obtain ⟨rfl, hZ, hh⟩ := hP
  have hx := Bd.exec
  have hby := Bd.bytes
  have hml : c.maxLocals = 2 := hml0
  have hown : s.vm.findClass "com/example/moat/moat/xpath/Operation$Operator" = some m.cls := findClass_of_methodNamed Bd.named
  have hnm := (name_of_methodNamed Bd.named Bd.method).1
  have hlk := Bd.notSynchronized
  have X0 : Stand p l e ({ frames := 0, cells := 0, slots := 0, locals := 0 } : Room) s m #[(.ref u_GREATER)] below meth c s₁ [] 0 0 := Stand.of_body Bd
  have e0 : s₁.heap = h0 := by rw [← hh, Bd.state]; rfl
  have N0 := Fr.nil n0
  show Go p e below s (QrmF6 Z u_GREATER u_LESS u_LESS_OR_EQUAL h0 n0) ({ frames := 0, cells := 0, slots := 0, locals := 0 } : Room).cells ({ frames := 0, cells := 0, slots := 0, locals := 0 } : Room).slots s₁ (entryFrame m #[(.ref u_GREATER)] 2)
  refine Go.eq (ef_rmF6 m u_GREATER) ?_
  show Go p e below s _ _ _ s₁ (mkF m 0 #[.val (.ref u_GREATER), .unset] [])
  refine Go.st (fun _ => XS.aloadN X0.here hx rfl (hb hby d2_0) rfl rfl) ?_
  show Go p e below s _ _ _ s₁ (mkF m 1 #[.val (.ref u_GREATER), .unset] [(.ref u_GREATER)])
  obtain ⟨T1, X1, e1, st1⟩ := getS2 X0 hx hZ hown (host := "") (Or.inl (hw _ (List.mem_of_getElem? (i := 13) rfl))) Via.refl e0 S_LESS (g := (mkF m 1 #[.val (.ref u_GREATER), .unset] [(.ref u_GREATER)])) rfl (hb hby d2_1)
  refine Go.st st1 ?_
  show Go p e below s _ _ _ T1 (mkF m 4 #[.val (.ref u_GREATER), .unset] [(.ref u_LESS), (.ref u_GREATER)])
  refine Go.st (fun _ => Jvm.RoadKit.acmp (g := (mkF m 4 #[.val (.ref u_GREATER), .unset] [(.ref u_LESS), (.ref u_GREATER)])) X1 hx rfl rfl rfl (pc0 := 4) (pc' := 14) (same := false) rfl (hb hby d2_4) rfl (decide_eq_false fun q => (Ne.symm ne_u_LESS_u_GREATER) (Value.ref.inj q)) (by decide) (by decide)) ?_
  show Go p e below s _ _ _ T1 (mkF m 14 #[.val (.ref u_GREATER), .unset] [])
  refine Go.st (fun _ => XS.aloadN X1.here hx rfl (hb hby d2_14) rfl rfl) ?_
  show Go p e below s _ _ _ T1 (mkF m 15 #[.val (.ref u_GREATER), .unset] [(.ref u_GREATER)])
  obtain ⟨T2, X2, e2, st2⟩ := getS2 X1 hx hZ hown (host := "") (Or.inl (hw _ (List.mem_of_getElem? (i := 15) rfl))) Via.refl e1 S_LESS_OR_EQUAL (g := (mkF m 15 #[.val (.ref u_GREATER), .unset] [(.ref u_GREATER)])) rfl (hb hby d2_15)
  refine Go.st st2 ?_
  show Go p e below s _ _ _ T2 (mkF m 18 #[.val (.ref u_GREATER), .unset] [(.ref u_LESS_OR_EQUAL), (.ref u_GREATER)])
  refine Go.st (fun _ => Jvm.RoadKit.acmp (g := (mkF m 18 #[.val (.ref u_GREATER), .unset] [(.ref u_LESS_OR_EQUAL), (.ref u_GREATER)])) X2 hx rfl rfl rfl (pc0 := 18) (pc' := 28) (same := false) rfl (hb hby d2_18) rfl (decide_eq_false fun q => (Ne.symm ne_u_LESS_OR_EQUAL_u_GREATER) (Value.ref.inj q)) (by decide) (by decide)) ?_
  show Go p e below s _ _ _ T2 (mkF m 28 #[.val (.ref u_GREATER), .unset] [])
  refine Go.st (fun _ => XS.aloadN X2.here hx rfl (hb hby d2_28) rfl rfl) ?_
  show Go p e below s _ _ _ T2 (mkF m 29 #[.val (.ref u_GREATER), .unset] [(.ref u_GREATER)])
  obtain ⟨T3, X3, e3, st3⟩ := getS2 X2 hx hZ hown (host := "") (Or.inl (hw _ (List.mem_of_getElem? (i := 17) rfl))) Via.refl e2 S_GREATER (g := (mkF m 29 #[.val (.ref u_GREATER), .unset] [(.ref u_GREATER)])) rfl (hb hby d2_29)
  refine Go.st st3 ?_
  show Go p e below s _ _ _ T3 (mkF m 32 #[.val (.ref u_GREATER), .unset] [(.ref u_GREATER), (.ref u_GREATER)])
  refine Go.st (fun _ => Jvm.RoadKit.acmp (g := (mkF m 32 #[.val (.ref u_GREATER), .unset] [(.ref u_GREATER), (.ref u_GREATER)])) X3 hx rfl rfl rfl (pc0 := 32) (pc' := 35) (same := true) rfl (hb hby d2_32) rfl (decide_eq_true rfl) (by decide) (by decide)) ?_
  show Go p e below s _ _ _ T3 (mkF m 35 #[.val (.ref u_GREATER), .unset] [])
  obtain ⟨T4, X4, e4, st4⟩ := getS2 X3 hx hZ hown (host := "") (Or.inl (hw _ (List.mem_of_getElem? (i := 13) rfl))) Via.refl e3 S_LESS (g := (mkF m 35 #[.val (.ref u_GREATER), .unset] [])) rfl (hb hby d2_35)
  refine Go.st st4 ?_
  show Go p e below s _ _ _ T4 (mkF m 38 #[.val (.ref u_GREATER), .unset] [(.ref u_LESS)])
  refine Go.st (fun _ => XS.astoreN X4.here hx rfl (hb hby d2_38) rfl rfl (l' := #[.val (.ref u_GREATER), .val (.ref u_LESS)]) rfl) ?_
  show Go p e below s _ _ _ T4 (mkF m 39 #[.val (.ref u_GREATER), .val (.ref u_LESS)] [])
  refine Go.st (fun _ => XS.goto X4.here hx rfl (pc0 := 39) (pc' := 58) rfl (hb hby d2_39) (by decide) (by decide)) ?_
  show Go p e below s _ _ _ T4 (mkF m 58 #[.val (.ref u_GREATER), .val (.ref u_LESS)] [])
  refine Go.st (fun _ => XS.aloadN X4.here hx rfl (hb hby d2_58) rfl rfl) ?_
  show Go p e below s _ _ _ T4 (mkF m 59 #[.val (.ref u_GREATER), .val (.ref u_LESS)] [(.ref u_LESS)])
  exact Go.retA X4 hx hlk Bd.returns rfl rfl (hb hby d2_59) (by rw [e4]; exact ⟨rfl, N0, rfl⟩) (by decide) (by decide)
theorem d2_49 : decode prog_61_method_7_code 49 = .ok (.getstatic 19, 3) := by decide +kernel
theorem d2_52 : decode prog_61_method_7_code 52 = .ok (.astore_n 1, 1) := by decide +kernel
theorem d2_53 : decode prog_61_method_7_code 53 = .ok (.goto 5, 3) := by decide +kernel
theorem ef_rmF7 (m : MethodId) (u_GREATER_OR_EQUAL : Addr) : entryFrame m #[(.ref u_GREATER_OR_EQUAL)] 2 = mkF m 0 #[.val (.ref u_GREATER_OR_EQUAL), .unset] [] := by first | (simp [entryFrame, mkF, argsToLocals, Value.category]; done) | rfl
def QrmF7 (Z : State) (u_GREATER_OR_EQUAL : Addr) (u_LESS : Addr) (u_LESS_OR_EQUAL : Addr) (u_GREATER : Addr) (h0 : Heap) (n0 : Nat) (rV : Option Value) (hE : Heap) (LE : List Loc) : Prop := rV = some (.ref u_LESS_OR_EQUAL) ∧ Fr n0 LE ∧ hE = h0
set_option maxRecDepth 65536 in
set_option maxHeartbeats 40000000 in
theorem rmF7 (l : Launch) (Z : State) (a0 : Array Value) (hw : ∀ d ∈ tables_1, d.before a0 Z = true) (ws : List Jvm.Cond) (u_GREATER_OR_EQUAL : Addr) (u_LESS : Addr) (u_LESS_OR_EQUAL : Addr) (u_GREATER : Addr) (h0 : Heap) (n0 : Nat) (Z0 : n0 ≤ h0.size) (S_LESS : Sta Z h0 "com/example/moat/moat/xpath/Operation$Operator" "LESS" "Lcom/example/moat/moat/xpath/Operation$Operator;" (.ref u_LESS)) (S_LESS_OR_EQUAL : Sta Z h0 "com/example/moat/moat/xpath/Operation$Operator" "LESS_OR_EQUAL" "Lcom/example/moat/moat/xpath/Operation$Operator;" (.ref u_LESS_OR_EQUAL)) (S_GREATER : Sta Z h0 "com/example/moat/moat/xpath/Operation$Operator" "GREATER" "Lcom/example/moat/moat/xpath/Operation$Operator;" (.ref u_GREATER)) (S_GREATER_OR_EQUAL : Sta Z h0 "com/example/moat/moat/xpath/Operation$Operator" "GREATER_OR_EQUAL" "Lcom/example/moat/moat/xpath/Operation$Operator;" (.ref u_GREATER_OR_EQUAL)) (ne_u_LESS_u_GREATER_OR_EQUAL : u_LESS ≠ u_GREATER_OR_EQUAL) (ne_u_LESS_OR_EQUAL_u_GREATER_OR_EQUAL : u_LESS_OR_EQUAL ≠ u_GREATER_OR_EQUAL) (ne_u_GREATER_u_GREATER_OR_EQUAL : u_GREATER ≠ u_GREATER_OR_EQUAL) :
    MetFree l (⟨"com/example/moat/moat/xpath/Operation$Operator", "flipped", "()Lcom/example/moat/moat/xpath/Operation$Operator;"⟩ : MethodName) (head1 (Jvm.Cond.code (⟨"com/example/moat/moat/xpath/Operation$Operator", "flipped", "()Lcom/example/moat/moat/xpath/Operation$Operator;"⟩ : MethodName) prog_61_method_7_code 2 (some (.object "com/example/moat/moat/xpath/Operation$Operator")) :: ws) ({ frames := 0, cells := 0, slots := 0, locals := 0 } : Room)) (fun aA UA => aA = #[(.ref u_GREATER_OR_EQUAL)] ∧ Z.Warmed39 UA.vm ∧ UA.heap = h0) (fun _ _ _ _ _ => True) (fun _ UA oA UB => ∃ rV LE, oA = .returned rV ∧ QrmF7 Z u_GREATER_OR_EQUAL u_LESS u_LESS_OR_EQUAL u_GREATER h0 n0 rV UB.heap LE ∧ FrameEnd UA oA UB LE ({ frames := 0, cells := 0, slots := 0, locals := 0 } : Room).cells ({ frames := 0, cells := 0, slots := 0, locals := 0 } : Room).slots) := by
  refine MetFree.of_bodySF (plainFor_of_name pn_1) hisR ?_
  intro p e s m args below meth c s₁ Bd hml0 hP hK
  obtain ⟨rfl, hZ, hh⟩ := hP
  have hx := Bd.exec
  have hby := Bd.bytes
  have hml : c.maxLocals = 2 := hml0
  have hown : s.vm.findClass "com/example/moat/moat/xpath/Operation$Operator" = some m.cls := findClass_of_methodNamed Bd.named
  have hnm := (name_of_methodNamed Bd.named Bd.method).1
  have hlk := Bd.notSynchronized
  have X0 : Stand p l e ({ frames := 0, cells := 0, slots := 0, locals := 0 } : Room) s m #[(.ref u_GREATER_OR_EQUAL)] below meth c s₁ [] 0 0 := Stand.of_body Bd
  have e0 : s₁.heap = h0 := by rw [← hh, Bd.state]; rfl
  have N0 := Fr.nil n0
  show Go p e below s (QrmF7 Z u_GREATER_OR_EQUAL u_LESS u_LESS_OR_EQUAL u_GREATER h0 n0) ({ frames := 0, cells := 0, slots := 0, locals := 0 } : Room).cells ({ frames := 0, cells := 0, slots := 0, locals := 0 } : Room).slots s₁ (entryFrame m #[(.ref u_GREATER_OR_EQUAL)] 2)
  refine Go.eq (ef_rmF7 m u_GREATER_OR_EQUAL) ?_
  show Go p e below s _ _ _ s₁ (mkF m 0 #[.val (.ref u_GREATER_OR_EQUAL), .unset] [])
  refine Go.st (fun _ => XS.aloadN X0.here hx rfl (hb hby d2_0) rfl rfl) ?_
  show Go p e below s _ _ _ s₁ (mkF m 1 #[.val (.ref u_GREATER_OR_EQUAL), .unset] [(.ref u_GREATER_OR_EQUAL)])
  obtain ⟨T1, X1, e1, st1⟩ := getS2 X0 hx hZ hown (host := "") (Or.inl (hw _ (List.mem_of_getElem? (i := 13) rfl))) Via.refl e0 S_LESS (g := (mkF m 1 #[.val (.ref u_GREATER_OR_EQUAL), .unset] [(.ref u_GREATER_OR_EQUAL)])) rfl (hb hby d2_1)
  refine Go.st st1 ?_
  show Go p e below s _ _ _ T1 (mkF m 4 #[.val (.ref u_GREATER_OR_EQUAL), .unset] [(.ref u_LESS), (.ref u_GREATER_OR_EQUAL)])
  refine Go.st (fun _ => Jvm.RoadKit.acmp (g := (mkF m 4 #[.val (.ref u_GREATER_OR_EQUAL), .unset] [(.ref u_LESS), (.ref u_GREATER_OR_EQUAL)])) X1 hx rfl rfl rfl (pc0 := 4) (pc' := 14) (same := false) rfl (hb hby d2_4) rfl (decide_eq_false fun q => (Ne.symm ne_u_LESS_u_GREATER_OR_EQUAL) (Value.ref.inj q)) (by decide) (by decide)) ?_
  show Go p e below s _ _ _ T1 (mkF m 14 #[.val (.ref u_GREATER_OR_EQUAL), .unset] [])
  refine Go.st (fun _ => XS.aloadN X1.here hx rfl (hb hby d2_14) rfl rfl) ?_
  show Go p e below s _ _ _ T1 (mkF m 15 #[.val (.ref u_GREATER_OR_EQUAL), .unset] [(.ref u_GREATER_OR_EQUAL)])
  obtain ⟨T2, X2, e2, st2⟩ := getS2 X1 hx hZ hown (host := "") (Or.inl (hw _ (List.mem_of_getElem? (i := 15) rfl))) Via.refl e1 S_LESS_OR_EQUAL (g := (mkF m 15 #[.val (.ref u_GREATER_OR_EQUAL), .unset] [(.ref u_GREATER_OR_EQUAL)])) rfl (hb hby d2_15)
  refine Go.st st2 ?_
  show Go p e below s _ _ _ T2 (mkF m 18 #[.val (.ref u_GREATER_OR_EQUAL), .unset] [(.ref u_LESS_OR_EQUAL), (.ref u_GREATER_OR_EQUAL)])
  refine Go.st (fun _ => Jvm.RoadKit.acmp (g := (mkF m 18 #[.val (.ref u_GREATER_OR_EQUAL), .unset] [(.ref u_LESS_OR_EQUAL), (.ref u_GREATER_OR_EQUAL)])) X2 hx rfl rfl rfl (pc0 := 18) (pc' := 28) (same := false) rfl (hb hby d2_18) rfl (decide_eq_false fun q => (Ne.symm ne_u_LESS_OR_EQUAL_u_GREATER_OR_EQUAL) (Value.ref.inj q)) (by decide) (by decide)) ?_
  show Go p e below s _ _ _ T2 (mkF m 28 #[.val (.ref u_GREATER_OR_EQUAL), .unset] [])
  refine Go.st (fun _ => XS.aloadN X2.here hx rfl (hb hby d2_28) rfl rfl) ?_
  show Go p e below s _ _ _ T2 (mkF m 29 #[.val (.ref u_GREATER_OR_EQUAL), .unset] [(.ref u_GREATER_OR_EQUAL)])
  obtain ⟨T3, X3, e3, st3⟩ := getS2 X2 hx hZ hown (host := "") (Or.inl (hw _ (List.mem_of_getElem? (i := 17) rfl))) Via.refl e2 S_GREATER (g := (mkF m 29 #[.val (.ref u_GREATER_OR_EQUAL), .unset] [(.ref u_GREATER_OR_EQUAL)])) rfl (hb hby d2_29)
  refine Go.st st3 ?_
  show Go p e below s _ _ _ T3 (mkF m 32 #[.val (.ref u_GREATER_OR_EQUAL), .unset] [(.ref u_GREATER), (.ref u_GREATER_OR_EQUAL)])
  refine Go.st (fun _ => Jvm.RoadKit.acmp (g := (mkF m 32 #[.val (.ref u_GREATER_OR_EQUAL), .unset] [(.ref u_GREATER), (.ref u_GREATER_OR_EQUAL)])) X3 hx rfl rfl rfl (pc0 := 32) (pc' := 42) (same := false) rfl (hb hby d2_32) rfl (decide_eq_false fun q => (Ne.symm ne_u_GREATER_u_GREATER_OR_EQUAL) (Value.ref.inj q)) (by decide) (by decide)) ?_
  show Go p e below s _ _ _ T3 (mkF m 42 #[.val (.ref u_GREATER_OR_EQUAL), .unset] [])
  refine Go.st (fun _ => XS.aloadN X3.here hx rfl (hb hby d2_42) rfl rfl) ?_
  show Go p e below s _ _ _ T3 (mkF m 43 #[.val (.ref u_GREATER_OR_EQUAL), .unset] [(.ref u_GREATER_OR_EQUAL)])
  obtain ⟨T4, X4, e4, st4⟩ := getS2 X3 hx hZ hown (host := "") (Or.inl (hw _ (List.mem_of_getElem? (i := 19) rfl))) Via.refl e3 S_GREATER_OR_EQUAL (g := (mkF m 43 #[.val (.ref u_GREATER_OR_EQUAL), .unset] [(.ref u_GREATER_OR_EQUAL)])) rfl (hb hby d2_43)
  refine Go.st st4 ?_
  show Go p e below s _ _ _ T4 (mkF m 46 #[.val (.ref u_GREATER_OR_EQUAL), .unset] [(.ref u_GREATER_OR_EQUAL), (.ref u_GREATER_OR_EQUAL)])
  refine Go.st (fun _ => Jvm.RoadKit.acmp (g := (mkF m 46 #[.val (.ref u_GREATER_OR_EQUAL), .unset] [(.ref u_GREATER_OR_EQUAL), (.ref u_GREATER_OR_EQUAL)])) X4 hx rfl rfl rfl (pc0 := 46) (pc' := 49) (same := true) rfl (hb hby d2_46) rfl (decide_eq_true rfl) (by decide) (by decide)) ?_
  show Go p e below s _ _ _ T4 (mkF m 49 #[.val (.ref u_GREATER_OR_EQUAL), .unset] [])
  obtain ⟨T5, X5, e5, st5⟩ := getS2 X4 hx hZ hown (host := "") (Or.inl (hw _ (List.mem_of_getElem? (i := 15) rfl))) Via.refl e4 S_LESS_OR_EQUAL (g := (mkF m 49 #[.val (.ref u_GREATER_OR_EQUAL), .unset] [])) rfl (hb hby d2_49)
  refine Go.st st5 ?_
  show Go p e below s _ _ _ T5 (mkF m 52 #[.val (.ref u_GREATER_OR_EQUAL), .unset] [(.ref u_LESS_OR_EQUAL)])
  refine Go.st (fun _ => XS.astoreN X5.here hx rfl (hb hby d2_52) rfl rfl (l' := #[.val (.ref u_GREATER_OR_EQUAL), .val (.ref u_LESS_OR_EQUAL)]) rfl) ?_
  show Go p e below s _ _ _ T5 (mkF m 53 #[.val (.ref u_GREATER_OR_EQUAL), .val (.ref u_LESS_OR_EQUAL)] [])
  refine Go.st (fun _ => XS.goto X5.here hx rfl (pc0 := 53) (pc' := 58) rfl (hb hby d2_53) (by decide) (by decide)) ?_
  show Go p e below s _ _ _ T5 (mkF m 58 #[.val (.ref u_GREATER_OR_EQUAL), .val (.ref u_LESS_OR_EQUAL)] [])
  refine Go.st (fun _ => XS.aloadN X5.here hx rfl (hb hby d2_58) rfl rfl) ?_
  show Go p e below s _ _ _ T5 (mkF m 59 #[.val (.ref u_GREATER_OR_EQUAL), .val (.ref u_LESS_OR_EQUAL)] [(.ref u_LESS_OR_EQUAL)])
  exact Go.retA X5 hx hlk Bd.returns rfl rfl (hb hby d2_59) (by rw [e5]; exact ⟨rfl, N0, rfl⟩) (by decide) (by decide)
theorem ef_rmF8 (m : MethodId) (u_PLUS : Addr) : entryFrame m #[(.ref u_PLUS)] 2 = mkF m 0 #[.val (.ref u_PLUS), .unset] [] := by first | (simp [entryFrame, mkF, argsToLocals, Value.category]; done) | rfl
def QrmF8 (Z : State) (u_PLUS : Addr) (u_LESS : Addr) (u_LESS_OR_EQUAL : Addr) (u_GREATER : Addr) (u_GREATER_OR_EQUAL : Addr) (h0 : Heap) (n0 : Nat) (rV : Option Value) (hE : Heap) (LE : List Loc) : Prop := rV = some (.ref u_PLUS) ∧ Fr n0 LE ∧ hE = h0
set_option maxRecDepth 65536 in
set_option maxHeartbeats 40000000 in
theorem rmF8 (l : Launch) (Z : State) (a0 : Array Value) (hw : ∀ d ∈ tables_1, d.before a0 Z = true) (ws : List Jvm.Cond) (u_PLUS : Addr) (u_LESS : Addr) (u_LESS_OR_EQUAL : Addr) (u_GREATER : Addr) (u_GREATER_OR_EQUAL : Addr) (h0 : Heap) (n0 : Nat) (Z0 : n0 ≤ h0.size) (S_LESS : Sta Z h0 "com/example/moat/moat/xpath/Operation$Operator" "LESS" "Lcom/example/moat/moat/xpath/Operation$Operator;" (.ref u_LESS)) (S_LESS_OR_EQUAL : Sta Z h0 "com/example/moat/moat/xpath/Operation$Operator" "LESS_OR_EQUAL" "Lcom/example/moat/moat/xpath/Operation$Operator;" (.ref u_LESS_OR_EQUAL)) (S_GREATER : Sta Z h0 "com/example/moat/moat/xpath/Operation$Operator" "GREATER" "Lcom/example/moat/moat/xpath/Operation$Operator;" (.ref u_GREATER)) (S_GREATER_OR_EQUAL : Sta Z h0 "com/example/moat/moat/xpath/Operation$Operator" "GREATER_OR_EQUAL" "Lcom/example/moat/moat/xpath/Operation$Operator;" (.ref u_GREATER_OR_EQUAL)) (ne_u_LESS_u_PLUS : u_LESS ≠ u_PLUS) (ne_u_LESS_OR_EQUAL_u_PLUS : u_LESS_OR_EQUAL ≠ u_PLUS) (ne_u_GREATER_u_PLUS : u_GREATER ≠ u_PLUS) (ne_u_GREATER_OR_EQUAL_u_PLUS : u_GREATER_OR_EQUAL ≠ u_PLUS) :
    MetFree l (⟨"com/example/moat/moat/xpath/Operation$Operator", "flipped", "()Lcom/example/moat/moat/xpath/Operation$Operator;"⟩ : MethodName) (head1 (Jvm.Cond.code (⟨"com/example/moat/moat/xpath/Operation$Operator", "flipped", "()Lcom/example/moat/moat/xpath/Operation$Operator;"⟩ : MethodName) prog_61_method_7_code 2 (some (.object "com/example/moat/moat/xpath/Operation$Operator")) :: ws) ({ frames := 0, cells := 0, slots := 0, locals := 0 } : Room)) (fun aA UA => aA = #[(.ref u_PLUS)] ∧ Z.Warmed39 UA.vm ∧ UA.heap = h0) (fun _ _ _ _ _ => True) (fun _ UA oA UB => ∃ rV LE, oA = .returned rV ∧ QrmF8 Z u_PLUS u_LESS u_LESS_OR_EQUAL u_GREATER u_GREATER_OR_EQUAL h0 n0 rV UB.heap LE ∧ FrameEnd UA oA UB LE ({ frames := 0, cells := 0, slots := 0, locals := 0 } : Room).cells ({ frames := 0, cells := 0, slots := 0, locals := 0 } : Room).slots) := by
  refine MetFree.of_bodySF (plainFor_of_name pn_1) hisR ?_
  intro p e s m args below meth c s₁ Bd hml0 hP hK
  obtain ⟨rfl, hZ, hh⟩ := hP
  have hx := Bd.exec
  have hby := Bd.bytes
  have hml : c.maxLocals = 2 := hml0
  have hown : s.vm.findClass "com/example/moat/moat/xpath/Operation$Operator" = some m.cls := findClass_of_methodNamed Bd.named
  have hnm := (name_of_methodNamed Bd.named Bd.method).1
  have hlk := Bd.notSynchronized
  have X0 : Stand p l e ({ frames := 0, cells := 0, slots := 0, locals := 0 } : Room) s m #[(.ref u_PLUS)] below meth c s₁ [] 0 0 := Stand.of_body Bd
  have e0 : s₁.heap = h0 := by rw [← hh, Bd.state]; rfl
  have N0 := Fr.nil n0
  show Go p e below s (QrmF8 Z u_PLUS u_LESS u_LESS_OR_EQUAL u_GREATER u_GREATER_OR_EQUAL h0 n0) ({ frames := 0, cells := 0, slots := 0, locals := 0 } : Room).cells ({ frames := 0, cells := 0, slots := 0, locals := 0 } : Room).slots s₁ (entryFrame m #[(.ref u_PLUS)] 2)
  refine Go.eq (ef_rmF8 m u_PLUS) ?_
  show Go p e below s _ _ _ s₁ (mkF m 0 #[.val (.ref u_PLUS), .unset] [])
  refine Go.st (fun _ => XS.aloadN X0.here hx rfl (hb hby d2_0) rfl rfl) ?_
  show Go p e below s _ _ _ s₁ (mkF m 1 #[.val (.ref u_PLUS), .unset] [(.ref u_PLUS)])
  obtain ⟨T1, X1, e1, st1⟩ := getS2 X0 hx hZ hown (host := "") (Or.inl (hw _ (List.mem_of_getElem? (i := 13) rfl))) Via.refl e0 S_LESS (g := (mkF m 1 #[.val (.ref u_PLUS), .unset] [(.ref u_PLUS)])) rfl (hb hby d2_1)
  refine Go.st st1 ?_
  show Go p e below s _ _ _ T1 (mkF m 4 #[.val (.ref u_PLUS), .unset] [(.ref u_LESS), (.ref u_PLUS)])
  refine Go.st (fun _ => Jvm.RoadKit.acmp (g := (mkF m 4 #[.val (.ref u_PLUS), .unset] [(.ref u_LESS), (.ref u_PLUS)])) X1 hx rfl rfl rfl (pc0 := 4) (pc' := 14) (same := false) rfl (hb hby d2_4) rfl (decide_eq_false fun q => (Ne.symm ne_u_LESS_u_PLUS) (Value.ref.inj q)) (by decide) (by decide)) ?_
  show Go p e below s _ _ _ T1 (mkF m 14 #[.val (.ref u_PLUS), .unset] [])
  refine Go.st (fun _ => XS.aloadN X1.here hx rfl (hb hby d2_14) rfl rfl) ?_
  show Go p e below s _ _ _ T1 (mkF m 15 #[.val (.ref u_PLUS), .unset] [(.ref u_PLUS)])
  obtain ⟨T2, X2, e2, st2⟩ := getS2 X1 hx hZ hown (host := "") (Or.inl (hw _ (List.mem_of_getElem? (i := 15) rfl))) Via.refl e1 S_LESS_OR_EQUAL (g := (mkF m 15 #[.val (.ref u_PLUS), .unset] [(.ref u_PLUS)])) rfl (hb hby d2_15)
  refine Go.st st2 ?_
  show Go p e below s _ _ _ T2 (mkF m 18 #[.val (.ref u_PLUS), .unset] [(.ref u_LESS_OR_EQUAL), (.ref u_PLUS)])
  refine Go.st (fun _ => Jvm.RoadKit.acmp (g := (mkF m 18 #[.val (.ref u_PLUS), .unset] [(.ref u_LESS_OR_EQUAL), (.ref u_PLUS)])) X2 hx rfl rfl rfl (pc0 := 18) (pc' := 28) (same := false) rfl (hb hby d2_18) rfl (decide_eq_false fun q => (Ne.symm ne_u_LESS_OR_EQUAL_u_PLUS) (Value.ref.inj q)) (by decide) (by decide)) ?_
  show Go p e below s _ _ _ T2 (mkF m 28 #[.val (.ref u_PLUS), .unset] [])
  refine Go.st (fun _ => XS.aloadN X2.here hx rfl (hb hby d2_28) rfl rfl) ?_
  show Go p e below s _ _ _ T2 (mkF m 29 #[.val (.ref u_PLUS), .unset] [(.ref u_PLUS)])
  obtain ⟨T3, X3, e3, st3⟩ := getS2 X2 hx hZ hown (host := "") (Or.inl (hw _ (List.mem_of_getElem? (i := 17) rfl))) Via.refl e2 S_GREATER (g := (mkF m 29 #[.val (.ref u_PLUS), .unset] [(.ref u_PLUS)])) rfl (hb hby d2_29)
  refine Go.st st3 ?_
  show Go p e below s _ _ _ T3 (mkF m 32 #[.val (.ref u_PLUS), .unset] [(.ref u_GREATER), (.ref u_PLUS)])
  refine Go.st (fun _ => Jvm.RoadKit.acmp (g := (mkF m 32 #[.val (.ref u_PLUS), .unset] [(.ref u_GREATER), (.ref u_PLUS)])) X3 hx rfl rfl rfl (pc0 := 32) (pc' := 42) (same := false) rfl (hb hby d2_32) rfl (decide_eq_false fun q => (Ne.symm ne_u_GREATER_u_PLUS) (Value.ref.inj q)) (by decide) (by decide)) ?_
  show Go p e below s _ _ _ T3 (mkF m 42 #[.val (.ref u_PLUS), .unset] [])
  refine Go.st (fun _ => XS.aloadN X3.here hx rfl (hb hby d2_42) rfl rfl) ?_
  show Go p e below s _ _ _ T3 (mkF m 43 #[.val (.ref u_PLUS), .unset] [(.ref u_PLUS)])
  obtain ⟨T4, X4, e4, st4⟩ := getS2 X3 hx hZ hown (host := "") (Or.inl (hw _ (List.mem_of_getElem? (i := 19) rfl))) Via.refl e3 S_GREATER_OR_EQUAL (g := (mkF m 43 #[.val (.ref u_PLUS), .unset] [(.ref u_PLUS)])) rfl (hb hby d2_43)
  refine Go.st st4 ?_
  show Go p e below s _ _ _ T4 (mkF m 46 #[.val (.ref u_PLUS), .unset] [(.ref u_GREATER_OR_EQUAL), (.ref u_PLUS)])
  refine Go.st (fun _ => Jvm.RoadKit.acmp (g := (mkF m 46 #[.val (.ref u_PLUS), .unset] [(.ref u_GREATER_OR_EQUAL), (.ref u_PLUS)])) X4 hx rfl rfl rfl (pc0 := 46) (pc' := 56) (same := false) rfl (hb hby d2_46) rfl (decide_eq_false fun q => (Ne.symm ne_u_GREATER_OR_EQUAL_u_PLUS) (Value.ref.inj q)) (by decide) (by decide)) ?_
  show Go p e below s _ _ _ T4 (mkF m 56 #[.val (.ref u_PLUS), .unset] [])
  refine Go.st (fun _ => XS.aloadN X4.here hx rfl (hb hby d2_56) rfl rfl) ?_
  show Go p e below s _ _ _ T4 (mkF m 57 #[.val (.ref u_PLUS), .unset] [(.ref u_PLUS)])
  refine Go.st (fun _ => XS.astoreN X4.here hx rfl (hb hby d2_57) rfl rfl (l' := #[.val (.ref u_PLUS), .val (.ref u_PLUS)]) rfl) ?_
  show Go p e below s _ _ _ T4 (mkF m 58 #[.val (.ref u_PLUS), .val (.ref u_PLUS)] [])
  refine Go.st (fun _ => XS.aloadN X4.here hx rfl (hb hby d2_58) rfl rfl) ?_
  show Go p e below s _ _ _ T4 (mkF m 59 #[.val (.ref u_PLUS), .val (.ref u_PLUS)] [(.ref u_PLUS)])
  exact Go.retA X4 hx hlk Bd.returns rfl rfl (hb hby d2_59) (by rw [e4]; exact ⟨rfl, N0, rfl⟩) (by decide) (by decide)
theorem ef_rmF9 (m : MethodId) (u_MINUS : Addr) : entryFrame m #[(.ref u_MINUS)] 2 = mkF m 0 #[.val (.ref u_MINUS), .unset] [] := by first | (simp [entryFrame, mkF, argsToLocals, Value.category]; done) | rfl
def QrmF9 (Z : State) (u_MINUS : Addr) (u_LESS : Addr) (u_LESS_OR_EQUAL : Addr) (u_GREATER : Addr) (u_GREATER_OR_EQUAL : Addr) (h0 : Heap) (n0 : Nat) (rV : Option Value) (hE : Heap) (LE : List Loc) : Prop := rV = some (.ref u_MINUS) ∧ Fr n0 LE ∧ hE = h0
set_option maxRecDepth 65536 in
set_option maxHeartbeats 40000000 in
theorem rmF9 (l : Launch) (Z : State) (a0 : Array Value) (hw : ∀ d ∈ tables_1, d.before a0 Z = true) (ws : List Jvm.Cond) (u_MINUS : Addr) (u_LESS : Addr) (u_LESS_OR_EQUAL : Addr) (u_GREATER : Addr) (u_GREATER_OR_EQUAL : Addr) (h0 : Heap) (n0 : Nat) (Z0 : n0 ≤ h0.size) (S_LESS : Sta Z h0 "com/example/moat/moat/xpath/Operation$Operator" "LESS" "Lcom/example/moat/moat/xpath/Operation$Operator;" (.ref u_LESS)) (S_LESS_OR_EQUAL : Sta Z h0 "com/example/moat/moat/xpath/Operation$Operator" "LESS_OR_EQUAL" "Lcom/example/moat/moat/xpath/Operation$Operator;" (.ref u_LESS_OR_EQUAL)) (S_GREATER : Sta Z h0 "com/example/moat/moat/xpath/Operation$Operator" "GREATER" "Lcom/example/moat/moat/xpath/Operation$Operator;" (.ref u_GREATER)) (S_GREATER_OR_EQUAL : Sta Z h0 "com/example/moat/moat/xpath/Operation$Operator" "GREATER_OR_EQUAL" "Lcom/example/moat/moat/xpath/Operation$Operator;" (.ref u_GREATER_OR_EQUAL)) (ne_u_LESS_u_MINUS : u_LESS ≠ u_MINUS) (ne_u_LESS_OR_EQUAL_u_MINUS : u_LESS_OR_EQUAL ≠ u_MINUS) (ne_u_GREATER_u_MINUS : u_GREATER ≠ u_MINUS) (ne_u_GREATER_OR_EQUAL_u_MINUS : u_GREATER_OR_EQUAL ≠ u_MINUS) :
    MetFree l (⟨"com/example/moat/moat/xpath/Operation$Operator", "flipped", "()Lcom/example/moat/moat/xpath/Operation$Operator;"⟩ : MethodName) (head1 (Jvm.Cond.code (⟨"com/example/moat/moat/xpath/Operation$Operator", "flipped", "()Lcom/example/moat/moat/xpath/Operation$Operator;"⟩ : MethodName) prog_61_method_7_code 2 (some (.object "com/example/moat/moat/xpath/Operation$Operator")) :: ws) ({ frames := 0, cells := 0, slots := 0, locals := 0 } : Room)) (fun aA UA => aA = #[(.ref u_MINUS)] ∧ Z.Warmed39 UA.vm ∧ UA.heap = h0) (fun _ _ _ _ _ => True) (fun _ UA oA UB => ∃ rV LE, oA = .returned rV ∧ QrmF9 Z u_MINUS u_LESS u_LESS_OR_EQUAL u_GREATER u_GREATER_OR_EQUAL h0 n0 rV UB.heap LE ∧ FrameEnd UA oA UB LE ({ frames := 0, cells := 0, slots := 0, locals := 0 } : Room).cells ({ frames := 0, cells := 0, slots := 0, locals := 0 } : Room).slots) := by
  refine MetFree.of_bodySF (plainFor_of_name pn_1) hisR ?_
  intro p e s m args below meth c s₁ Bd hml0 hP hK
  obtain ⟨rfl, hZ, hh⟩ := hP
  have hx := Bd.exec
  have hby := Bd.bytes
  have hml : c.maxLocals = 2 := hml0
  have hown : s.vm.findClass "com/example/moat/moat/xpath/Operation$Operator" = some m.cls := findClass_of_methodNamed Bd.named
  have hnm := (name_of_methodNamed Bd.named Bd.method).1
  have hlk := Bd.notSynchronized
  have X0 : Stand p l e ({ frames := 0, cells := 0, slots := 0, locals := 0 } : Room) s m #[(.ref u_MINUS)] below meth c s₁ [] 0 0 := Stand.of_body Bd
  have e0 : s₁.heap = h0 := by rw [← hh, Bd.state]; rfl
  have N0 := Fr.nil n0
  show Go p e below s (QrmF9 Z u_MINUS u_LESS u_LESS_OR_EQUAL u_GREATER u_GREATER_OR_EQUAL h0 n0) ({ frames := 0, cells := 0, slots := 0, locals := 0 } : Room).cells ({ frames := 0, cells := 0, slots := 0, locals := 0 } : Room).slots s₁ (entryFrame m #[(.ref u_MINUS)] 2)
  refine Go.eq (ef_rmF9 m u_MINUS) ?_
  show Go p e below s _ _ _ s₁ (mkF m 0 #[.val (.ref u_MINUS), .unset] [])
  refine Go.st (fun _ => XS.aloadN X0.here hx rfl (hb hby d2_0) rfl rfl) ?_
  show Go p e below s _ _ _ s₁ (mkF m 1 #[.val (.ref u_MINUS), .unset] [(.ref u_MINUS)])
  obtain ⟨T1, X1, e1, st1⟩ := getS2 X0 hx hZ hown (host := "") (Or.inl (hw _ (List.mem_of_getElem? (i := 13) rfl))) Via.refl e0 S_LESS (g := (mkF m 1 #[.val (.ref u_MINUS), .unset] [(.ref u_MINUS)])) rfl (hb hby d2_1)
  refine Go.st st1 ?_
  show Go p e below s _ _ _ T1 (mkF m 4 #[.val (.ref u_MINUS), .unset] [(.ref u_LESS), (.ref u_MINUS)])
  refine Go.st (fun _ => Jvm.RoadKit.acmp (g := (mkF m 4 #[.val (.ref u_MINUS), .unset] [(.ref u_LESS), (.ref u_MINUS)])) X1 hx rfl rfl rfl (pc0 := 4) (pc' := 14) (same := false) rfl (hb hby d2_4) rfl (decide_eq_false fun q => (Ne.symm ne_u_LESS_u_MINUS) (Value.ref.inj q)) (by decide) (by decide)) ?_
  show Go p e below s _ _ _ T1 (mkF m 14 #[.val (.ref u_MINUS), .unset] [])
  refine Go.st (fun _ => XS.aloadN X1.here hx rfl (hb hby d2_14) rfl rfl) ?_
  show Go p e below s _ _ _ T1 (mkF m 15 #[.val (.ref u_MINUS), .unset] [(.ref u_MINUS)])
  obtain ⟨T2, X2, e2, st2⟩ := getS2 X1 hx hZ hown (host := "") (Or.inl (hw _ (List.mem_of_getElem? (i := 15) rfl))) Via.refl e1 S_LESS_OR_EQUAL (g := (mkF m 15 #[.val (.ref u_MINUS), .unset] [(.ref u_MINUS)])) rfl (hb hby d2_15)
  refine Go.st st2 ?_
  show Go p e below s _ _ _ T2 (mkF m 18 #[.val (.ref u_MINUS), .unset] [(.ref u_LESS_OR_EQUAL), (.ref u_MINUS)])
  refine Go.st (fun _ => Jvm.RoadKit.acmp (g := (mkF m 18 #[.val (.ref u_MINUS), .unset] [(.ref u_LESS_OR_EQUAL), (.ref u_MINUS)])) X2 hx rfl rfl rfl (pc0 := 18) (pc' := 28) (same := false) rfl (hb hby d2_18) rfl (decide_eq_false fun q => (Ne.symm ne_u_LESS_OR_EQUAL_u_MINUS) (Value.ref.inj q)) (by decide) (by decide)) ?_
  show Go p e below s _ _ _ T2 (mkF m 28 #[.val (.ref u_MINUS), .unset] [])
  refine Go.st (fun _ => XS.aloadN X2.here hx rfl (hb hby d2_28) rfl rfl) ?_
  show Go p e below s _ _ _ T2 (mkF m 29 #[.val (.ref u_MINUS), .unset] [(.ref u_MINUS)])
  obtain ⟨T3, X3, e3, st3⟩ := getS2 X2 hx hZ hown (host := "") (Or.inl (hw _ (List.mem_of_getElem? (i := 17) rfl))) Via.refl e2 S_GREATER (g := (mkF m 29 #[.val (.ref u_MINUS), .unset] [(.ref u_MINUS)])) rfl (hb hby d2_29)
  refine Go.st st3 ?_
  show Go p e below s _ _ _ T3 (mkF m 32 #[.val (.ref u_MINUS), .unset] [(.ref u_GREATER), (.ref u_MINUS)])
  refine Go.st (fun _ => Jvm.RoadKit.acmp (g := (mkF m 32 #[.val (.ref u_MINUS), .unset] [(.ref u_GREATER), (.ref u_MINUS)])) X3 hx rfl rfl rfl (pc0 := 32) (pc' := 42) (same := false) rfl (hb hby d2_32) rfl (decide_eq_false fun q => (Ne.symm ne_u_GREATER_u_MINUS) (Value.ref.inj q)) (by decide) (by decide)) ?_
  show Go p e below s _ _ _ T3 (mkF m 42 #[.val (.ref u_MINUS), .unset] [])
  refine Go.st (fun _ => XS.aloadN X3.here hx rfl (hb hby d2_42) rfl rfl) ?_
  show Go p e below s _ _ _ T3 (mkF m 43 #[.val (.ref u_MINUS), .unset] [(.ref u_MINUS)])
  obtain ⟨T4, X4, e4, st4⟩ := getS2 X3 hx hZ hown (host := "") (Or.inl (hw _ (List.mem_of_getElem? (i := 19) rfl))) Via.refl e3 S_GREATER_OR_EQUAL (g := (mkF m 43 #[.val (.ref u_MINUS), .unset] [(.ref u_MINUS)])) rfl (hb hby d2_43)
  refine Go.st st4 ?_
  show Go p e below s _ _ _ T4 (mkF m 46 #[.val (.ref u_MINUS), .unset] [(.ref u_GREATER_OR_EQUAL), (.ref u_MINUS)])
  refine Go.st (fun _ => Jvm.RoadKit.acmp (g := (mkF m 46 #[.val (.ref u_MINUS), .unset] [(.ref u_GREATER_OR_EQUAL), (.ref u_MINUS)])) X4 hx rfl rfl rfl (pc0 := 46) (pc' := 56) (same := false) rfl (hb hby d2_46) rfl (decide_eq_false fun q => (Ne.symm ne_u_GREATER_OR_EQUAL_u_MINUS) (Value.ref.inj q)) (by decide) (by decide)) ?_
  show Go p e below s _ _ _ T4 (mkF m 56 #[.val (.ref u_MINUS), .unset] [])
  refine Go.st (fun _ => XS.aloadN X4.here hx rfl (hb hby d2_56) rfl rfl) ?_
  show Go p e below s _ _ _ T4 (mkF m 57 #[.val (.ref u_MINUS), .unset] [(.ref u_MINUS)])
  refine Go.st (fun _ => XS.astoreN X4.here hx rfl (hb hby d2_57) rfl rfl (l' := #[.val (.ref u_MINUS), .val (.ref u_MINUS)]) rfl) ?_
  show Go p e below s _ _ _ T4 (mkF m 58 #[.val (.ref u_MINUS), .val (.ref u_MINUS)] [])
  refine Go.st (fun _ => XS.aloadN X4.here hx rfl (hb hby d2_58) rfl rfl) ?_
  show Go p e below s _ _ _ T4 (mkF m 59 #[.val (.ref u_MINUS), .val (.ref u_MINUS)] [(.ref u_MINUS)])
  exact Go.retA X4 hx hlk Bd.returns rfl rfl (hb hby d2_59) (by rw [e4]; exact ⟨rfl, N0, rfl⟩) (by decide) (by decide)
theorem ef_rmF10 (m : MethodId) (u_MULTIPLY : Addr) : entryFrame m #[(.ref u_MULTIPLY)] 2 = mkF m 0 #[.val (.ref u_MULTIPLY), .unset] [] := by first | (simp [entryFrame, mkF, argsToLocals, Value.category]; done) | rfl
def QrmF10 (Z : State) (u_MULTIPLY : Addr) (u_LESS : Addr) (u_LESS_OR_EQUAL : Addr) (u_GREATER : Addr) (u_GREATER_OR_EQUAL : Addr) (h0 : Heap) (n0 : Nat) (rV : Option Value) (hE : Heap) (LE : List Loc) : Prop := rV = some (.ref u_MULTIPLY) ∧ Fr n0 LE ∧ hE = h0
set_option maxRecDepth 65536 in
set_option maxHeartbeats 40000000 in
theorem rmF10 (l : Launch) (Z : State) (a0 : Array Value) (hw : ∀ d ∈ tables_1, d.before a0 Z = true) (ws : List Jvm.Cond) (u_MULTIPLY : Addr) (u_LESS : Addr) (u_LESS_OR_EQUAL : Addr) (u_GREATER : Addr) (u_GREATER_OR_EQUAL : Addr) (h0 : Heap) (n0 : Nat) (Z0 : n0 ≤ h0.size) (S_LESS : Sta Z h0 "com/example/moat/moat/xpath/Operation$Operator" "LESS" "Lcom/example/moat/moat/xpath/Operation$Operator;" (.ref u_LESS)) (S_LESS_OR_EQUAL : Sta Z h0 "com/example/moat/moat/xpath/Operation$Operator" "LESS_OR_EQUAL" "Lcom/example/moat/moat/xpath/Operation$Operator;" (.ref u_LESS_OR_EQUAL)) (S_GREATER : Sta Z h0 "com/example/moat/moat/xpath/Operation$Operator" "GREATER" "Lcom/example/moat/moat/xpath/Operation$Operator;" (.ref u_GREATER)) (S_GREATER_OR_EQUAL : Sta Z h0 "com/example/moat/moat/xpath/Operation$Operator" "GREATER_OR_EQUAL" "Lcom/example/moat/moat/xpath/Operation$Operator;" (.ref u_GREATER_OR_EQUAL)) (ne_u_LESS_u_MULTIPLY : u_LESS ≠ u_MULTIPLY) (ne_u_LESS_OR_EQUAL_u_MULTIPLY : u_LESS_OR_EQUAL ≠ u_MULTIPLY) (ne_u_GREATER_u_MULTIPLY : u_GREATER ≠ u_MULTIPLY) (ne_u_GREATER_OR_EQUAL_u_MULTIPLY : u_GREATER_OR_EQUAL ≠ u_MULTIPLY) :
    MetFree l (⟨"com/example/moat/moat/xpath/Operation$Operator", "flipped", "()Lcom/example/moat/moat/xpath/Operation$Operator;"⟩ : MethodName) (head1 (Jvm.Cond.code (⟨"com/example/moat/moat/xpath/Operation$Operator", "flipped", "()Lcom/example/moat/moat/xpath/Operation$Operator;"⟩ : MethodName) prog_61_method_7_code 2 (some (.object "com/example/moat/moat/xpath/Operation$Operator")) :: ws) ({ frames := 0, cells := 0, slots := 0, locals := 0 } : Room)) (fun aA UA => aA = #[(.ref u_MULTIPLY)] ∧ Z.Warmed39 UA.vm ∧ UA.heap = h0) (fun _ _ _ _ _ => True) (fun _ UA oA UB => ∃ rV LE, oA = .returned rV ∧ QrmF10 Z u_MULTIPLY u_LESS u_LESS_OR_EQUAL u_GREATER u_GREATER_OR_EQUAL h0 n0 rV UB.heap LE ∧ FrameEnd UA oA UB LE ({ frames := 0, cells := 0, slots := 0, locals := 0 } : Room).cells ({ frames := 0, cells := 0, slots := 0, locals := 0 } : Room).slots) := by
  refine MetFree.of_bodySF (plainFor_of_name pn_1) hisR ?_
  intro p e s m args below meth c s₁ Bd hml0 hP hK
  obtain ⟨rfl, hZ, hh⟩ := hP
  have hx := Bd.exec
  have hby := Bd.bytes
  have hml : c.maxLocals = 2 := hml0
  have hown : s.vm.findClass "com/example/moat/moat/xpath/Operation$Operator" = some m.cls := findClass_of_methodNamed Bd.named
  have hnm := (name_of_methodNamed Bd.named Bd.method).1
  have hlk := Bd.notSynchronized
  have X0 : Stand p l e ({ frames := 0, cells := 0, slots := 0, locals := 0 } : Room) s m #[(.ref u_MULTIPLY)] below meth c s₁ [] 0 0 := Stand.of_body Bd
  have e0 : s₁.heap = h0 := by rw [← hh, Bd.state]; rfl
  have N0 := Fr.nil n0
  show Go p e below s (QrmF10 Z u_MULTIPLY u_LESS u_LESS_OR_EQUAL u_GREATER u_GREATER_OR_EQUAL h0 n0) ({ frames := 0, cells := 0, slots := 0, locals := 0 } : Room).cells ({ frames := 0, cells := 0, slots := 0, locals := 0 } : Room).slots s₁ (entryFrame m #[(.ref u_MULTIPLY)] 2)
  refine Go.eq (ef_rmF10 m u_MULTIPLY) ?_
  show Go p e below s _ _ _ s₁ (mkF m 0 #[.val (.ref u_MULTIPLY), .unset] [])
  refine Go.st (fun _ => XS.aloadN X0.here hx rfl (hb hby d2_0) rfl rfl) ?_
  show Go p e below s _ _ _ s₁ (mkF m 1 #[.val (.ref u_MULTIPLY), .unset] [(.ref u_MULTIPLY)])
  obtain ⟨T1, X1, e1, st1⟩ := getS2 X0 hx hZ hown (host := "") (Or.inl (hw _ (List.mem_of_getElem? (i := 13) rfl))) Via.refl e0 S_LESS (g := (mkF m 1 #[.val (.ref u_MULTIPLY), .unset] [(.ref u_MULTIPLY)])) rfl (hb hby d2_1)
  refine Go.st st1 ?_
  show Go p e below s _ _ _ T1 (mkF m 4 #[.val (.ref u_MULTIPLY), .unset] [(.ref u_LESS), (.ref u_MULTIPLY)])
  refine Go.st (fun _ => Jvm.RoadKit.acmp (g := (mkF m 4 #[.val (.ref u_MULTIPLY), .unset] [(.ref u_LESS), (.ref u_MULTIPLY)])) X1 hx rfl rfl rfl (pc0 := 4) (pc' := 14) (same := false) rfl (hb hby d2_4) rfl (decide_eq_false fun q => (Ne.symm ne_u_LESS_u_MULTIPLY) (Value.ref.inj q)) (by decide) (by decide)) ?_
  show Go p e below s _ _ _ T1 (mkF m 14 #[.val (.ref u_MULTIPLY), .unset] [])
  refine Go.st (fun _ => XS.aloadN X1.here hx rfl (hb hby d2_14) rfl rfl) ?_
  show Go p e below s _ _ _ T1 (mkF m 15 #[.val (.ref u_MULTIPLY), .unset] [(.ref u_MULTIPLY)])
  obtain ⟨T2, X2, e2, st2⟩ := getS2 X1 hx hZ hown (host := "") (Or.inl (hw _ (List.mem_of_getElem? (i := 15) rfl))) Via.refl e1 S_LESS_OR_EQUAL (g := (mkF m 15 #[.val (.ref u_MULTIPLY), .unset] [(.ref u_MULTIPLY)])) rfl (hb hby d2_15)
  refine Go.st st2 ?_
  show Go p e below s _ _ _ T2 (mkF m 18 #[.val (.ref u_MULTIPLY), .unset] [(.ref u_LESS_OR_EQUAL), (.ref u_MULTIPLY)])
  refine Go.st (fun _ => Jvm.RoadKit.acmp (g := (mkF m 18 #[.val (.ref u_MULTIPLY), .unset] [(.ref u_LESS_OR_EQUAL), (.ref u_MULTIPLY)])) X2 hx rfl rfl rfl (pc0 := 18) (pc' := 28) (same := false) rfl (hb hby d2_18) rfl (decide_eq_false fun q => (Ne.symm ne_u_LESS_OR_EQUAL_u_MULTIPLY) (Value.ref.inj q)) (by decide) (by decide)) ?_
  show Go p e below s _ _ _ T2 (mkF m 28 #[.val (.ref u_MULTIPLY), .unset] [])
  refine Go.st (fun _ => XS.aloadN X2.here hx rfl (hb hby d2_28) rfl rfl) ?_
  show Go p e below s _ _ _ T2 (mkF m 29 #[.val (.ref u_MULTIPLY), .unset] [(.ref u_MULTIPLY)])
  obtain ⟨T3, X3, e3, st3⟩ := getS2 X2 hx hZ hown (host := "") (Or.inl (hw _ (List.mem_of_getElem? (i := 17) rfl))) Via.refl e2 S_GREATER (g := (mkF m 29 #[.val (.ref u_MULTIPLY), .unset] [(.ref u_MULTIPLY)])) rfl (hb hby d2_29)
  refine Go.st st3 ?_
  show Go p e below s _ _ _ T3 (mkF m 32 #[.val (.ref u_MULTIPLY), .unset] [(.ref u_GREATER), (.ref u_MULTIPLY)])
  refine Go.st (fun _ => Jvm.RoadKit.acmp (g := (mkF m 32 #[.val (.ref u_MULTIPLY), .unset] [(.ref u_GREATER), (.ref u_MULTIPLY)])) X3 hx rfl rfl rfl (pc0 := 32) (pc' := 42) (same := false) rfl (hb hby d2_32) rfl (decide_eq_false fun q => (Ne.symm ne_u_GREATER_u_MULTIPLY) (Value.ref.inj q)) (by decide) (by decide)) ?_
  show Go p e below s _ _ _ T3 (mkF m 42 #[.val (.ref u_MULTIPLY), .unset] [])
  refine Go.st (fun _ => XS.aloadN X3.here hx rfl (hb hby d2_42) rfl rfl) ?_
  show Go p e below s _ _ _ T3 (mkF m 43 #[.val (.ref u_MULTIPLY), .unset] [(.ref u_MULTIPLY)])
  obtain ⟨T4, X4, e4, st4⟩ := getS2 X3 hx hZ hown (host := "") (Or.inl (hw _ (List.mem_of_getElem? (i := 19) rfl))) Via.refl e3 S_GREATER_OR_EQUAL (g := (mkF m 43 #[.val (.ref u_MULTIPLY), .unset] [(.ref u_MULTIPLY)])) rfl (hb hby d2_43)
  refine Go.st st4 ?_
  show Go p e below s _ _ _ T4 (mkF m 46 #[.val (.ref u_MULTIPLY), .unset] [(.ref u_GREATER_OR_EQUAL), (.ref u_MULTIPLY)])
  refine Go.st (fun _ => Jvm.RoadKit.acmp (g := (mkF m 46 #[.val (.ref u_MULTIPLY), .unset] [(.ref u_GREATER_OR_EQUAL), (.ref u_MULTIPLY)])) X4 hx rfl rfl rfl (pc0 := 46) (pc' := 56) (same := false) rfl (hb hby d2_46) rfl (decide_eq_false fun q => (Ne.symm ne_u_GREATER_OR_EQUAL_u_MULTIPLY) (Value.ref.inj q)) (by decide) (by decide)) ?_
  show Go p e below s _ _ _ T4 (mkF m 56 #[.val (.ref u_MULTIPLY), .unset] [])
  refine Go.st (fun _ => XS.aloadN X4.here hx rfl (hb hby d2_56) rfl rfl) ?_
  show Go p e below s _ _ _ T4 (mkF m 57 #[.val (.ref u_MULTIPLY), .unset] [(.ref u_MULTIPLY)])
  refine Go.st (fun _ => XS.astoreN X4.here hx rfl (hb hby d2_57) rfl rfl (l' := #[.val (.ref u_MULTIPLY), .val (.ref u_MULTIPLY)]) rfl) ?_
  show Go p e below s _ _ _ T4 (mkF m 58 #[.val (.ref u_MULTIPLY), .val (.ref u_MULTIPLY)] [])
  refine Go.st (fun _ => XS.aloadN X4.here hx rfl (hb hby d2_58) rfl rfl) ?_
  show Go p e below s _ _ _ T4 (mkF m 59 #[.val (.ref u_MULTIPLY), .val (.ref u_MULTIPLY)] [(.ref u_MULTIPLY)])
  exact Go.retA X4 hx hlk Bd.returns rfl rfl (hb hby d2_59) (by rw [e4]; exact ⟨rfl, N0, rfl⟩) (by decide) (by decide)
theorem ef_rmF11 (m : MethodId) (u_DIVIDE : Addr) : entryFrame m #[(.ref u_DIVIDE)] 2 = mkF m 0 #[.val (.ref u_DIVIDE), .unset] [] := by first | (simp [entryFrame, mkF, argsToLocals, Value.category]; done) | rfl
def QrmF11 (Z : State) (u_DIVIDE : Addr) (u_LESS : Addr) (u_LESS_OR_EQUAL : Addr) (u_GREATER : Addr) (u_GREATER_OR_EQUAL : Addr) (h0 : Heap) (n0 : Nat) (rV : Option Value) (hE : Heap) (LE : List Loc) : Prop := rV = some (.ref u_DIVIDE) ∧ Fr n0 LE ∧ hE = h0
set_option maxRecDepth 65536 in
set_option maxHeartbeats 40000000 in
theorem rmF11 (l : Launch) (Z : State) (a0 : Array Value) (hw : ∀ d ∈ tables_1, d.before a0 Z = true) (ws : List Jvm.Cond) (u_DIVIDE : Addr) (u_LESS : Addr) (u_LESS_OR_EQUAL : Addr) (u_GREATER : Addr) (u_GREATER_OR_EQUAL : Addr) (h0 : Heap) (n0 : Nat) (Z0 : n0 ≤ h0.size) (S_LESS : Sta Z h0 "com/example/moat/moat/xpath/Operation$Operator" "LESS" "Lcom/example/moat/moat/xpath/Operation$Operator;" (.ref u_LESS)) (S_LESS_OR_EQUAL : Sta Z h0 "com/example/moat/moat/xpath/Operation$Operator" "LESS_OR_EQUAL" "Lcom/example/moat/moat/xpath/Operation$Operator;" (.ref u_LESS_OR_EQUAL)) (S_GREATER : Sta Z h0 "com/example/moat/moat/xpath/Operation$Operator" "GREATER" "Lcom/example/moat/moat/xpath/Operation$Operator;" (.ref u_GREATER)) (S_GREATER_OR_EQUAL : Sta Z h0 "com/example/moat/moat/xpath/Operation$Operator" "GREATER_OR_EQUAL" "Lcom/example/moat/moat/xpath/Operation$Operator;" (.ref u_GREATER_OR_EQUAL)) (ne_u_LESS_u_DIVIDE : u_LESS ≠ u_DIVIDE) (ne_u_LESS_OR_EQUAL_u_DIVIDE : u_LESS_OR_EQUAL ≠ u_DIVIDE) (ne_u_GREATER_u_DIVIDE : u_GREATER ≠ u_DIVIDE) (ne_u_GREATER_OR_EQUAL_u_DIVIDE : u_GREATER_OR_EQUAL ≠ u_DIVIDE) :
    MetFree l (⟨"com/example/moat/moat/xpath/Operation$Operator", "flipped", "()Lcom/example/moat/moat/xpath/Operation$Operator;"⟩ : MethodName) (head1 (Jvm.Cond.code (⟨"com/example/moat/moat/xpath/Operation$Operator", "flipped", "()Lcom/example/moat/moat/xpath/Operation$Operator;"⟩ : MethodName) prog_61_method_7_code 2 (some (.object "com/example/moat/moat/xpath/Operation$Operator")) :: ws) ({ frames := 0, cells := 0, slots := 0, locals := 0 } : Room)) (fun aA UA => aA = #[(.ref u_DIVIDE)] ∧ Z.Warmed39 UA.vm ∧ UA.heap = h0) (fun _ _ _ _ _ => True) (fun _ UA oA UB => ∃ rV LE, oA = .returned rV ∧ QrmF11 Z u_DIVIDE u_LESS u_LESS_OR_EQUAL u_GREATER u_GREATER_OR_EQUAL h0 n0 rV UB.heap LE ∧ FrameEnd UA oA UB LE ({ frames := 0, cells := 0, slots := 0, locals := 0 } : Room).cells ({ frames := 0, cells := 0, slots := 0, locals := 0 } : Room).slots) := by
  refine MetFree.of_bodySF (plainFor_of_name pn_1) hisR ?_
  intro p e s m args below meth c s₁ Bd hml0 hP hK
  obtain ⟨rfl, hZ, hh⟩ := hP
  have hx := Bd.exec
  have hby := Bd.bytes
  have hml : c.maxLocals = 2 := hml0
  have hown : s.vm.findClass "com/example/moat/moat/xpath/Operation$Operator" = some m.cls := findClass_of_methodNamed Bd.named
  have hnm := (name_of_methodNamed Bd.named Bd.method).1
  have hlk := Bd.notSynchronized
  have X0 : Stand p l e ({ frames := 0, cells := 0, slots := 0, locals := 0 } : Room) s m #[(.ref u_DIVIDE)] below meth c s₁ [] 0 0 := Stand.of_body Bd
  have e0 : s₁.heap = h0 := by rw [← hh, Bd.state]; rfl
  have N0 := Fr.nil n0
  show Go p e below s (QrmF11 Z u_DIVIDE u_LESS u_LESS_OR_EQUAL u_GREATER u_GREATER_OR_EQUAL h0 n0) ({ frames := 0, cells := 0, slots := 0, locals := 0 } : Room).cells ({ frames := 0, cells := 0, slots := 0, locals := 0 } : Room).slots s₁ (entryFrame m #[(.ref u_DIVIDE)] 2)
  refine Go.eq (ef_rmF11 m u_DIVIDE) ?_
  show Go p e below s _ _ _ s₁ (mkF m 0 #[.val (.ref u_DIVIDE), .unset] [])
  refine Go.st (fun _ => XS.aloadN X0.here hx rfl (hb hby d2_0) rfl rfl) ?_
  show Go p e below s _ _ _ s₁ (mkF m 1 #[.val (.ref u_DIVIDE), .unset] [(.ref u_DIVIDE)])
  obtain ⟨T1, X1, e1, st1⟩ := getS2 X0 hx hZ hown (host := "") (Or.inl (hw _ (List.mem_of_getElem? (i := 13) rfl))) Via.refl e0 S_LESS (g := (mkF m 1 #[.val (.ref u_DIVIDE), .unset] [(.ref u_DIVIDE)])) rfl (hb hby d2_1)
  refine Go.st st1 ?_
  show Go p e below s _ _ _ T1 (mkF m 4 #[.val (.ref u_DIVIDE), .unset] [(.ref u_LESS), (.ref u_DIVIDE)])
  refine Go.st (fun _ => Jvm.RoadKit.acmp (g := (mkF m 4 #[.val (.ref u_DIVIDE), .unset] [(.ref u_LESS), (.ref u_DIVIDE)])) X1 hx rfl rfl rfl (pc0 := 4) (pc' := 14) (same := false) rfl (hb hby d2_4) rfl (decide_eq_false fun q => (Ne.symm ne_u_LESS_u_DIVIDE) (Value.ref.inj q)) (by decide) (by decide)) ?_
  show Go p e below s _ _ _ T1 (mkF m 14 #[.val (.ref u_DIVIDE), .unset] [])
  refine Go.st (fun _ => XS.aloadN X1.here hx rfl (hb hby d2_14) rfl rfl) ?_
  show Go p e below s _ _ _ T1 (mkF m 15 #[.val (.ref u_DIVIDE), .unset] [(.ref u_DIVIDE)])
  obtain ⟨T2, X2, e2, st2⟩ := getS2 X1 hx hZ hown (host := "") (Or.inl (hw _ (List.mem_of_getElem? (i := 15) rfl))) Via.refl e1 S_LESS_OR_EQUAL (g := (mkF m 15 #[.val (.ref u_DIVIDE), .unset] [(.ref u_DIVIDE)])) rfl (hb hby d2_15)
  refine Go.st st2 ?_
  show Go p e below s _ _ _ T2 (mkF m 18 #[.val (.ref u_DIVIDE), .unset] [(.ref u_LESS_OR_EQUAL), (.ref u_DIVIDE)])
  refine Go.st (fun _ => Jvm.RoadKit.acmp (g := (mkF m 18 #[.val (.ref u_DIVIDE), .unset] [(.ref u_LESS_OR_EQUAL), (.ref u_DIVIDE)])) X2 hx rfl rfl rfl (pc0 := 18) (pc' := 28) (same := false) rfl (hb hby d2_18) rfl (decide_eq_false fun q => (Ne.symm ne_u_LESS_OR_EQUAL_u_DIVIDE) (Value.ref.inj q)) (by decide) (by decide)) ?_
  show Go p e below s _ _ _ T2 (mkF m 28 #[.val (.ref u_DIVIDE), .unset] [])
  refine Go.st (fun _ => XS.aloadN X2.here hx rfl (hb hby d2_28) rfl rfl) ?_
  show Go p e below s _ _ _ T2 (mkF m 29 #[.val (.ref u_DIVIDE), .unset] [(.ref u_DIVIDE)])
  obtain ⟨T3, X3, e3, st3⟩ := getS2 X2 hx hZ hown (host := "") (Or.inl (hw _ (List.mem_of_getElem? (i := 17) rfl))) Via.refl e2 S_GREATER (g := (mkF m 29 #[.val (.ref u_DIVIDE), .unset] [(.ref u_DIVIDE)])) rfl (hb hby d2_29)
  refine Go.st st3 ?_
  show Go p e below s _ _ _ T3 (mkF m 32 #[.val (.ref u_DIVIDE), .unset] [(.ref u_GREATER), (.ref u_DIVIDE)])
  refine Go.st (fun _ => Jvm.RoadKit.acmp (g := (mkF m 32 #[.val (.ref u_DIVIDE), .unset] [(.ref u_GREATER), (.ref u_DIVIDE)])) X3 hx rfl rfl rfl (pc0 := 32) (pc' := 42) (same := false) rfl (hb hby d2_32) rfl (decide_eq_false fun q => (Ne.symm ne_u_GREATER_u_DIVIDE) (Value.ref.inj q)) (by decide) (by decide)) ?_
  show Go p e below s _ _ _ T3 (mkF m 42 #[.val (.ref u_DIVIDE), .unset] [])
  refine Go.st (fun _ => XS.aloadN X3.here hx rfl (hb hby d2_42) rfl rfl) ?_
  show Go p e below s _ _ _ T3 (mkF m 43 #[.val (.ref u_DIVIDE), .unset] [(.ref u_DIVIDE)])
  obtain ⟨T4, X4, e4, st4⟩ := getS2 X3 hx hZ hown (host := "") (Or.inl (hw _ (List.mem_of_getElem? (i := 19) rfl))) Via.refl e3 S_GREATER_OR_EQUAL (g := (mkF m 43 #[.val (.ref u_DIVIDE), .unset] [(.ref u_DIVIDE)])) rfl (hb hby d2_43)
  refine Go.st st4 ?_
  show Go p e below s _ _ _ T4 (mkF m 46 #[.val (.ref u_DIVIDE), .unset] [(.ref u_GREATER_OR_EQUAL), (.ref u_DIVIDE)])
  refine Go.st (fun _ => Jvm.RoadKit.acmp (g := (mkF m 46 #[.val (.ref u_DIVIDE), .unset] [(.ref u_GREATER_OR_EQUAL), (.ref u_DIVIDE)])) X4 hx rfl rfl rfl (pc0 := 46) (pc' := 56) (same := false) rfl (hb hby d2_46) rfl (decide_eq_false fun q => (Ne.symm ne_u_GREATER_OR_EQUAL_u_DIVIDE) (Value.ref.inj q)) (by decide) (by decide)) ?_
  show Go p e below s _ _ _ T4 (mkF m 56 #[.val (.ref u_DIVIDE), .unset] [])
  refine Go.st (fun _ => XS.aloadN X4.here hx rfl (hb hby d2_56) rfl rfl) ?_
  show Go p e below s _ _ _ T4 (mkF m 57 #[.val (.ref u_DIVIDE), .unset] [(.ref u_DIVIDE)])
  refine Go.st (fun _ => XS.astoreN X4.here hx rfl (hb hby d2_57) rfl rfl (l' := #[.val (.ref u_DIVIDE), .val (.ref u_DIVIDE)]) rfl) ?_
  show Go p e below s _ _ _ T4 (mkF m 58 #[.val (.ref u_DIVIDE), .val (.ref u_DIVIDE)] [])
  refine Go.st (fun _ => XS.aloadN X4.here hx rfl (hb hby d2_58) rfl rfl) ?_
  show Go p e below s _ _ _ T4 (mkF m 59 #[.val (.ref u_DIVIDE), .val (.ref u_DIVIDE)] [(.ref u_DIVIDE)])
  exact Go.retA X4 hx hlk Bd.returns rfl rfl (hb hby d2_59) (by rw [e4]; exact ⟨rfl, N0, rfl⟩) (by decide) (by decide)
theorem ef_rmF12 (m : MethodId) (u_MODULO : Addr) : entryFrame m #[(.ref u_MODULO)] 2 = mkF m 0 #[.val (.ref u_MODULO), .unset] [] := by first | (simp [entryFrame, mkF, argsToLocals, Value.category]; done) | rfl
def QrmF12 (Z : State) (u_MODULO : Addr) (u_LESS : Addr) (u_LESS_OR_EQUAL : Addr) (u_GREATER : Addr) (u_GREATER_OR_EQUAL : Addr) (h0 : Heap) (n0 : Nat) (rV : Option Value) (hE : Heap) (LE : List Loc) : Prop := rV = some (.ref u_MODULO) ∧ Fr n0 LE ∧ hE = h0
set_option maxRecDepth 65536 in
set_option maxHeartbeats 40000000 in
theorem rmF12 (l : Launch) (Z : State) (a0 : Array Value) (hw : ∀ d ∈ tables_1, d.before a0 Z = true) (ws : List Jvm.Cond) (u_MODULO : Addr) (u_LESS : Addr) (u_LESS_OR_EQUAL : Addr) (u_GREATER : Addr) (u_GREATER_OR_EQUAL : Addr) (h0 : Heap) (n0 : Nat) (Z0 : n0 ≤ h0.size) (S_LESS : Sta Z h0 "com/example/moat/moat/xpath/Operation$Operator" "LESS" "Lcom/example/moat/moat/xpath/Operation$Operator;" (.ref u_LESS)) (S_LESS_OR_EQUAL : Sta Z h0 "com/example/moat/moat/xpath/Operation$Operator" "LESS_OR_EQUAL" "Lcom/example/moat/moat/xpath/Operation$Operator;" (.ref u_LESS_OR_EQUAL)) (S_GREATER : Sta Z h0 "com/example/moat/moat/xpath/Operation$Operator" "GREATER" "Lcom/example/moat/moat/xpath/Operation$Operator;" (.ref u_GREATER)) (S_GREATER_OR_EQUAL : Sta Z h0 "com/example/moat/moat/xpath/Operation$Operator" "GREATER_OR_EQUAL" "Lcom/example/moat/moat/xpath/Operation$Operator;" (.ref u_GREATER_OR_EQUAL)) (ne_u_LESS_u_MODULO : u_LESS ≠ u_MODULO) (ne_u_LESS_OR_EQUAL_u_MODULO : u_LESS_OR_EQUAL ≠ u_MODULO) (ne_u_GREATER_u_MODULO : u_GREATER ≠ u_MODULO) (ne_u_GREATER_OR_EQUAL_u_MODULO : u_GREATER_OR_EQUAL ≠ u_MODULO) :
    MetFree l (⟨"com/example/moat/moat/xpath/Operation$Operator", "flipped", "()Lcom/example/moat/moat/xpath/Operation$Operator;"⟩ : MethodName) (head1 (Jvm.Cond.code (⟨"com/example/moat/moat/xpath/Operation$Operator", "flipped", "()Lcom/example/moat/moat/xpath/Operation$Operator;"⟩ : MethodName) prog_61_method_7_code 2 (some (.object "com/example/moat/moat/xpath/Operation$Operator")) :: ws) ({ frames := 0, cells := 0, slots := 0, locals := 0 } : Room)) (fun aA UA => aA = #[(.ref u_MODULO)] ∧ Z.Warmed39 UA.vm ∧ UA.heap = h0) (fun _ _ _ _ _ => True) (fun _ UA oA UB => ∃ rV LE, oA = .returned rV ∧ QrmF12 Z u_MODULO u_LESS u_LESS_OR_EQUAL u_GREATER u_GREATER_OR_EQUAL h0 n0 rV UB.heap LE ∧ FrameEnd UA oA UB LE ({ frames := 0, cells := 0, slots := 0, locals := 0 } : Room).cells ({ frames := 0, cells := 0, slots := 0, locals := 0 } : Room).slots) := by
  refine MetFree.of_bodySF (plainFor_of_name pn_1) hisR ?_
  intro p e s m args below meth c s₁ Bd hml0 hP hK
  obtain ⟨rfl, hZ, hh⟩ := hP
  have hx := Bd.exec
  have hby := Bd.bytes
  have hml : c.maxLocals = 2 := hml0
  have hown : s.vm.findClass "com/example/moat/moat/xpath/Operation$Operator" = some m.cls := findClass_of_methodNamed Bd.named
  have hnm := (name_of_methodNamed Bd.named Bd.method).1
  have hlk := Bd.notSynchronized
  have X0 : Stand p l e ({ frames := 0, cells := 0, slots := 0, locals := 0 } : Room) s m #[(.ref u_MODULO)] below meth c s₁ [] 0 0 := Stand.of_body Bd
  have e0 : s₁.heap = h0 := by rw [← hh, Bd.state]; rfl
  have N0 := Fr.nil n0
  show Go p e below s (QrmF12 Z u_MODULO u_LESS u_LESS_OR_EQUAL u_GREATER u_GREATER_OR_EQUAL h0 n0) ({ frames := 0, cells := 0, slots := 0, locals := 0 } : Room).cells ({ frames := 0, cells := 0, slots := 0, locals := 0 } : Room).slots s₁ (entryFrame m #[(.ref u_MODULO)] 2)
  refine Go.eq (ef_rmF12 m u_MODULO) ?_
  show Go p e below s _ _ _ s₁ (mkF m 0 #[.val (.ref u_MODULO), .unset] [])
  refine Go.st (fun _ => XS.aloadN X0.here hx rfl (hb hby d2_0) rfl rfl) ?_
  show Go p e below s _ _ _ s₁ (mkF m 1 #[.val (.ref u_MODULO), .unset] [(.ref u_MODULO)])
  obtain ⟨T1, X1, e1, st1⟩ := getS2 X0 hx hZ hown (host := "") (Or.inl (hw _ (List.mem_of_getElem? (i := 13) rfl))) Via.refl e0 S_LESS (g := (mkF m 1 #[.val (.ref u_MODULO), .unset] [(.ref u_MODULO)])) rfl (hb hby d2_1)
  refine Go.st st1 ?_
  show Go p e below s _ _ _ T1 (mkF m 4 #[.val (.ref u_MODULO), .unset] [(.ref u_LESS), (.ref u_MODULO)])
  refine Go.st (fun _ => Jvm.RoadKit.acmp (g := (mkF m 4 #[.val (.ref u_MODULO), .unset] [(.ref u_LESS), (.ref u_MODULO)])) X1 hx rfl rfl rfl (pc0 := 4) (pc' := 14) (same := false) rfl (hb hby d2_4) rfl (decide_eq_false fun q => (Ne.symm ne_u_LESS_u_MODULO) (Value.ref.inj q)) (by decide) (by decide)) ?_
  show Go p e below s _ _ _ T1 (mkF m 14 #[.val (.ref u_MODULO), .unset] [])
  refine Go.st (fun _ => XS.aloadN X1.here hx rfl (hb hby d2_14) rfl rfl) ?_
  show Go p e below s _ _ _ T1 (mkF m 15 #[.val (.ref u_MODULO), .unset] [(.ref u_MODULO)])
  obtain ⟨T2, X2, e2, st2⟩ := getS2 X1 hx hZ hown (host := "") (Or.inl (hw _ (List.mem_of_getElem? (i := 15) rfl))) Via.refl e1 S_LESS_OR_EQUAL (g := (mkF m 15 #[.val (.ref u_MODULO), .unset] [(.ref u_MODULO)])) rfl (hb hby d2_15)
  refine Go.st st2 ?_
  show Go p e below s _ _ _ T2 (mkF m 18 #[.val (.ref u_MODULO), .unset] [(.ref u_LESS_OR_EQUAL), (.ref u_MODULO)])
  refine Go.st (fun _ => Jvm.RoadKit.acmp (g := (mkF m 18 #[.val (.ref u_MODULO), .unset] [(.ref u_LESS_OR_EQUAL), (.ref u_MODULO)])) X2 hx rfl rfl rfl (pc0 := 18) (pc' := 28) (same := false) rfl (hb hby d2_18) rfl (decide_eq_false fun q => (Ne.symm ne_u_LESS_OR_EQUAL_u_MODULO) (Value.ref.inj q)) (by decide) (by decide)) ?_
  show Go p e below s _ _ _ T2 (mkF m 28 #[.val (.ref u_MODULO), .unset] [])
  refine Go.st (fun _ => XS.aloadN X2.here hx rfl (hb hby d2_28) rfl rfl) ?_
  show Go p e below s _ _ _ T2 (mkF m 29 #[.val (.ref u_MODULO), .unset] [(.ref u_MODULO)])
  obtain ⟨T3, X3, e3, st3⟩ := getS2 X2 hx hZ hown (host := "") (Or.inl (hw _ (List.mem_of_getElem? (i := 17) rfl))) Via.refl e2 S_GREATER (g := (mkF m 29 #[.val (.ref u_MODULO), .unset] [(.ref u_MODULO)])) rfl (hb hby d2_29)
  refine Go.st st3 ?_
  show Go p e below s _ _ _ T3 (mkF m 32 #[.val (.ref u_MODULO), .unset] [(.ref u_GREATER), (.ref u_MODULO)])
  refine Go.st (fun _ => Jvm.RoadKit.acmp (g := (mkF m 32 #[.val (.ref u_MODULO), .unset] [(.ref u_GREATER), (.ref u_MODULO)])) X3 hx rfl rfl rfl (pc0 := 32) (pc' := 42) (same := false) rfl (hb hby d2_32) rfl (decide_eq_false fun q => (Ne.symm ne_u_GREATER_u_MODULO) (Value.ref.inj q)) (by decide) (by decide)) ?_
  show Go p e below s _ _ _ T3 (mkF m 42 #[.val (.ref u_MODULO), .unset] [])
  refine Go.st (fun _ => XS.aloadN X3.here hx rfl (hb hby d2_42) rfl rfl) ?_
  show Go p e below s _ _ _ T3 (mkF m 43 #[.val (.ref u_MODULO), .unset] [(.ref u_MODULO)])
  obtain ⟨T4, X4, e4, st4⟩ := getS2 X3 hx hZ hown (host := "") (Or.inl (hw _ (List.mem_of_getElem? (i := 19) rfl))) Via.refl e3 S_GREATER_OR_EQUAL (g := (mkF m 43 #[.val (.ref u_MODULO), .unset] [(.ref u_MODULO)])) rfl (hb hby d2_43)
  refine Go.st st4 ?_
  show Go p e below s _ _ _ T4 (mkF m 46 #[.val (.ref u_MODULO), .unset] [(.ref u_GREATER_OR_EQUAL), (.ref u_MODULO)])
  refine Go.st (fun _ => Jvm.RoadKit.acmp (g := (mkF m 46 #[.val (.ref u_MODULO), .unset] [(.ref u_GREATER_OR_EQUAL), (.ref u_MODULO)])) X4 hx rfl rfl rfl (pc0 := 46) (pc' := 56) (same := false) rfl (hb hby d2_46) rfl (decide_eq_false fun q => (Ne.symm ne_u_GREATER_OR_EQUAL_u_MODULO) (Value.ref.inj q)) (by decide) (by decide)) ?_
  show Go p e below s _ _ _ T4 (mkF m 56 #[.val (.ref u_MODULO), .unset] [])
  refine Go.st (fun _ => XS.aloadN X4.here hx rfl (hb hby d2_56) rfl rfl) ?_
  show Go p e below s _ _ _ T4 (mkF m 57 #[.val (.ref u_MODULO), .unset] [(.ref u_MODULO)])
  refine Go.st (fun _ => XS.astoreN X4.here hx rfl (hb hby d2_57) rfl rfl (l' := #[.val (.ref u_MODULO), .val (.ref u_MODULO)]) rfl) ?_
  show Go p e below s _ _ _ T4 (mkF m 58 #[.val (.ref u_MODULO), .val (.ref u_MODULO)] [])
  refine Go.st (fun _ => XS.aloadN X4.here hx rfl (hb hby d2_58) rfl rfl) ?_
  show Go p e below s _ _ _ T4 (mkF m 59 #[.val (.ref u_MODULO), .val (.ref u_MODULO)] [(.ref u_MODULO)])
  exact Go.retA X4 hx hlk Bd.returns rfl rfl (hb hby d2_59) (by rw [e4]; exact ⟨rfl, N0, rfl⟩) (by decide) (by decide)
theorem ef_rmF13 (m : MethodId) (u_NEGATE : Addr) : entryFrame m #[(.ref u_NEGATE)] 2 = mkF m 0 #[.val (.ref u_NEGATE), .unset] [] := by first | (simp [entryFrame, mkF, argsToLocals, Value.category]; done) | rfl
def QrmF13 (Z : State) (u_NEGATE : Addr) (u_LESS : Addr) (u_LESS_OR_EQUAL : Addr) (u_GREATER : Addr) (u_GREATER_OR_EQUAL : Addr) (h0 : Heap) (n0 : Nat) (rV : Option Value) (hE : Heap) (LE : List Loc) : Prop := rV = some (.ref u_NEGATE) ∧ Fr n0 LE ∧ hE = h0
set_option maxRecDepth 65536 in
set_option maxHeartbeats 40000000 in
theorem rmF13 (l : Launch) (Z : State) (a0 : Array Value) (hw : ∀ d ∈ tables_1, d.before a0 Z = true) (ws : List Jvm.Cond) (u_NEGATE : Addr) (u_LESS : Addr) (u_LESS_OR_EQUAL : Addr) (u_GREATER : Addr) (u_GREATER_OR_EQUAL : Addr) (h0 : Heap) (n0 : Nat) (Z0 : n0 ≤ h0.size) (S_LESS : Sta Z h0 "com/example/moat/moat/xpath/Operation$Operator" "LESS" "Lcom/example/moat/moat/xpath/Operation$Operator;" (.ref u_LESS)) (S_LESS_OR_EQUAL : Sta Z h0 "com/example/moat/moat/xpath/Operation$Operator" "LESS_OR_EQUAL" "Lcom/example/moat/moat/xpath/Operation$Operator;" (.ref u_LESS_OR_EQUAL)) (S_GREATER : Sta Z h0 "com/example/moat/moat/xpath/Operation$Operator" "GREATER" "Lcom/example/moat/moat/xpath/Operation$Operator;" (.ref u_GREATER)) (S_GREATER_OR_EQUAL : Sta Z h0 "com/example/moat/moat/xpath/Operation$Operator" "GREATER_OR_EQUAL" "Lcom/example/moat/moat/xpath/Operation$Operator;" (.ref u_GREATER_OR_EQUAL)) (ne_u_LESS_u_NEGATE : u_LESS ≠ u_NEGATE) (ne_u_LESS_OR_EQUAL_u_NEGATE : u_LESS_OR_EQUAL ≠ u_NEGATE) (ne_u_GREATER_u_NEGATE : u_GREATER ≠ u_NEGATE) (ne_u_GREATER_OR_EQUAL_u_NEGATE : u_GREATER_OR_EQUAL ≠ u_NEGATE) :
    MetFree l (⟨"com/example/moat/moat/xpath/Operation$Operator", "flipped", "()Lcom/example/moat/moat/xpath/Operation$Operator;"⟩ : MethodName) (head1 (Jvm.Cond.code (⟨"com/example/moat/moat/xpath/Operation$Operator", "flipped", "()Lcom/example/moat/moat/xpath/Operation$Operator;"⟩ : MethodName) prog_61_method_7_code 2 (some (.object "com/example/moat/moat/xpath/Operation$Operator")) :: ws) ({ frames := 0, cells := 0, slots := 0, locals := 0 } : Room)) (fun aA UA => aA = #[(.ref u_NEGATE)] ∧ Z.Warmed39 UA.vm ∧ UA.heap = h0) (fun _ _ _ _ _ => True) (fun _ UA oA UB => ∃ rV LE, oA = .returned rV ∧ QrmF13 Z u_NEGATE u_LESS u_LESS_OR_EQUAL u_GREATER u_GREATER_OR_EQUAL h0 n0 rV UB.heap LE ∧ FrameEnd UA oA UB LE ({ frames := 0, cells := 0, slots := 0, locals := 0 } : Room).cells ({ frames := 0, cells := 0, slots := 0, locals := 0 } : Room).slots) := by
  refine MetFree.of_bodySF (plainFor_of_name pn_1) hisR ?_
  intro p e s m args below meth c s₁ Bd hml0 hP hK
  obtain ⟨rfl, hZ, hh⟩ := hP
  have hx := Bd.exec
  have hby := Bd.bytes
  have hml : c.maxLocals = 2 := hml0
  have hown : s.vm.findClass "com/example/moat/moat/xpath/Operation$Operator" = some m.cls := findClass_of_methodNamed Bd.named
  have hnm := (name_of_methodNamed Bd.named Bd.method).1
  have hlk := Bd.notSynchronized
  have X0 : Stand p l e ({ frames := 0, cells := 0, slots := 0, locals := 0 } : Room) s m #[(.ref u_NEGATE)] below meth c s₁ [] 0 0 := Stand.of_body Bd
  have e0 : s₁.heap = h0 := by rw [← hh, Bd.state]; rfl
  have N0 := Fr.nil n0
  show Go p e below s (QrmF13 Z u_NEGATE u_LESS u_LESS_OR_EQUAL u_GREATER u_GREATER_OR_EQUAL h0 n0) ({ frames := 0, cells := 0, slots := 0, locals := 0 } : Room).cells ({ frames := 0, cells := 0, slots := 0, locals := 0 } : Room).slots s₁ (entryFrame m #[(.ref u_NEGATE)] 2)
  refine Go.eq (ef_rmF13 m u_NEGATE) ?_
  show Go p e below s _ _ _ s₁ (mkF m 0 #[.val (.ref u_NEGATE), .unset] [])
  refine Go.st (fun _ => XS.aloadN X0.here hx rfl (hb hby d2_0) rfl rfl) ?_
  show Go p e below s _ _ _ s₁ (mkF m 1 #[.val (.ref u_NEGATE), .unset] [(.ref u_NEGATE)])
  obtain ⟨T1, X1, e1, st1⟩ := getS2 X0 hx hZ hown (host := "") (Or.inl (hw _ (List.mem_of_getElem? (i := 13) rfl))) Via.refl e0 S_LESS (g := (mkF m 1 #[.val (.ref u_NEGATE), .unset] [(.ref u_NEGATE)])) rfl (hb hby d2_1)
  refine Go.st st1 ?_
  show Go p e below s _ _ _ T1 (mkF m 4 #[.val (.ref u_NEGATE), .unset] [(.ref u_LESS), (.ref u_NEGATE)])
  refine Go.st (fun _ => Jvm.RoadKit.acmp (g := (mkF m 4 #[.val (.ref u_NEGATE), .unset] [(.ref u_LESS), (.ref u_NEGATE)])) X1 hx rfl rfl rfl (pc0 := 4) (pc' := 14) (same := false) rfl (hb hby d2_4) rfl (decide_eq_false fun q => (Ne.symm ne_u_LESS_u_NEGATE) (Value.ref.inj q)) (by decide) (by decide)) ?_
  show Go p e below s _ _ _ T1 (mkF m 14 #[.val (.ref u_NEGATE), .unset] [])
  refine Go.st (fun _ => XS.aloadN X1.here hx rfl (hb hby d2_14) rfl rfl) ?_
  show Go p e below s _ _ _ T1 (mkF m 15 #[.val (.ref u_NEGATE), .unset] [(.ref u_NEGATE)])
  obtain ⟨T2, X2, e2, st2⟩ := getS2 X1 hx hZ hown (host := "") (Or.inl (hw _ (List.mem_of_getElem? (i := 15) rfl))) Via.refl e1 S_LESS_OR_EQUAL (g := (mkF m 15 #[.val (.ref u_NEGATE), .unset] [(.ref u_NEGATE)])) rfl (hb hby d2_15)
  refine Go.st st2 ?_
  show Go p e below s _ _ _ T2 (mkF m 18 #[.val (.ref u_NEGATE), .unset] [(.ref u_LESS_OR_EQUAL), (.ref u_NEGATE)])
  refine Go.st (fun _ => Jvm.RoadKit.acmp (g := (mkF m 18 #[.val (.ref u_NEGATE), .unset] [(.ref u_LESS_OR_EQUAL), (.ref u_NEGATE)])) X2 hx rfl rfl rfl (pc0 := 18) (pc' := 28) (same := false) rfl (hb hby d2_18) rfl (decide_eq_false fun q => (Ne.symm ne_u_LESS_OR_EQUAL_u_NEGATE) (Value.ref.inj q)) (by decide) (by decide)) ?_
  show Go p e below s _ _ _ T2 (mkF m 28 #[.val (.ref u_NEGATE), .unset] [])
  refine Go.st (fun _ => XS.aloadN X2.here hx rfl (hb hby d2_28) rfl rfl) ?_
  show Go p e below s _ _ _ T2 (mkF m 29 #[.val (.ref u_NEGATE), .unset] [(.ref u_NEGATE)])
  obtain ⟨T3, X3, e3, st3⟩ := getS2 X2 hx hZ hown (host := "") (Or.inl (hw _ (List.mem_of_getElem? (i := 17) rfl))) Via.refl e2 S_GREATER (g := (mkF m 29 #[.val (.ref u_NEGATE), .unset] [(.ref u_NEGATE)])) rfl (hb hby d2_29)
  refine Go.st st3 ?_
  show Go p e below s _ _ _ T3 (mkF m 32 #[.val (.ref u_NEGATE), .unset] [(.ref u_GREATER), (.ref u_NEGATE)])
  refine Go.st (fun _ => Jvm.RoadKit.acmp (g := (mkF m 32 #[.val (.ref u_NEGATE), .unset] [(.ref u_GREATER), (.ref u_NEGATE)])) X3 hx rfl rfl rfl (pc0 := 32) (pc' := 42) (same := false) rfl (hb hby d2_32) rfl (decide_eq_false fun q => (Ne.symm ne_u_GREATER_u_NEGATE) (Value.ref.inj q)) (by decide) (by decide)) ?_
  show Go p e below s _ _ _ T3 (mkF m 42 #[.val (.ref u_NEGATE), .unset] [])
  refine Go.st (fun _ => XS.aloadN X3.here hx rfl (hb hby d2_42) rfl rfl) ?_
  show Go p e below s _ _ _ T3 (mkF m 43 #[.val (.ref u_NEGATE), .unset] [(.ref u_NEGATE)])
  obtain ⟨T4, X4, e4, st4⟩ := getS2 X3 hx hZ hown (host := "") (Or.inl (hw _ (List.mem_of_getElem? (i := 19) rfl))) Via.refl e3 S_GREATER_OR_EQUAL (g := (mkF m 43 #[.val (.ref u_NEGATE), .unset] [(.ref u_NEGATE)])) rfl (hb hby d2_43)
  refine Go.st st4 ?_
  show Go p e below s _ _ _ T4 (mkF m 46 #[.val (.ref u_NEGATE), .unset] [(.ref u_GREATER_OR_EQUAL), (.ref u_NEGATE)])
  refine Go.st (fun _ => Jvm.RoadKit.acmp (g := (mkF m 46 #[.val (.ref u_NEGATE), .unset] [(.ref u_GREATER_OR_EQUAL), (.ref u_NEGATE)])) X4 hx rfl rfl rfl (pc0 := 46) (pc' := 56) (same := false) rfl (hb hby d2_46) rfl (decide_eq_false fun q => (Ne.symm ne_u_GREATER_OR_EQUAL_u_NEGATE) (Value.ref.inj q)) (by decide) (by decide)) ?_
  show Go p e below s _ _ _ T4 (mkF m 56 #[.val (.ref u_NEGATE), .unset] [])
  refine Go.st (fun _ => XS.aloadN X4.here hx rfl (hb hby d2_56) rfl rfl) ?_
  show Go p e below s _ _ _ T4 (mkF m 57 #[.val (.ref u_NEGATE), .unset] [(.ref u_NEGATE)])
  refine Go.st (fun _ => XS.astoreN X4.here hx rfl (hb hby d2_57) rfl rfl (l' := #[.val (.ref u_NEGATE), .val (.ref u_NEGATE)]) rfl) ?_
  show Go p e below s _ _ _ T4 (mkF m 58 #[.val (.ref u_NEGATE), .val (.ref u_NEGATE)] [])
  refine Go.st (fun _ => XS.aloadN X4.here hx rfl (hb hby d2_58) rfl rfl) ?_
  show Go p e below s _ _ _ T4 (mkF m 59 #[.val (.ref u_NEGATE), .val (.ref u_NEGATE)] [(.ref u_NEGATE)])
  exact Go.retA X4 hx hlk Bd.returns rfl rfl (hb hby d2_59) (by rw [e4]; exact ⟨rfl, N0, rfl⟩) (by decide) (by decide)
theorem d4_0 : decode method_5_code 0 = .ok (.iload_n 0, 1) := by decide +kernel
theorem d4_1 : decode method_5_code 1 = .ok (.iconst 2, 1) := by decide +kernel
theorem d4_2 : decode method_5_code 2 = .ok (.if_icmp .ne 15, 3) := by decide +kernel
theorem d4_5 : decode method_5_code 5 = .ok (.lload_n 1, 1) := by decide +kernel
theorem d4_6 : decode method_5_code 6 = .ok (.lload_n 3, 1) := by decide +kernel
theorem d4_7 : decode method_5_code 7 = .ok (.lcmp, 1) := by decide +kernel
theorem d4_8 : decode method_5_code 8 = .ok (.ifCond .ne 7, 3) := by decide +kernel
theorem d4_11 : decode method_5_code 11 = .ok (.iconst 1, 1) := by decide +kernel
theorem d4_12 : decode method_5_code 12 = .ok (.goto 4, 3) := by decide +kernel
theorem d4_16 : decode method_5_code 16 = .ok (.ireturn, 1) := by decide +kernel
theorem d4_15 : decode method_5_code 15 = .ok (.iconst 0, 1) := by decide +kernel
theorem ef_rmH2 (m : MethodId) (a : Int64) (b : Int64) : entryFrame m #[(.int (2 : Int32)), (.long a), (.long b)] 5 = mkF m 0 #[.val (.int (2 : Int32)), .val (.long a), .second, .val (.long b), .second] [] := by first | (simp [entryFrame, mkF, argsToLocals, Value.category]; done) | rfl
def QrmH2 (Z : State) (a : Int64) (b : Int64) (h0 : Heap) (n0 : Nat) (rV : Option Value) (hE : Heap) (LE : List Loc) : Prop := rV = some (.int (b2i (a = b))) ∧ Fr n0 LE ∧ hE = h0
set_option maxRecDepth 65536 in
set_option maxHeartbeats 40000000 in
theorem rmH2 (l : Launch) (Z : State) (a0 : Array Value) (hw : ∀ d ∈ tables_1, d.before a0 Z = true) (ws : List Jvm.Cond) (a : Int64) (b : Int64) (h0 : Heap) (n0 : Nat) (Z0 : n0 ≤ h0.size) :
    MetFree l (⟨"com/example/moat/moat/xpath/OperatorFlippedPinLaw", "holds", "(IJJ)Z"⟩ : MethodName) (head1 (Jvm.Cond.code (⟨"com/example/moat/moat/xpath/OperatorFlippedPinLaw", "holds", "(IJJ)Z"⟩ : MethodName) method_5_code 5 (some .boolean) :: ws) ({ frames := 0, cells := 0, slots := 0, locals := 0 } : Room)) (fun aA UA => aA = #[(.int (2 : Int32)), (.long a), (.long b)] ∧ Z.Warmed39 UA.vm ∧ UA.heap = h0) (fun _ _ _ _ _ => True) (fun _ UA oA UB => ∃ rV LE, oA = .returned rV ∧ QrmH2 Z a b h0 n0 rV UB.heap LE ∧ FrameEnd UA oA UB LE ({ frames := 0, cells := 0, slots := 0, locals := 0 } : Room).cells ({ frames := 0, cells := 0, slots := 0, locals := 0 } : Room).slots) := by
  refine MetFree.of_bodySF (plainFor_of_name pn_0) hisR ?_
  intro p e s m args below meth c s₁ Bd hml0 hP hK
  obtain ⟨rfl, hZ, hh⟩ := hP
  have hx := Bd.exec
  have hby := Bd.bytes
  have hml : c.maxLocals = 5 := hml0
  have hown : s.vm.findClass "com/example/moat/moat/xpath/OperatorFlippedPinLaw" = some m.cls := findClass_of_methodNamed Bd.named
  have hnm := (name_of_methodNamed Bd.named Bd.method).1
  have hlk := Bd.notSynchronized
  have X0 : Stand p l e ({ frames := 0, cells := 0, slots := 0, locals := 0 } : Room) s m #[(.int (2 : Int32)), (.long a), (.long b)] below meth c s₁ [] 0 0 := Stand.of_body Bd
  have e0 : s₁.heap = h0 := by rw [← hh, Bd.state]; rfl
  have N0 := Fr.nil n0
  show Go p e below s (QrmH2 Z a b h0 n0) ({ frames := 0, cells := 0, slots := 0, locals := 0 } : Room).cells ({ frames := 0, cells := 0, slots := 0, locals := 0 } : Room).slots s₁ (entryFrame m #[(.int (2 : Int32)), (.long a), (.long b)] 5)
  refine Go.eq (ef_rmH2 m a b) ?_
  show Go p e below s _ _ _ s₁ (mkF m 0 #[.val (.int (2 : Int32)), .val (.long a), .second, .val (.long b), .second] [])
  refine Go.st (fun _ => XS.iloadN X0.here hx rfl (hb hby d4_0) rfl) ?_
  show Go p e below s _ _ _ s₁ (mkF m 1 #[.val (.int (2 : Int32)), .val (.long a), .second, .val (.long b), .second] [(.int (2 : Int32))])
  refine Go.st (fun _ => XS.iconst X0.here hx rfl (hb hby d4_1)) ?_
  show Go p e below s _ _ _ s₁ (mkF m 2 #[.val (.int (2 : Int32)), .val (.long a), .second, .val (.long b), .second] [(.int (2 : Int32)), (.int (2 : Int32))])
  refine Go.st (fun _ => XS.icmpNo X0.here hx rfl (hb hby d4_2) rfl (teq (by decide : (2 : Int32) = (2 : Int32))).2) ?_
  show Go p e below s _ _ _ s₁ (mkF m 5 #[.val (.int (2 : Int32)), .val (.long a), .second, .val (.long b), .second] [])
  refine Go.st (fun _ => XS.lloadN X0.here hx rfl (hb hby d4_5) rfl) ?_
  show Go p e below s _ _ _ s₁ (mkF m 6 #[.val (.int (2 : Int32)), .val (.long a), .second, .val (.long b), .second] [(.long a)])
  refine Go.st (fun _ => XS.lloadN X0.here hx rfl (hb hby d4_6) rfl) ?_
  show Go p e below s _ _ _ s₁ (mkF m 7 #[.val (.int (2 : Int32)), .val (.long a), .second, .val (.long b), .second] [(.long b), (.long a)])
  refine Go.st (fun _ => XS.lcmp X0.here hx rfl (hb hby d4_7) rfl) ?_
  show Go p e below s _ _ _ s₁ (mkF m 8 #[.val (.int (2 : Int32)), .val (.long a), .second, .val (.long b), .second] [(.int (lcmpW a b))])
  by_cases hc1 : a = b
  · refine Go.st (fun _ => XS.ifNo X0.here hx rfl (hb hby d4_8) rfl ((if0 _ _).trans (teq ((lw_eq a b).mpr hc1)).2)) ?_
    show Go p e below s _ _ _ s₁ (mkF m 11 #[.val (.int (2 : Int32)), .val (.long a), .second, .val (.long b), .second] [])
    refine Go.st (fun _ => XS.iconst X0.here hx rfl (hb hby d4_11)) ?_
    show Go p e below s _ _ _ s₁ (mkF m 12 #[.val (.int (2 : Int32)), .val (.long a), .second, .val (.long b), .second] [(.int (1 : Int32))])
    refine Go.st (fun _ => XS.goto X0.here hx rfl (pc0 := 12) (pc' := 16) rfl (hb hby d4_12) (by decide) (by decide)) ?_
    show Go p e below s _ _ _ s₁ (mkF m 16 #[.val (.int (2 : Int32)), .val (.long a), .second, .val (.long b), .second] [(.int (1 : Int32))])
    exact Go.retZ X0 hx hlk Bd.returns (hb hby d4_16) rfl (by rw [e0]; exact ⟨(own_b2i_t hc1), N0, rfl⟩) (by decide) (by decide)
  · refine Go.st (fun _ => XS.ifYes X0.here hx rfl (pc0 := 8) (pc' := 15) rfl (hb hby d4_8) rfl ((if0 _ _).trans (feq (fun qq => hc1 ((lw_eq a b).mp qq))).2) (by decide) (by decide)) ?_
    show Go p e below s _ _ _ s₁ (mkF m 15 #[.val (.int (2 : Int32)), .val (.long a), .second, .val (.long b), .second] [])
    refine Go.st (fun _ => XS.iconst X0.here hx rfl (hb hby d4_15)) ?_
    show Go p e below s _ _ _ s₁ (mkF m 16 #[.val (.int (2 : Int32)), .val (.long a), .second, .val (.long b), .second] [(.int (0 : Int32))])
    exact Go.retZ X0 hx hlk Bd.returns (hb hby d4_16) rfl (by rw [e0]; exact ⟨(own_b2i_f hc1), N0, rfl⟩) (by decide) (by decide)
theorem d4_17 : decode method_5_code 17 = .ok (.iload_n 0, 1) := by decide +kernel
theorem d4_18 : decode method_5_code 18 = .ok (.iconst 3, 1) := by decide +kernel
theorem d4_19 : decode method_5_code 19 = .ok (.if_icmp .ne 15, 3) := by decide +kernel
theorem d4_22 : decode method_5_code 22 = .ok (.lload_n 1, 1) := by decide +kernel
theorem d4_23 : decode method_5_code 23 = .ok (.lload_n 3, 1) := by decide +kernel
theorem d4_24 : decode method_5_code 24 = .ok (.lcmp, 1) := by decide +kernel
theorem d4_25 : decode method_5_code 25 = .ok (.ifCond .eq 7, 3) := by decide +kernel
theorem d4_32 : decode method_5_code 32 = .ok (.iconst 0, 1) := by decide +kernel
theorem d4_33 : decode method_5_code 33 = .ok (.ireturn, 1) := by decide +kernel
theorem d4_28 : decode method_5_code 28 = .ok (.iconst 1, 1) := by decide +kernel
theorem d4_29 : decode method_5_code 29 = .ok (.goto 4, 3) := by decide +kernel
theorem ef_rmH3 (m : MethodId) (a : Int64) (b : Int64) : entryFrame m #[(.int (3 : Int32)), (.long a), (.long b)] 5 = mkF m 0 #[.val (.int (3 : Int32)), .val (.long a), .second, .val (.long b), .second] [] := by first | (simp [entryFrame, mkF, argsToLocals, Value.category]; done) | rfl
def QrmH3 (Z : State) (a : Int64) (b : Int64) (h0 : Heap) (n0 : Nat) (rV : Option Value) (hE : Heap) (LE : List Loc) : Prop := rV = some (.int (b2i (¬ (a = b)))) ∧ Fr n0 LE ∧ hE = h0
set_option maxRecDepth 65536 in
set_option maxHeartbeats 40000000 in
theorem rmH3 (l : Launch) (Z : State) (a0 : Array Value) (hw : ∀ d ∈ tables_1, d.before a0 Z = true) (ws : List Jvm.Cond) (a : Int64) (b : Int64) (h0 : Heap) (n0 : Nat) (Z0 : n0 ≤ h0.size) :
    MetFree l (⟨"com/example/moat/moat/xpath/OperatorFlippedPinLaw", "holds", "(IJJ)Z"⟩ : MethodName) (head1 (Jvm.Cond.code (⟨"com/example/moat/moat/xpath/OperatorFlippedPinLaw", "holds", "(IJJ)Z"⟩ : MethodName) method_5_code 5 (some .boolean) :: ws) ({ frames := 0, cells := 0, slots := 0, locals := 0 } : Room)) (fun aA UA => aA = #[(.int (3 : Int32)), (.long a), (.long b)] ∧ Z.Warmed39 UA.vm ∧ UA.heap = h0) (fun _ _ _ _ _ => True) (fun _ UA oA UB => ∃ rV LE, oA = .returned rV ∧ QrmH3 Z a b h0 n0 rV UB.heap LE ∧ FrameEnd UA oA UB LE ({ frames := 0, cells := 0, slots := 0, locals := 0 } : Room).cells ({ frames := 0, cells := 0, slots := 0, locals := 0 } : Room).slots) := by
  refine MetFree.of_bodySF (plainFor_of_name pn_0) hisR ?_
  intro p e s m args below meth c s₁ Bd hml0 hP hK
  obtain ⟨rfl, hZ, hh⟩ := hP
  have hx := Bd.exec
  have hby := Bd.bytes
  have hml : c.maxLocals = 5 := hml0
  have hown : s.vm.findClass "com/example/moat/moat/xpath/OperatorFlippedPinLaw" = some m.cls := findClass_of_methodNamed Bd.named
  have hnm := (name_of_methodNamed Bd.named Bd.method).1
  have hlk := Bd.notSynchronized
  have X0 : Stand p l e ({ frames := 0, cells := 0, slots := 0, locals := 0 } : Room) s m #[(.int (3 : Int32)), (.long a), (.long b)] below meth c s₁ [] 0 0 := Stand.of_body Bd
  have e0 : s₁.heap = h0 := by rw [← hh, Bd.state]; rfl
  have N0 := Fr.nil n0
  show Go p e below s (QrmH3 Z a b h0 n0) ({ frames := 0, cells := 0, slots := 0, locals := 0 } : Room).cells ({ frames := 0, cells := 0, slots := 0, locals := 0 } : Room).slots s₁ (entryFrame m #[(.int (3 : Int32)), (.long a), (.long b)] 5)
  refine Go.eq (ef_rmH3 m a b) ?_
  show Go p e below s _ _ _ s₁ (mkF m 0 #[.val (.int (3 : Int32)), .val (.long a), .second, .val (.long b), .second] [])
  refine Go.st (fun _ => XS.iloadN X0.here hx rfl (hb hby d4_0) rfl) ?_
  show Go p e below s _ _ _ s₁ (mkF m 1 #[.val (.int (3 : Int32)), .val (.long a), .second, .val (.long b), .second] [(.int (3 : Int32))])
  refine Go.st (fun _ => XS.iconst X0.here hx rfl (hb hby d4_1)) ?_
  show Go p e below s _ _ _ s₁ (mkF m 2 #[.val (.int (3 : Int32)), .val (.long a), .second, .val (.long b), .second] [(.int (2 : Int32)), (.int (3 : Int32))])
  refine Go.st (fun _ => XS.icmpYes X0.here hx rfl (pc0 := 2) (pc' := 17) rfl (hb hby d4_2) rfl (feq (by decide : ¬ ((3 : Int32) = (2 : Int32)))).2 (by decide) (by decide)) ?_
  show Go p e below s _ _ _ s₁ (mkF m 17 #[.val (.int (3 : Int32)), .val (.long a), .second, .val (.long b), .second] [])
  refine Go.st (fun _ => XS.iloadN X0.here hx rfl (hb hby d4_17) rfl) ?_
  show Go p e below s _ _ _ s₁ (mkF m 18 #[.val (.int (3 : Int32)), .val (.long a), .second, .val (.long b), .second] [(.int (3 : Int32))])
  refine Go.st (fun _ => XS.iconst X0.here hx rfl (hb hby d4_18)) ?_
  show Go p e below s _ _ _ s₁ (mkF m 19 #[.val (.int (3 : Int32)), .val (.long a), .second, .val (.long b), .second] [(.int (3 : Int32)), (.int (3 : Int32))])
  refine Go.st (fun _ => XS.icmpNo X0.here hx rfl (hb hby d4_19) rfl (teq (by decide : (3 : Int32) = (3 : Int32))).2) ?_
  show Go p e below s _ _ _ s₁ (mkF m 22 #[.val (.int (3 : Int32)), .val (.long a), .second, .val (.long b), .second] [])
  refine Go.st (fun _ => XS.lloadN X0.here hx rfl (hb hby d4_22) rfl) ?_
  show Go p e below s _ _ _ s₁ (mkF m 23 #[.val (.int (3 : Int32)), .val (.long a), .second, .val (.long b), .second] [(.long a)])
  refine Go.st (fun _ => XS.lloadN X0.here hx rfl (hb hby d4_23) rfl) ?_
  show Go p e below s _ _ _ s₁ (mkF m 24 #[.val (.int (3 : Int32)), .val (.long a), .second, .val (.long b), .second] [(.long b), (.long a)])
  refine Go.st (fun _ => XS.lcmp X0.here hx rfl (hb hby d4_24) rfl) ?_
  show Go p e below s _ _ _ s₁ (mkF m 25 #[.val (.int (3 : Int32)), .val (.long a), .second, .val (.long b), .second] [(.int (lcmpW a b))])
  by_cases hc1 : a = b
  · refine Go.st (fun _ => XS.ifYes X0.here hx rfl (pc0 := 25) (pc' := 32) rfl (hb hby d4_25) rfl ((if0 _ _).trans (teq ((lw_eq a b).mpr hc1)).1) (by decide) (by decide)) ?_
    show Go p e below s _ _ _ s₁ (mkF m 32 #[.val (.int (3 : Int32)), .val (.long a), .second, .val (.long b), .second] [])
    refine Go.st (fun _ => XS.iconst X0.here hx rfl (hb hby d4_32)) ?_
    show Go p e below s _ _ _ s₁ (mkF m 33 #[.val (.int (3 : Int32)), .val (.long a), .second, .val (.long b), .second] [(.int (0 : Int32))])
    exact Go.retZ X0 hx hlk Bd.returns (hb hby d4_33) rfl (by rw [e0]; exact ⟨(own_b2i_f (not_not_intro hc1)), N0, rfl⟩) (by decide) (by decide)
  · refine Go.st (fun _ => XS.ifNo X0.here hx rfl (hb hby d4_25) rfl ((if0 _ _).trans (feq (fun qq => hc1 ((lw_eq a b).mp qq))).1)) ?_
    show Go p e below s _ _ _ s₁ (mkF m 28 #[.val (.int (3 : Int32)), .val (.long a), .second, .val (.long b), .second] [])
    refine Go.st (fun _ => XS.iconst X0.here hx rfl (hb hby d4_28)) ?_
    show Go p e below s _ _ _ s₁ (mkF m 29 #[.val (.int (3 : Int32)), .val (.long a), .second, .val (.long b), .second] [(.int (1 : Int32))])
    refine Go.st (fun _ => XS.goto X0.here hx rfl (pc0 := 29) (pc' := 33) rfl (hb hby d4_29) (by decide) (by decide)) ?_
    show Go p e below s _ _ _ s₁ (mkF m 33 #[.val (.int (3 : Int32)), .val (.long a), .second, .val (.long b), .second] [(.int (1 : Int32))])
    exact Go.retZ X0 hx hlk Bd.returns (hb hby d4_33) rfl (by rw [e0]; exact ⟨(own_b2i_t hc1), N0, rfl⟩) (by decide) (by decide)
theorem d4_34 : decode method_5_code 34 = .ok (.iload_n 0, 1) := by decide +kernel
theorem d4_35 : decode method_5_code 35 = .ok (.iconst 4, 1) := by decide +kernel
theorem d4_36 : decode method_5_code 36 = .ok (.if_icmp .ne 15, 3) := by decide +kernel
theorem d4_39 : decode method_5_code 39 = .ok (.lload_n 1, 1) := by decide +kernel
theorem d4_40 : decode method_5_code 40 = .ok (.lload_n 3, 1) := by decide +kernel
theorem d4_41 : decode method_5_code 41 = .ok (.lcmp, 1) := by decide +kernel
theorem d4_42 : decode method_5_code 42 = .ok (.ifCond .ge 7, 3) := by decide +kernel
theorem d4_45 : decode method_5_code 45 = .ok (.iconst 1, 1) := by decide +kernel
theorem d4_46 : decode method_5_code 46 = .ok (.goto 4, 3) := by decide +kernel
theorem d4_50 : decode method_5_code 50 = .ok (.ireturn, 1) := by decide +kernel
theorem d4_49 : decode method_5_code 49 = .ok (.iconst 0, 1) := by decide +kernel
theorem ef_rmH4 (m : MethodId) (a : Int64) (b : Int64) : entryFrame m #[(.int (4 : Int32)), (.long a), (.long b)] 5 = mkF m 0 #[.val (.int (4 : Int32)), .val (.long a), .second, .val (.long b), .second] [] := by first | (simp [entryFrame, mkF, argsToLocals, Value.category]; done) | rfl
def QrmH4 (Z : State) (a : Int64) (b : Int64) (h0 : Heap) (n0 : Nat) (rV : Option Value) (hE : Heap) (LE : List Loc) : Prop := rV = some (.int (b2i (a < b))) ∧ Fr n0 LE ∧ hE = h0
set_option maxRecDepth 65536 in
set_option maxHeartbeats 40000000 in
theorem rmH4 (l : Launch) (Z : State) (a0 : Array Value) (hw : ∀ d ∈ tables_1, d.before a0 Z = true) (ws : List Jvm.Cond) (a : Int64) (b : Int64) (h0 : Heap) (n0 : Nat) (Z0 : n0 ≤ h0.size) :
    MetFree l (⟨"com/example/moat/moat/xpath/OperatorFlippedPinLaw", "holds", "(IJJ)Z"⟩ : MethodName) (head1 (Jvm.Cond.code (⟨"com/example/moat/moat/xpath/OperatorFlippedPinLaw", "holds", "(IJJ)Z"⟩ : MethodName) method_5_code 5 (some .boolean) :: ws) ({ frames := 0, cells := 0, slots := 0, locals := 0 } : Room)) (fun aA UA => aA = #[(.int (4 : Int32)), (.long a), (.long b)] ∧ Z.Warmed39 UA.vm ∧ UA.heap = h0) (fun _ _ _ _ _ => True) (fun _ UA oA UB => ∃ rV LE, oA = .returned rV ∧ QrmH4 Z a b h0 n0 rV UB.heap LE ∧ FrameEnd UA oA UB LE ({ frames := 0, cells := 0, slots := 0, locals := 0 } : Room).cells ({ frames := 0, cells := 0, slots := 0, locals := 0 } : Room).slots) := by
  refine MetFree.of_bodySF (plainFor_of_name pn_0) hisR ?_
  intro p e s m args below meth c s₁ Bd hml0 hP hK
  obtain ⟨rfl, hZ, hh⟩ := hP
  have hx := Bd.exec
  have hby := Bd.bytes
  have hml : c.maxLocals = 5 := hml0
  have hown : s.vm.findClass "com/example/moat/moat/xpath/OperatorFlippedPinLaw" = some m.cls := findClass_of_methodNamed Bd.named
  have hnm := (name_of_methodNamed Bd.named Bd.method).1
  have hlk := Bd.notSynchronized
  have X0 : Stand p l e ({ frames := 0, cells := 0, slots := 0, locals := 0 } : Room) s m #[(.int (4 : Int32)), (.long a), (.long b)] below meth c s₁ [] 0 0 := Stand.of_body Bd
  have e0 : s₁.heap = h0 := by rw [← hh, Bd.state]; rfl
  have N0 := Fr.nil n0
  show Go p e below s (QrmH4 Z a b h0 n0) ({ frames := 0, cells := 0, slots := 0, locals := 0 } : Room).cells ({ frames := 0, cells := 0, slots := 0, locals := 0 } : Room).slots s₁ (entryFrame m #[(.int (4 : Int32)), (.long a), (.long b)] 5)
  refine Go.eq (ef_rmH4 m a b) ?_
  show Go p e below s _ _ _ s₁ (mkF m 0 #[.val (.int (4 : Int32)), .val (.long a), .second, .val (.long b), .second] [])
  refine Go.st (fun _ => XS.iloadN X0.here hx rfl (hb hby d4_0) rfl) ?_
  show Go p e below s _ _ _ s₁ (mkF m 1 #[.val (.int (4 : Int32)), .val (.long a), .second, .val (.long b), .second] [(.int (4 : Int32))])
  refine Go.st (fun _ => XS.iconst X0.here hx rfl (hb hby d4_1)) ?_
  show Go p e below s _ _ _ s₁ (mkF m 2 #[.val (.int (4 : Int32)), .val (.long a), .second, .val (.long b), .second] [(.int (2 : Int32)), (.int (4 : Int32))])
  refine Go.st (fun _ => XS.icmpYes X0.here hx rfl (pc0 := 2) (pc' := 17) rfl (hb hby d4_2) rfl (feq (by decide : ¬ ((4 : Int32) = (2 : Int32)))).2 (by decide) (by decide)) ?_
  show Go p e below s _ _ _ s₁ (mkF m 17 #[.val (.int (4 : Int32)), .val (.long a), .second, .val (.long b), .second] [])
  refine Go.st (fun _ => XS.iloadN X0.here hx rfl (hb hby d4_17) rfl) ?_
  show Go p e below s _ _ _ s₁ (mkF m 18 #[.val (.int (4 : Int32)), .val (.long a), .second, .val (.long b), .second] [(.int (4 : Int32))])
  refine Go.st (fun _ => XS.iconst X0.here hx rfl (hb hby d4_18)) ?_
  show Go p e below s _ _ _ s₁ (mkF m 19 #[.val (.int (4 : Int32)), .val (.long a), .second, .val (.long b), .second] [(.int (3 : Int32)), (.int (4 : Int32))])
  refine Go.st (fun _ => XS.icmpYes X0.here hx rfl (pc0 := 19) (pc' := 34) rfl (hb hby d4_19) rfl (feq (by decide : ¬ ((4 : Int32) = (3 : Int32)))).2 (by decide) (by decide)) ?_
  show Go p e below s _ _ _ s₁ (mkF m 34 #[.val (.int (4 : Int32)), .val (.long a), .second, .val (.long b), .second] [])
  refine Go.st (fun _ => XS.iloadN X0.here hx rfl (hb hby d4_34) rfl) ?_
  show Go p e below s _ _ _ s₁ (mkF m 35 #[.val (.int (4 : Int32)), .val (.long a), .second, .val (.long b), .second] [(.int (4 : Int32))])
  refine Go.st (fun _ => XS.iconst X0.here hx rfl (hb hby d4_35)) ?_
  show Go p e below s _ _ _ s₁ (mkF m 36 #[.val (.int (4 : Int32)), .val (.long a), .second, .val (.long b), .second] [(.int (4 : Int32)), (.int (4 : Int32))])
  refine Go.st (fun _ => XS.icmpNo X0.here hx rfl (hb hby d4_36) rfl (teq (by decide : (4 : Int32) = (4 : Int32))).2) ?_
  show Go p e below s _ _ _ s₁ (mkF m 39 #[.val (.int (4 : Int32)), .val (.long a), .second, .val (.long b), .second] [])
  refine Go.st (fun _ => XS.lloadN X0.here hx rfl (hb hby d4_39) rfl) ?_
  show Go p e below s _ _ _ s₁ (mkF m 40 #[.val (.int (4 : Int32)), .val (.long a), .second, .val (.long b), .second] [(.long a)])
  refine Go.st (fun _ => XS.lloadN X0.here hx rfl (hb hby d4_40) rfl) ?_
  show Go p e below s _ _ _ s₁ (mkF m 41 #[.val (.int (4 : Int32)), .val (.long a), .second, .val (.long b), .second] [(.long b), (.long a)])
  refine Go.st (fun _ => XS.lcmp X0.here hx rfl (hb hby d4_41) rfl) ?_
  show Go p e below s _ _ _ s₁ (mkF m 42 #[.val (.int (4 : Int32)), .val (.long a), .second, .val (.long b), .second] [(.int (lcmpW a b))])
  by_cases hc1 : a < b
  · refine Go.st (fun _ => XS.ifNo X0.here hx rfl (hb hby d4_42) rfl ((if0 _ _).trans (tlt ((lw_lt a b).mpr hc1)).2.1)) ?_
    show Go p e below s _ _ _ s₁ (mkF m 45 #[.val (.int (4 : Int32)), .val (.long a), .second, .val (.long b), .second] [])
    refine Go.st (fun _ => XS.iconst X0.here hx rfl (hb hby d4_45)) ?_
    show Go p e below s _ _ _ s₁ (mkF m 46 #[.val (.int (4 : Int32)), .val (.long a), .second, .val (.long b), .second] [(.int (1 : Int32))])
    refine Go.st (fun _ => XS.goto X0.here hx rfl (pc0 := 46) (pc' := 50) rfl (hb hby d4_46) (by decide) (by decide)) ?_
    show Go p e below s _ _ _ s₁ (mkF m 50 #[.val (.int (4 : Int32)), .val (.long a), .second, .val (.long b), .second] [(.int (1 : Int32))])
    exact Go.retZ X0 hx hlk Bd.returns (hb hby d4_50) rfl (by rw [e0]; exact ⟨(own_b2i_t hc1), N0, rfl⟩) (by decide) (by decide)
  · refine Go.st (fun _ => XS.ifYes X0.here hx rfl (pc0 := 42) (pc' := 49) rfl (hb hby d4_42) rfl ((if0 _ _).trans (flt (fun qq => hc1 ((lw_lt a b).mp qq))).2.1) (by decide) (by decide)) ?_
    show Go p e below s _ _ _ s₁ (mkF m 49 #[.val (.int (4 : Int32)), .val (.long a), .second, .val (.long b), .second] [])
    refine Go.st (fun _ => XS.iconst X0.here hx rfl (hb hby d4_49)) ?_
    show Go p e below s _ _ _ s₁ (mkF m 50 #[.val (.int (4 : Int32)), .val (.long a), .second, .val (.long b), .second] [(.int (0 : Int32))])
    exact Go.retZ X0 hx hlk Bd.returns (hb hby d4_50) rfl (by rw [e0]; exact ⟨(own_b2i_f hc1), N0, rfl⟩) (by decide) (by decide)
theorem d4_51 : decode method_5_code 51 = .ok (.iload_n 0, 1) := by decide +kernel
theorem d4_52 : decode method_5_code 52 = .ok (.iconst 5, 1) := by decide +kernel
theorem d4_53 : decode method_5_code 53 = .ok (.if_icmp .ne 15, 3) := by decide +kernel
theorem d4_56 : decode method_5_code 56 = .ok (.lload_n 1, 1) := by decide +kernel
theorem d4_57 : decode method_5_code 57 = .ok (.lload_n 3, 1) := by decide +kernel
theorem d4_58 : decode method_5_code 58 = .ok (.lcmp, 1) := by decide +kernel
theorem d4_59 : decode method_5_code 59 = .ok (.ifCond .gt 7, 3) := by decide +kernel
theorem d4_66 : decode method_5_code 66 = .ok (.iconst 0, 1) := by decide +kernel
theorem d4_67 : decode method_5_code 67 = .ok (.ireturn, 1) := by decide +kernel
theorem d4_62 : decode method_5_code 62 = .ok (.iconst 1, 1) := by decide +kernel
theorem d4_63 : decode method_5_code 63 = .ok (.goto 4, 3) := by decide +kernel
theorem ef_rmH5 (m : MethodId) (a : Int64) (b : Int64) : entryFrame m #[(.int (5 : Int32)), (.long a), (.long b)] 5 = mkF m 0 #[.val (.int (5 : Int32)), .val (.long a), .second, .val (.long b), .second] [] := by first | (simp [entryFrame, mkF, argsToLocals, Value.category]; done) | rfl
def QrmH5 (Z : State) (a : Int64) (b : Int64) (h0 : Heap) (n0 : Nat) (rV : Option Value) (hE : Heap) (LE : List Loc) : Prop := rV = some (.int (b2i (¬ (b < a)))) ∧ Fr n0 LE ∧ hE = h0
set_option maxRecDepth 65536 in
set_option maxHeartbeats 40000000 in
theorem rmH5 (l : Launch) (Z : State) (a0 : Array Value) (hw : ∀ d ∈ tables_1, d.before a0 Z = true) (ws : List Jvm.Cond) (a : Int64) (b : Int64) (h0 : Heap) (n0 : Nat) (Z0 : n0 ≤ h0.size) :
    MetFree l (⟨"com/example/moat/moat/xpath/OperatorFlippedPinLaw", "holds", "(IJJ)Z"⟩ : MethodName) (head1 (Jvm.Cond.code (⟨"com/example/moat/moat/xpath/OperatorFlippedPinLaw", "holds", "(IJJ)Z"⟩ : MethodName) method_5_code 5 (some .boolean) :: ws) ({ frames := 0, cells := 0, slots := 0, locals := 0 } : Room)) (fun aA UA => aA = #[(.int (5 : Int32)), (.long a), (.long b)] ∧ Z.Warmed39 UA.vm ∧ UA.heap = h0) (fun _ _ _ _ _ => True) (fun _ UA oA UB => ∃ rV LE, oA = .returned rV ∧ QrmH5 Z a b h0 n0 rV UB.heap LE ∧ FrameEnd UA oA UB LE ({ frames := 0, cells := 0, slots := 0, locals := 0 } : Room).cells ({ frames := 0, cells := 0, slots := 0, locals := 0 } : Room).slots) := by
  refine MetFree.of_bodySF (plainFor_of_name pn_0) hisR ?_
  intro p e s m args below meth c s₁ Bd hml0 hP hK
  obtain ⟨rfl, hZ, hh⟩ := hP
  have hx := Bd.exec
  have hby := Bd.bytes
  have hml : c.maxLocals = 5 := hml0
  have hown : s.vm.findClass "com/example/moat/moat/xpath/OperatorFlippedPinLaw" = some m.cls := findClass_of_methodNamed Bd.named
  have hnm := (name_of_methodNamed Bd.named Bd.method).1
  have hlk := Bd.notSynchronized
  have X0 : Stand p l e ({ frames := 0, cells := 0, slots := 0, locals := 0 } : Room) s m #[(.int (5 : Int32)), (.long a), (.long b)] below meth c s₁ [] 0 0 := Stand.of_body Bd
  have e0 : s₁.heap = h0 := by rw [← hh, Bd.state]; rfl
  have N0 := Fr.nil n0
  show Go p e below s (QrmH5 Z a b h0 n0) ({ frames := 0, cells := 0, slots := 0, locals := 0 } : Room).cells ({ frames := 0, cells := 0, slots := 0, locals := 0 } : Room).slots s₁ (entryFrame m #[(.int (5 : Int32)), (.long a), (.long b)] 5)
  refine Go.eq (ef_rmH5 m a b) ?_
  show Go p e below s _ _ _ s₁ (mkF m 0 #[.val (.int (5 : Int32)), .val (.long a), .second, .val (.long b), .second] [])
  refine Go.st (fun _ => XS.iloadN X0.here hx rfl (hb hby d4_0) rfl) ?_
  show Go p e below s _ _ _ s₁ (mkF m 1 #[.val (.int (5 : Int32)), .val (.long a), .second, .val (.long b), .second] [(.int (5 : Int32))])
  refine Go.st (fun _ => XS.iconst X0.here hx rfl (hb hby d4_1)) ?_
  show Go p e below s _ _ _ s₁ (mkF m 2 #[.val (.int (5 : Int32)), .val (.long a), .second, .val (.long b), .second] [(.int (2 : Int32)), (.int (5 : Int32))])
  refine Go.st (fun _ => XS.icmpYes X0.here hx rfl (pc0 := 2) (pc' := 17) rfl (hb hby d4_2) rfl (feq (by decide : ¬ ((5 : Int32) = (2 : Int32)))).2 (by decide) (by decide)) ?_
  show Go p e below s _ _ _ s₁ (mkF m 17 #[.val (.int (5 : Int32)), .val (.long a), .second, .val (.long b), .second] [])
  refine Go.st (fun _ => XS.iloadN X0.here hx rfl (hb hby d4_17) rfl) ?_
  show Go p e below s _ _ _ s₁ (mkF m 18 #[.val (.int (5 : Int32)), .val (.long a), .second, .val (.long b), .second] [(.int (5 : Int32))])
  refine Go.st (fun _ => XS.iconst X0.here hx rfl (hb hby d4_18)) ?_
  show Go p e below s _ _ _ s₁ (mkF m 19 #[.val (.int (5 : Int32)), .val (.long a), .second, .val (.long b), .second] [(.int (3 : Int32)), (.int (5 : Int32))])
  refine Go.st (fun _ => XS.icmpYes X0.here hx rfl (pc0 := 19) (pc' := 34) rfl (hb hby d4_19) rfl (feq (by decide : ¬ ((5 : Int32) = (3 : Int32)))).2 (by decide) (by decide)) ?_
  show Go p e below s _ _ _ s₁ (mkF m 34 #[.val (.int (5 : Int32)), .val (.long a), .second, .val (.long b), .second] [])
  refine Go.st (fun _ => XS.iloadN X0.here hx rfl (hb hby d4_34) rfl) ?_
  show Go p e below s _ _ _ s₁ (mkF m 35 #[.val (.int (5 : Int32)), .val (.long a), .second, .val (.long b), .second] [(.int (5 : Int32))])
  refine Go.st (fun _ => XS.iconst X0.here hx rfl (hb hby d4_35)) ?_
  show Go p e below s _ _ _ s₁ (mkF m 36 #[.val (.int (5 : Int32)), .val (.long a), .second, .val (.long b), .second] [(.int (4 : Int32)), (.int (5 : Int32))])
  refine Go.st (fun _ => XS.icmpYes X0.here hx rfl (pc0 := 36) (pc' := 51) rfl (hb hby d4_36) rfl (feq (by decide : ¬ ((5 : Int32) = (4 : Int32)))).2 (by decide) (by decide)) ?_
  show Go p e below s _ _ _ s₁ (mkF m 51 #[.val (.int (5 : Int32)), .val (.long a), .second, .val (.long b), .second] [])
  refine Go.st (fun _ => XS.iloadN X0.here hx rfl (hb hby d4_51) rfl) ?_
  show Go p e below s _ _ _ s₁ (mkF m 52 #[.val (.int (5 : Int32)), .val (.long a), .second, .val (.long b), .second] [(.int (5 : Int32))])
  refine Go.st (fun _ => XS.iconst X0.here hx rfl (hb hby d4_52)) ?_
  show Go p e below s _ _ _ s₁ (mkF m 53 #[.val (.int (5 : Int32)), .val (.long a), .second, .val (.long b), .second] [(.int (5 : Int32)), (.int (5 : Int32))])
  refine Go.st (fun _ => XS.icmpNo X0.here hx rfl (hb hby d4_53) rfl (teq (by decide : (5 : Int32) = (5 : Int32))).2) ?_
  show Go p e below s _ _ _ s₁ (mkF m 56 #[.val (.int (5 : Int32)), .val (.long a), .second, .val (.long b), .second] [])
  refine Go.st (fun _ => XS.lloadN X0.here hx rfl (hb hby d4_56) rfl) ?_
  show Go p e below s _ _ _ s₁ (mkF m 57 #[.val (.int (5 : Int32)), .val (.long a), .second, .val (.long b), .second] [(.long a)])
  refine Go.st (fun _ => XS.lloadN X0.here hx rfl (hb hby d4_57) rfl) ?_
  show Go p e below s _ _ _ s₁ (mkF m 58 #[.val (.int (5 : Int32)), .val (.long a), .second, .val (.long b), .second] [(.long b), (.long a)])
  refine Go.st (fun _ => XS.lcmp X0.here hx rfl (hb hby d4_58) rfl) ?_
  show Go p e below s _ _ _ s₁ (mkF m 59 #[.val (.int (5 : Int32)), .val (.long a), .second, .val (.long b), .second] [(.int (lcmpW a b))])
  by_cases hc1 : b < a
  · refine Go.st (fun _ => XS.ifYes X0.here hx rfl (pc0 := 59) (pc' := 66) rfl (hb hby d4_59) rfl ((if0 _ _).trans (tlt ((lw_gt a b).mpr hc1)).2.2.1) (by decide) (by decide)) ?_
    show Go p e below s _ _ _ s₁ (mkF m 66 #[.val (.int (5 : Int32)), .val (.long a), .second, .val (.long b), .second] [])
    refine Go.st (fun _ => XS.iconst X0.here hx rfl (hb hby d4_66)) ?_
    show Go p e below s _ _ _ s₁ (mkF m 67 #[.val (.int (5 : Int32)), .val (.long a), .second, .val (.long b), .second] [(.int (0 : Int32))])
    exact Go.retZ X0 hx hlk Bd.returns (hb hby d4_67) rfl (by rw [e0]; exact ⟨(own_b2i_f (not_not_intro hc1)), N0, rfl⟩) (by decide) (by decide)
  · refine Go.st (fun _ => XS.ifNo X0.here hx rfl (hb hby d4_59) rfl ((if0 _ _).trans (flt (fun qq => hc1 ((lw_gt a b).mp qq))).2.2.1)) ?_
    show Go p e below s _ _ _ s₁ (mkF m 62 #[.val (.int (5 : Int32)), .val (.long a), .second, .val (.long b), .second] [])
    refine Go.st (fun _ => XS.iconst X0.here hx rfl (hb hby d4_62)) ?_
    show Go p e below s _ _ _ s₁ (mkF m 63 #[.val (.int (5 : Int32)), .val (.long a), .second, .val (.long b), .second] [(.int (1 : Int32))])
    refine Go.st (fun _ => XS.goto X0.here hx rfl (pc0 := 63) (pc' := 67) rfl (hb hby d4_63) (by decide) (by decide)) ?_
    show Go p e below s _ _ _ s₁ (mkF m 67 #[.val (.int (5 : Int32)), .val (.long a), .second, .val (.long b), .second] [(.int (1 : Int32))])
    exact Go.retZ X0 hx hlk Bd.returns (hb hby d4_67) rfl (by rw [e0]; exact ⟨(own_b2i_t hc1), N0, rfl⟩) (by decide) (by decide)
theorem d4_68 : decode method_5_code 68 = .ok (.iload_n 0, 1) := by decide +kernel
theorem d4_69 : decode method_5_code 69 = .ok (.bipush 6, 2) := by decide +kernel
theorem d4_71 : decode method_5_code 71 = .ok (.if_icmp .ne 15, 3) := by decide +kernel
theorem d4_74 : decode method_5_code 74 = .ok (.lload_n 1, 1) := by decide +kernel
theorem d4_75 : decode method_5_code 75 = .ok (.lload_n 3, 1) := by decide +kernel
theorem d4_76 : decode method_5_code 76 = .ok (.lcmp, 1) := by decide +kernel
theorem d4_77 : decode method_5_code 77 = .ok (.ifCond .le 7, 3) := by decide +kernel
theorem d4_80 : decode method_5_code 80 = .ok (.iconst 1, 1) := by decide +kernel
theorem d4_81 : decode method_5_code 81 = .ok (.goto 4, 3) := by decide +kernel
theorem d4_85 : decode method_5_code 85 = .ok (.ireturn, 1) := by decide +kernel
theorem d4_84 : decode method_5_code 84 = .ok (.iconst 0, 1) := by decide +kernel
theorem ef_rmH6 (m : MethodId) (a : Int64) (b : Int64) : entryFrame m #[(.int (6 : Int32)), (.long a), (.long b)] 5 = mkF m 0 #[.val (.int (6 : Int32)), .val (.long a), .second, .val (.long b), .second] [] := by first | (simp [entryFrame, mkF, argsToLocals, Value.category]; done) | rfl
def QrmH6 (Z : State) (a : Int64) (b : Int64) (h0 : Heap) (n0 : Nat) (rV : Option Value) (hE : Heap) (LE : List Loc) : Prop := rV = some (.int (b2i (b < a))) ∧ Fr n0 LE ∧ hE = h0
set_option maxRecDepth 65536 in
set_option maxHeartbeats 40000000 in
theorem rmH6 (l : Launch) (Z : State) (a0 : Array Value) (hw : ∀ d ∈ tables_1, d.before a0 Z = true) (ws : List Jvm.Cond) (a : Int64) (b : Int64) (h0 : Heap) (n0 : Nat) (Z0 : n0 ≤ h0.size) :
    MetFree l (⟨"com/example/moat/moat/xpath/OperatorFlippedPinLaw", "holds", "(IJJ)Z"⟩ : MethodName) (head1 (Jvm.Cond.code (⟨"com/example/moat/moat/xpath/OperatorFlippedPinLaw", "holds", "(IJJ)Z"⟩ : MethodName) method_5_code 5 (some .boolean) :: ws) ({ frames := 0, cells := 0, slots := 0, locals := 0 } : Room)) (fun aA UA => aA = #[(.int (6 : Int32)), (.long a), (.long b)] ∧ Z.Warmed39 UA.vm ∧ UA.heap = h0) (fun _ _ _ _ _ => True) (fun _ UA oA UB => ∃ rV LE, oA = .returned rV ∧ QrmH6 Z a b h0 n0 rV UB.heap LE ∧ FrameEnd UA oA UB LE ({ frames := 0, cells := 0, slots := 0, locals := 0 } : Room).cells ({ frames := 0, cells := 0, slots := 0, locals := 0 } : Room).slots) := by
  refine MetFree.of_bodySF (plainFor_of_name pn_0) hisR ?_
  intro p e s m args below meth c s₁ Bd hml0 hP hK
  obtain ⟨rfl, hZ, hh⟩ := hP
  have hx := Bd.exec
  have hby := Bd.bytes
  have hml : c.maxLocals = 5 := hml0
  have hown : s.vm.findClass "com/example/moat/moat/xpath/OperatorFlippedPinLaw" = some m.cls := findClass_of_methodNamed Bd.named
  have hnm := (name_of_methodNamed Bd.named Bd.method).1
  have hlk := Bd.notSynchronized
  have X0 : Stand p l e ({ frames := 0, cells := 0, slots := 0, locals := 0 } : Room) s m #[(.int (6 : Int32)), (.long a), (.long b)] below meth c s₁ [] 0 0 := Stand.of_body Bd
  have e0 : s₁.heap = h0 := by rw [← hh, Bd.state]; rfl
  have N0 := Fr.nil n0
  show Go p e below s (QrmH6 Z a b h0 n0) ({ frames := 0, cells := 0, slots := 0, locals := 0 } : Room).cells ({ frames := 0, cells := 0, slots := 0, locals := 0 } : Room).slots s₁ (entryFrame m #[(.int (6 : Int32)), (.long a), (.long b)] 5)
  refine Go.eq (ef_rmH6 m a b) ?_
  show Go p e below s _ _ _ s₁ (mkF m 0 #[.val (.int (6 : Int32)), .val (.long a), .second, .val (.long b), .second] [])
  refine Go.st (fun _ => XS.iloadN X0.here hx rfl (hb hby d4_0) rfl) ?_
  show Go p e below s _ _ _ s₁ (mkF m 1 #[.val (.int (6 : Int32)), .val (.long a), .second, .val (.long b), .second] [(.int (6 : Int32))])
  refine Go.st (fun _ => XS.iconst X0.here hx rfl (hb hby d4_1)) ?_
  show Go p e below s _ _ _ s₁ (mkF m 2 #[.val (.int (6 : Int32)), .val (.long a), .second, .val (.long b), .second] [(.int (2 : Int32)), (.int (6 : Int32))])
  refine Go.st (fun _ => XS.icmpYes X0.here hx rfl (pc0 := 2) (pc' := 17) rfl (hb hby d4_2) rfl (feq (by decide : ¬ ((6 : Int32) = (2 : Int32)))).2 (by decide) (by decide)) ?_
  show Go p e below s _ _ _ s₁ (mkF m 17 #[.val (.int (6 : Int32)), .val (.long a), .second, .val (.long b), .second] [])
  refine Go.st (fun _ => XS.iloadN X0.here hx rfl (hb hby d4_17) rfl) ?_
  show Go p e below s _ _ _ s₁ (mkF m 18 #[.val (.int (6 : Int32)), .val (.long a), .second, .val (.long b), .second] [(.int (6 : Int32))])
  refine Go.st (fun _ => XS.iconst X0.here hx rfl (hb hby d4_18)) ?_
  show Go p e below s _ _ _ s₁ (mkF m 19 #[.val (.int (6 : Int32)), .val (.long a), .second, .val (.long b), .second] [(.int (3 : Int32)), (.int (6 : Int32))])
  refine Go.st (fun _ => XS.icmpYes X0.here hx rfl (pc0 := 19) (pc' := 34) rfl (hb hby d4_19) rfl (feq (by decide : ¬ ((6 : Int32) = (3 : Int32)))).2 (by decide) (by decide)) ?_
  show Go p e below s _ _ _ s₁ (mkF m 34 #[.val (.int (6 : Int32)), .val (.long a), .second, .val (.long b), .second] [])
  refine Go.st (fun _ => XS.iloadN X0.here hx rfl (hb hby d4_34) rfl) ?_
  show Go p e below s _ _ _ s₁ (mkF m 35 #[.val (.int (6 : Int32)), .val (.long a), .second, .val (.long b), .second] [(.int (6 : Int32))])
  refine Go.st (fun _ => XS.iconst X0.here hx rfl (hb hby d4_35)) ?_
  show Go p e below s _ _ _ s₁ (mkF m 36 #[.val (.int (6 : Int32)), .val (.long a), .second, .val (.long b), .second] [(.int (4 : Int32)), (.int (6 : Int32))])
  refine Go.st (fun _ => XS.icmpYes X0.here hx rfl (pc0 := 36) (pc' := 51) rfl (hb hby d4_36) rfl (feq (by decide : ¬ ((6 : Int32) = (4 : Int32)))).2 (by decide) (by decide)) ?_
  show Go p e below s _ _ _ s₁ (mkF m 51 #[.val (.int (6 : Int32)), .val (.long a), .second, .val (.long b), .second] [])
  refine Go.st (fun _ => XS.iloadN X0.here hx rfl (hb hby d4_51) rfl) ?_
  show Go p e below s _ _ _ s₁ (mkF m 52 #[.val (.int (6 : Int32)), .val (.long a), .second, .val (.long b), .second] [(.int (6 : Int32))])
  refine Go.st (fun _ => XS.iconst X0.here hx rfl (hb hby d4_52)) ?_
  show Go p e below s _ _ _ s₁ (mkF m 53 #[.val (.int (6 : Int32)), .val (.long a), .second, .val (.long b), .second] [(.int (5 : Int32)), (.int (6 : Int32))])
  refine Go.st (fun _ => XS.icmpYes X0.here hx rfl (pc0 := 53) (pc' := 68) rfl (hb hby d4_53) rfl (feq (by decide : ¬ ((6 : Int32) = (5 : Int32)))).2 (by decide) (by decide)) ?_
  show Go p e below s _ _ _ s₁ (mkF m 68 #[.val (.int (6 : Int32)), .val (.long a), .second, .val (.long b), .second] [])
  refine Go.st (fun _ => XS.iloadN X0.here hx rfl (hb hby d4_68) rfl) ?_
  show Go p e below s _ _ _ s₁ (mkF m 69 #[.val (.int (6 : Int32)), .val (.long a), .second, .val (.long b), .second] [(.int (6 : Int32))])
  refine Go.st (fun _ => XS.bipush X0.here hx rfl (hb hby d4_69)) ?_
  show Go p e below s _ _ _ s₁ (mkF m 71 #[.val (.int (6 : Int32)), .val (.long a), .second, .val (.long b), .second] [(.int (6 : Int32)), (.int (6 : Int32))])
  refine Go.st (fun _ => XS.icmpNo X0.here hx rfl (hb hby d4_71) rfl (teq (by decide : (6 : Int32) = (6 : Int32))).2) ?_
  show Go p e below s _ _ _ s₁ (mkF m 74 #[.val (.int (6 : Int32)), .val (.long a), .second, .val (.long b), .second] [])
  refine Go.st (fun _ => XS.lloadN X0.here hx rfl (hb hby d4_74) rfl) ?_
  show Go p e below s _ _ _ s₁ (mkF m 75 #[.val (.int (6 : Int32)), .val (.long a), .second, .val (.long b), .second] [(.long a)])
  refine Go.st (fun _ => XS.lloadN X0.here hx rfl (hb hby d4_75) rfl) ?_
  show Go p e below s _ _ _ s₁ (mkF m 76 #[.val (.int (6 : Int32)), .val (.long a), .second, .val (.long b), .second] [(.long b), (.long a)])
  refine Go.st (fun _ => XS.lcmp X0.here hx rfl (hb hby d4_76) rfl) ?_
  show Go p e below s _ _ _ s₁ (mkF m 77 #[.val (.int (6 : Int32)), .val (.long a), .second, .val (.long b), .second] [(.int (lcmpW a b))])
  by_cases hc1 : b < a
  · refine Go.st (fun _ => XS.ifNo X0.here hx rfl (hb hby d4_77) rfl ((if0 _ _).trans (tlt ((lw_gt a b).mpr hc1)).2.2.2)) ?_
    show Go p e below s _ _ _ s₁ (mkF m 80 #[.val (.int (6 : Int32)), .val (.long a), .second, .val (.long b), .second] [])
    refine Go.st (fun _ => XS.iconst X0.here hx rfl (hb hby d4_80)) ?_
    show Go p e below s _ _ _ s₁ (mkF m 81 #[.val (.int (6 : Int32)), .val (.long a), .second, .val (.long b), .second] [(.int (1 : Int32))])
    refine Go.st (fun _ => XS.goto X0.here hx rfl (pc0 := 81) (pc' := 85) rfl (hb hby d4_81) (by decide) (by decide)) ?_
    show Go p e below s _ _ _ s₁ (mkF m 85 #[.val (.int (6 : Int32)), .val (.long a), .second, .val (.long b), .second] [(.int (1 : Int32))])
    exact Go.retZ X0 hx hlk Bd.returns (hb hby d4_85) rfl (by rw [e0]; exact ⟨(own_b2i_t hc1), N0, rfl⟩) (by decide) (by decide)
  · refine Go.st (fun _ => XS.ifYes X0.here hx rfl (pc0 := 77) (pc' := 84) rfl (hb hby d4_77) rfl ((if0 _ _).trans (flt (fun qq => hc1 ((lw_gt a b).mp qq))).2.2.2) (by decide) (by decide)) ?_
    show Go p e below s _ _ _ s₁ (mkF m 84 #[.val (.int (6 : Int32)), .val (.long a), .second, .val (.long b), .second] [])
    refine Go.st (fun _ => XS.iconst X0.here hx rfl (hb hby d4_84)) ?_
    show Go p e below s _ _ _ s₁ (mkF m 85 #[.val (.int (6 : Int32)), .val (.long a), .second, .val (.long b), .second] [(.int (0 : Int32))])
    exact Go.retZ X0 hx hlk Bd.returns (hb hby d4_85) rfl (by rw [e0]; exact ⟨(own_b2i_f hc1), N0, rfl⟩) (by decide) (by decide)
theorem d4_86 : decode method_5_code 86 = .ok (.lload_n 1, 1) := by decide +kernel
theorem d4_87 : decode method_5_code 87 = .ok (.lload_n 3, 1) := by decide +kernel
theorem d4_88 : decode method_5_code 88 = .ok (.lcmp, 1) := by decide +kernel
theorem d4_89 : decode method_5_code 89 = .ok (.ifCond .lt 7, 3) := by decide +kernel
theorem d4_96 : decode method_5_code 96 = .ok (.iconst 0, 1) := by decide +kernel
theorem d4_97 : decode method_5_code 97 = .ok (.ireturn, 1) := by decide +kernel
theorem d4_92 : decode method_5_code 92 = .ok (.iconst 1, 1) := by decide +kernel
theorem d4_93 : decode method_5_code 93 = .ok (.goto 4, 3) := by decide +kernel
theorem ef_rmH7 (m : MethodId) (a : Int64) (b : Int64) : entryFrame m #[(.int (7 : Int32)), (.long a), (.long b)] 5 = mkF m 0 #[.val (.int (7 : Int32)), .val (.long a), .second, .val (.long b), .second] [] := by first | (simp [entryFrame, mkF, argsToLocals, Value.category]; done) | rfl
def QrmH7 (Z : State) (a : Int64) (b : Int64) (h0 : Heap) (n0 : Nat) (rV : Option Value) (hE : Heap) (LE : List Loc) : Prop := rV = some (.int (b2i (¬ (a < b)))) ∧ Fr n0 LE ∧ hE = h0
set_option maxRecDepth 65536 in
set_option maxHeartbeats 40000000 in
theorem rmH7 (l : Launch) (Z : State) (a0 : Array Value) (hw : ∀ d ∈ tables_1, d.before a0 Z = true) (ws : List Jvm.Cond) (a : Int64) (b : Int64) (h0 : Heap) (n0 : Nat) (Z0 : n0 ≤ h0.size) :
    MetFree l (⟨"com/example/moat/moat/xpath/OperatorFlippedPinLaw", "holds", "(IJJ)Z"⟩ : MethodName) (head1 (Jvm.Cond.code (⟨"com/example/moat/moat/xpath/OperatorFlippedPinLaw", "holds", "(IJJ)Z"⟩ : MethodName) method_5_code 5 (some .boolean) :: ws) ({ frames := 0, cells := 0, slots := 0, locals := 0 } : Room)) (fun aA UA => aA = #[(.int (7 : Int32)), (.long a), (.long b)] ∧ Z.Warmed39 UA.vm ∧ UA.heap = h0) (fun _ _ _ _ _ => True) (fun _ UA oA UB => ∃ rV LE, oA = .returned rV ∧ QrmH7 Z a b h0 n0 rV UB.heap LE ∧ FrameEnd UA oA UB LE ({ frames := 0, cells := 0, slots := 0, locals := 0 } : Room).cells ({ frames := 0, cells := 0, slots := 0, locals := 0 } : Room).slots) := by
  refine MetFree.of_bodySF (plainFor_of_name pn_0) hisR ?_
  intro p e s m args below meth c s₁ Bd hml0 hP hK
  obtain ⟨rfl, hZ, hh⟩ := hP
  have hx := Bd.exec
  have hby := Bd.bytes
  have hml : c.maxLocals = 5 := hml0
  have hown : s.vm.findClass "com/example/moat/moat/xpath/OperatorFlippedPinLaw" = some m.cls := findClass_of_methodNamed Bd.named
  have hnm := (name_of_methodNamed Bd.named Bd.method).1
  have hlk := Bd.notSynchronized
  have X0 : Stand p l e ({ frames := 0, cells := 0, slots := 0, locals := 0 } : Room) s m #[(.int (7 : Int32)), (.long a), (.long b)] below meth c s₁ [] 0 0 := Stand.of_body Bd
  have e0 : s₁.heap = h0 := by rw [← hh, Bd.state]; rfl
  have N0 := Fr.nil n0
  show Go p e below s (QrmH7 Z a b h0 n0) ({ frames := 0, cells := 0, slots := 0, locals := 0 } : Room).cells ({ frames := 0, cells := 0, slots := 0, locals := 0 } : Room).slots s₁ (entryFrame m #[(.int (7 : Int32)), (.long a), (.long b)] 5)
  refine Go.eq (ef_rmH7 m a b) ?_
  show Go p e below s _ _ _ s₁ (mkF m 0 #[.val (.int (7 : Int32)), .val (.long a), .second, .val (.long b), .second] [])
  refine Go.st (fun _ => XS.iloadN X0.here hx rfl (hb hby d4_0) rfl) ?_
  show Go p e below s _ _ _ s₁ (mkF m 1 #[.val (.int (7 : Int32)), .val (.long a), .second, .val (.long b), .second] [(.int (7 : Int32))])
  refine Go.st (fun _ => XS.iconst X0.here hx rfl (hb hby d4_1)) ?_
  show Go p e below s _ _ _ s₁ (mkF m 2 #[.val (.int (7 : Int32)), .val (.long a), .second, .val (.long b), .second] [(.int (2 : Int32)), (.int (7 : Int32))])
  refine Go.st (fun _ => XS.icmpYes X0.here hx rfl (pc0 := 2) (pc' := 17) rfl (hb hby d4_2) rfl (feq (by decide : ¬ ((7 : Int32) = (2 : Int32)))).2 (by decide) (by decide)) ?_
  show Go p e below s _ _ _ s₁ (mkF m 17 #[.val (.int (7 : Int32)), .val (.long a), .second, .val (.long b), .second] [])
  refine Go.st (fun _ => XS.iloadN X0.here hx rfl (hb hby d4_17) rfl) ?_
  show Go p e below s _ _ _ s₁ (mkF m 18 #[.val (.int (7 : Int32)), .val (.long a), .second, .val (.long b), .second] [(.int (7 : Int32))])
  refine Go.st (fun _ => XS.iconst X0.here hx rfl (hb hby d4_18)) ?_
  show Go p e below s _ _ _ s₁ (mkF m 19 #[.val (.int (7 : Int32)), .val (.long a), .second, .val (.long b), .second] [(.int (3 : Int32)), (.int (7 : Int32))])
  refine Go.st (fun _ => XS.icmpYes X0.here hx rfl (pc0 := 19) (pc' := 34) rfl (hb hby d4_19) rfl (feq (by decide : ¬ ((7 : Int32) = (3 : Int32)))).2 (by decide) (by decide)) ?_
  show Go p e below s _ _ _ s₁ (mkF m 34 #[.val (.int (7 : Int32)), .val (.long a), .second, .val (.long b), .second] [])
  refine Go.st (fun _ => XS.iloadN X0.here hx rfl (hb hby d4_34) rfl) ?_
  show Go p e below s _ _ _ s₁ (mkF m 35 #[.val (.int (7 : Int32)), .val (.long a), .second, .val (.long b), .second] [(.int (7 : Int32))])
  refine Go.st (fun _ => XS.iconst X0.here hx rfl (hb hby d4_35)) ?_
  show Go p e below s _ _ _ s₁ (mkF m 36 #[.val (.int (7 : Int32)), .val (.long a), .second, .val (.long b), .second] [(.int (4 : Int32)), (.int (7 : Int32))])
  refine Go.st (fun _ => XS.icmpYes X0.here hx rfl (pc0 := 36) (pc' := 51) rfl (hb hby d4_36) rfl (feq (by decide : ¬ ((7 : Int32) = (4 : Int32)))).2 (by decide) (by decide)) ?_
  show Go p e below s _ _ _ s₁ (mkF m 51 #[.val (.int (7 : Int32)), .val (.long a), .second, .val (.long b), .second] [])
  refine Go.st (fun _ => XS.iloadN X0.here hx rfl (hb hby d4_51) rfl) ?_
  show Go p e below s _ _ _ s₁ (mkF m 52 #[.val (.int (7 : Int32)), .val (.long a), .second, .val (.long b), .second] [(.int (7 : Int32))])
  refine Go.st (fun _ => XS.iconst X0.here hx rfl (hb hby d4_52)) ?_
  show Go p e below s _ _ _ s₁ (mkF m 53 #[.val (.int (7 : Int32)), .val (.long a), .second, .val (.long b), .second] [(.int (5 : Int32)), (.int (7 : Int32))])
  refine Go.st (fun _ => XS.icmpYes X0.here hx rfl (pc0 := 53) (pc' := 68) rfl (hb hby d4_53) rfl (feq (by decide : ¬ ((7 : Int32) = (5 : Int32)))).2 (by decide) (by decide)) ?_
  show Go p e below s _ _ _ s₁ (mkF m 68 #[.val (.int (7 : Int32)), .val (.long a), .second, .val (.long b), .second] [])
  refine Go.st (fun _ => XS.iloadN X0.here hx rfl (hb hby d4_68) rfl) ?_
  show Go p e below s _ _ _ s₁ (mkF m 69 #[.val (.int (7 : Int32)), .val (.long a), .second, .val (.long b), .second] [(.int (7 : Int32))])
  refine Go.st (fun _ => XS.bipush X0.here hx rfl (hb hby d4_69)) ?_
  show Go p e below s _ _ _ s₁ (mkF m 71 #[.val (.int (7 : Int32)), .val (.long a), .second, .val (.long b), .second] [(.int (6 : Int32)), (.int (7 : Int32))])
  refine Go.st (fun _ => XS.icmpYes X0.here hx rfl (pc0 := 71) (pc' := 86) rfl (hb hby d4_71) rfl (feq (by decide : ¬ ((7 : Int32) = (6 : Int32)))).2 (by decide) (by decide)) ?_
  show Go p e below s _ _ _ s₁ (mkF m 86 #[.val (.int (7 : Int32)), .val (.long a), .second, .val (.long b), .second] [])
  refine Go.st (fun _ => XS.lloadN X0.here hx rfl (hb hby d4_86) rfl) ?_
  show Go p e below s _ _ _ s₁ (mkF m 87 #[.val (.int (7 : Int32)), .val (.long a), .second, .val (.long b), .second] [(.long a)])
  refine Go.st (fun _ => XS.lloadN X0.here hx rfl (hb hby d4_87) rfl) ?_
  show Go p e below s _ _ _ s₁ (mkF m 88 #[.val (.int (7 : Int32)), .val (.long a), .second, .val (.long b), .second] [(.long b), (.long a)])
  refine Go.st (fun _ => XS.lcmp X0.here hx rfl (hb hby d4_88) rfl) ?_
  show Go p e below s _ _ _ s₁ (mkF m 89 #[.val (.int (7 : Int32)), .val (.long a), .second, .val (.long b), .second] [(.int (lcmpW a b))])
  by_cases hc1 : a < b
  · refine Go.st (fun _ => XS.ifYes X0.here hx rfl (pc0 := 89) (pc' := 96) rfl (hb hby d4_89) rfl ((if0 _ _).trans (tlt ((lw_lt a b).mpr hc1)).1) (by decide) (by decide)) ?_
    show Go p e below s _ _ _ s₁ (mkF m 96 #[.val (.int (7 : Int32)), .val (.long a), .second, .val (.long b), .second] [])
    refine Go.st (fun _ => XS.iconst X0.here hx rfl (hb hby d4_96)) ?_
    show Go p e below s _ _ _ s₁ (mkF m 97 #[.val (.int (7 : Int32)), .val (.long a), .second, .val (.long b), .second] [(.int (0 : Int32))])
    exact Go.retZ X0 hx hlk Bd.returns (hb hby d4_97) rfl (by rw [e0]; exact ⟨(own_b2i_f (not_not_intro hc1)), N0, rfl⟩) (by decide) (by decide)
  · refine Go.st (fun _ => XS.ifNo X0.here hx rfl (hb hby d4_89) rfl ((if0 _ _).trans (flt (fun qq => hc1 ((lw_lt a b).mp qq))).1)) ?_
    show Go p e below s _ _ _ s₁ (mkF m 92 #[.val (.int (7 : Int32)), .val (.long a), .second, .val (.long b), .second] [])
    refine Go.st (fun _ => XS.iconst X0.here hx rfl (hb hby d4_92)) ?_
    show Go p e below s _ _ _ s₁ (mkF m 93 #[.val (.int (7 : Int32)), .val (.long a), .second, .val (.long b), .second] [(.int (1 : Int32))])
    refine Go.st (fun _ => XS.goto X0.here hx rfl (pc0 := 93) (pc' := 97) rfl (hb hby d4_93) (by decide) (by decide)) ?_
    show Go p e below s _ _ _ s₁ (mkF m 97 #[.val (.int (7 : Int32)), .val (.long a), .second, .val (.long b), .second] [(.int (1 : Int32))])
    exact Go.retZ X0 hx hlk Bd.returns (hb hby d4_97) rfl (by rw [e0]; exact ⟨(own_b2i_t hc1), N0, rfl⟩) (by decide) (by decide)
theorem pd_0 : parseMethodDescriptor "(I)Lcom/example/moat/moat/xpath/Operation$Operator;" = some ⟨[.int], some (.object "com/example/moat/moat/xpath/Operation$Operator")⟩ := by decide +kernel
theorem pd_1 : parseMethodDescriptor "()Lcom/example/moat/moat/xpath/Operation$Operator;" = some ⟨[], some (.object "com/example/moat/moat/xpath/Operation$Operator")⟩ := by decide +kernel
theorem pd_2 : parseMethodDescriptor "(Lcom/example/moat/moat/xpath/Operation$Operator;)I" = some ⟨[(.object "com/example/moat/moat/xpath/Operation$Operator")], some .int⟩ := by decide +kernel
theorem pd_3 : parseMethodDescriptor "(IJJ)Z" = some ⟨[.int, .long, .long], some .boolean⟩ := by decide +kernel
theorem ef_rm0 (m : MethodId) (k : Int32) (a : Int64) (b : Int64) : entryFrame m #[(.int k), (.long a), (.long b)] maxLocals = mkF m 0 #[.val (.int k), .val (.long a), .second, .val (.long b), .second, .unset, .unset, .unset, .unset] [] := by first | (simp [entryFrame, mkF, argsToLocals, Value.category, maxLocals]; done) | rfl
def Qrm0 (Z : State) (k : Int32) (a : Int64) (b : Int64) (u_OR : Addr) (u_AND : Addr) (u_EQUAL : Addr) (u_NOT_EQUAL : Addr) (u_LESS : Addr) (u_LESS_OR_EQUAL : Addr) (u_GREATER : Addr) (u_GREATER_OR_EQUAL : Addr) (u_PLUS : Addr) (u_MINUS : Addr) (u_MULTIPLY : Addr) (u_DIVIDE : Addr) (u_MODULO : Addr) (u_NEGATE : Addr) (h0 : Heap) (n0 : Nat) (rV : Option Value) (hE : Heap) (LE : List Loc) : Prop := rV = some (.int (1 : Int32)) ∧ Fr n0 LE
set_option maxRecDepth 65536 in
set_option maxHeartbeats 40000000 in
theorem rm0 (l : Launch) (Z : State) (a0 : Array Value) (hw : ∀ d ∈ tables_1, d.before a0 Z = true) (ws : List Jvm.Cond) (k : Int32) (a : Int64) (b : Int64) (u_OR : Addr) (u_AND : Addr) (u_EQUAL : Addr) (u_NOT_EQUAL : Addr) (u_LESS : Addr) (u_LESS_OR_EQUAL : Addr) (u_GREATER : Addr) (u_GREATER_OR_EQUAL : Addr) (u_PLUS : Addr) (u_MINUS : Addr) (u_MULTIPLY : Addr) (u_DIVIDE : Addr) (u_MODULO : Addr) (u_NEGATE : Addr) (h0 : Heap) (n0 : Nat) (Z0 : n0 ≤ h0.size) (S_OR : Sta Z h0 "com/example/moat/moat/xpath/Operation$Operator" "OR" "Lcom/example/moat/moat/xpath/Operation$Operator;" (.ref u_OR)) (S_AND : Sta Z h0 "com/example/moat/moat/xpath/Operation$Operator" "AND" "Lcom/example/moat/moat/xpath/Operation$Operator;" (.ref u_AND)) (S_EQUAL : Sta Z h0 "com/example/moat/moat/xpath/Operation$Operator" "EQUAL" "Lcom/example/moat/moat/xpath/Operation$Operator;" (.ref u_EQUAL)) (S_NOT_EQUAL : Sta Z h0 "com/example/moat/moat/xpath/Operation$Operator" "NOT_EQUAL" "Lcom/example/moat/moat/xpath/Operation$Operator;" (.ref u_NOT_EQUAL)) (S_LESS : Sta Z h0 "com/example/moat/moat/xpath/Operation$Operator" "LESS" "Lcom/example/moat/moat/xpath/Operation$Operator;" (.ref u_LESS)) (S_LESS_OR_EQUAL : Sta Z h0 "com/example/moat/moat/xpath/Operation$Operator" "LESS_OR_EQUAL" "Lcom/example/moat/moat/xpath/Operation$Operator;" (.ref u_LESS_OR_EQUAL)) (S_GREATER : Sta Z h0 "com/example/moat/moat/xpath/Operation$Operator" "GREATER" "Lcom/example/moat/moat/xpath/Operation$Operator;" (.ref u_GREATER)) (S_GREATER_OR_EQUAL : Sta Z h0 "com/example/moat/moat/xpath/Operation$Operator" "GREATER_OR_EQUAL" "Lcom/example/moat/moat/xpath/Operation$Operator;" (.ref u_GREATER_OR_EQUAL)) (S_PLUS : Sta Z h0 "com/example/moat/moat/xpath/Operation$Operator" "PLUS" "Lcom/example/moat/moat/xpath/Operation$Operator;" (.ref u_PLUS)) (S_MINUS : Sta Z h0 "com/example/moat/moat/xpath/Operation$Operator" "MINUS" "Lcom/example/moat/moat/xpath/Operation$Operator;" (.ref u_MINUS)) (S_MULTIPLY : Sta Z h0 "com/example/moat/moat/xpath/Operation$Operator" "MULTIPLY" "Lcom/example/moat/moat/xpath/Operation$Operator;" (.ref u_MULTIPLY)) (S_DIVIDE : Sta Z h0 "com/example/moat/moat/xpath/Operation$Operator" "DIVIDE" "Lcom/example/moat/moat/xpath/Operation$Operator;" (.ref u_DIVIDE)) (S_MODULO : Sta Z h0 "com/example/moat/moat/xpath/Operation$Operator" "MODULO" "Lcom/example/moat/moat/xpath/Operation$Operator;" (.ref u_MODULO)) (S_NEGATE : Sta Z h0 "com/example/moat/moat/xpath/Operation$Operator" "NEGATE" "Lcom/example/moat/moat/xpath/Operation$Operator;" (.ref u_NEGATE)) (E_u_OR : Exa Z h0 u_OR "com/example/moat/moat/xpath/Operation$Operator") (E_u_AND : Exa Z h0 u_AND "com/example/moat/moat/xpath/Operation$Operator") (E_u_EQUAL : Exa Z h0 u_EQUAL "com/example/moat/moat/xpath/Operation$Operator") (E_u_NOT_EQUAL : Exa Z h0 u_NOT_EQUAL "com/example/moat/moat/xpath/Operation$Operator") (E_u_LESS : Exa Z h0 u_LESS "com/example/moat/moat/xpath/Operation$Operator") (E_u_LESS_OR_EQUAL : Exa Z h0 u_LESS_OR_EQUAL "com/example/moat/moat/xpath/Operation$Operator") (E_u_GREATER : Exa Z h0 u_GREATER "com/example/moat/moat/xpath/Operation$Operator") (E_u_GREATER_OR_EQUAL : Exa Z h0 u_GREATER_OR_EQUAL "com/example/moat/moat/xpath/Operation$Operator") (E_u_PLUS : Exa Z h0 u_PLUS "com/example/moat/moat/xpath/Operation$Operator") (E_u_MINUS : Exa Z h0 u_MINUS "com/example/moat/moat/xpath/Operation$Operator") (E_u_MULTIPLY : Exa Z h0 u_MULTIPLY "com/example/moat/moat/xpath/Operation$Operator") (E_u_DIVIDE : Exa Z h0 u_DIVIDE "com/example/moat/moat/xpath/Operation$Operator") (E_u_MODULO : Exa Z h0 u_MODULO "com/example/moat/moat/xpath/Operation$Operator") (E_u_NEGATE : Exa Z h0 u_NEGATE "com/example/moat/moat/xpath/Operation$Operator") (ne_u_OR_u_AND : u_OR ≠ u_AND) (ne_u_OR_u_EQUAL : u_OR ≠ u_EQUAL) (ne_u_OR_u_NOT_EQUAL : u_OR ≠ u_NOT_EQUAL) (ne_u_OR_u_LESS : u_OR ≠ u_LESS) (ne_u_OR_u_LESS_OR_EQUAL : u_OR ≠ u_LESS_OR_EQUAL) (ne_u_OR_u_GREATER : u_OR ≠ u_GREATER) (ne_u_OR_u_GREATER_OR_EQUAL : u_OR ≠ u_GREATER_OR_EQUAL) (ne_u_OR_u_PLUS : u_OR ≠ u_PLUS) (ne_u_OR_u_MINUS : u_OR ≠ u_MINUS) (ne_u_OR_u_MULTIPLY : u_OR ≠ u_MULTIPLY) (ne_u_OR_u_DIVIDE : u_OR ≠ u_DIVIDE) (ne_u_OR_u_MODULO : u_OR ≠ u_MODULO) (ne_u_OR_u_NEGATE : u_OR ≠ u_NEGATE) (ne_u_AND_u_EQUAL : u_AND ≠ u_EQUAL) (ne_u_AND_u_NOT_EQUAL : u_AND ≠ u_NOT_EQUAL) (ne_u_AND_u_LESS : u_AND ≠ u_LESS) (ne_u_AND_u_LESS_OR_EQUAL : u_AND ≠ u_LESS_OR_EQUAL) (ne_u_AND_u_GREATER : u_AND ≠ u_GREATER) (ne_u_AND_u_GREATER_OR_EQUAL : u_AND ≠ u_GREATER_OR_EQUAL) (ne_u_AND_u_PLUS : u_AND ≠ u_PLUS) (ne_u_AND_u_MINUS : u_AND ≠ u_MINUS) (ne_u_AND_u_MULTIPLY : u_AND ≠ u_MULTIPLY) (ne_u_AND_u_DIVIDE : u_AND ≠ u_DIVIDE) (ne_u_AND_u_MODULO : u_AND ≠ u_MODULO) (ne_u_AND_u_NEGATE : u_AND ≠ u_NEGATE) (ne_u_EQUAL_u_NOT_EQUAL : u_EQUAL ≠ u_NOT_EQUAL) (ne_u_EQUAL_u_LESS : u_EQUAL ≠ u_LESS) (ne_u_EQUAL_u_LESS_OR_EQUAL : u_EQUAL ≠ u_LESS_OR_EQUAL) (ne_u_EQUAL_u_GREATER : u_EQUAL ≠ u_GREATER) (ne_u_EQUAL_u_GREATER_OR_EQUAL : u_EQUAL ≠ u_GREATER_OR_EQUAL) (ne_u_EQUAL_u_PLUS : u_EQUAL ≠ u_PLUS) (ne_u_EQUAL_u_MINUS : u_EQUAL ≠ u_MINUS) (ne_u_EQUAL_u_MULTIPLY : u_EQUAL ≠ u_MULTIPLY) (ne_u_EQUAL_u_DIVIDE : u_EQUAL ≠ u_DIVIDE) (ne_u_EQUAL_u_MODULO : u_EQUAL ≠ u_MODULO) (ne_u_EQUAL_u_NEGATE : u_EQUAL ≠ u_NEGATE) (ne_u_NOT_EQUAL_u_LESS : u_NOT_EQUAL ≠ u_LESS) (ne_u_NOT_EQUAL_u_LESS_OR_EQUAL : u_NOT_EQUAL ≠ u_LESS_OR_EQUAL) (ne_u_NOT_EQUAL_u_GREATER : u_NOT_EQUAL ≠ u_GREATER) (ne_u_NOT_EQUAL_u_GREATER_OR_EQUAL : u_NOT_EQUAL ≠ u_GREATER_OR_EQUAL) (ne_u_NOT_EQUAL_u_PLUS : u_NOT_EQUAL ≠ u_PLUS) (ne_u_NOT_EQUAL_u_MINUS : u_NOT_EQUAL ≠ u_MINUS) (ne_u_NOT_EQUAL_u_MULTIPLY : u_NOT_EQUAL ≠ u_MULTIPLY) (ne_u_NOT_EQUAL_u_DIVIDE : u_NOT_EQUAL ≠ u_DIVIDE) (ne_u_NOT_EQUAL_u_MODULO : u_NOT_EQUAL ≠ u_MODULO) (ne_u_NOT_EQUAL_u_NEGATE : u_NOT_EQUAL ≠ u_NEGATE) (ne_u_LESS_u_LESS_OR_EQUAL : u_LESS ≠ u_LESS_OR_EQUAL) (ne_u_LESS_u_GREATER : u_LESS ≠ u_GREATER) (ne_u_LESS_u_GREATER_OR_EQUAL : u_LESS ≠ u_GREATER_OR_EQUAL) (ne_u_LESS_u_PLUS : u_LESS ≠ u_PLUS) (ne_u_LESS_u_MINUS : u_LESS ≠ u_MINUS) (ne_u_LESS_u_MULTIPLY : u_LESS ≠ u_MULTIPLY) (ne_u_LESS_u_DIVIDE : u_LESS ≠ u_DIVIDE) (ne_u_LESS_u_MODULO : u_LESS ≠ u_MODULO) (ne_u_LESS_u_NEGATE : u_LESS ≠ u_NEGATE) (ne_u_LESS_OR_EQUAL_u_GREATER : u_LESS_OR_EQUAL ≠ u_GREATER) (ne_u_LESS_OR_EQUAL_u_GREATER_OR_EQUAL : u_LESS_OR_EQUAL ≠ u_GREATER_OR_EQUAL) (ne_u_LESS_OR_EQUAL_u_PLUS : u_LESS_OR_EQUAL ≠ u_PLUS) (ne_u_LESS_OR_EQUAL_u_MINUS : u_LESS_OR_EQUAL ≠ u_MINUS) (ne_u_LESS_OR_EQUAL_u_MULTIPLY : u_LESS_OR_EQUAL ≠ u_MULTIPLY) (ne_u_LESS_OR_EQUAL_u_DIVIDE : u_LESS_OR_EQUAL ≠ u_DIVIDE) (ne_u_LESS_OR_EQUAL_u_MODULO : u_LESS_OR_EQUAL ≠ u_MODULO) (ne_u_LESS_OR_EQUAL_u_NEGATE : u_LESS_OR_EQUAL ≠ u_NEGATE) (ne_u_GREATER_u_GREATER_OR_EQUAL : u_GREATER ≠ u_GREATER_OR_EQUAL) (ne_u_GREATER_u_PLUS : u_GREATER ≠ u_PLUS) (ne_u_GREATER_u_MINUS : u_GREATER ≠ u_MINUS) (ne_u_GREATER_u_MULTIPLY : u_GREATER ≠ u_MULTIPLY) (ne_u_GREATER_u_DIVIDE : u_GREATER ≠ u_DIVIDE) (ne_u_GREATER_u_MODULO : u_GREATER ≠ u_MODULO) (ne_u_GREATER_u_NEGATE : u_GREATER ≠ u_NEGATE) (ne_u_GREATER_OR_EQUAL_u_PLUS : u_GREATER_OR_EQUAL ≠ u_PLUS) (ne_u_GREATER_OR_EQUAL_u_MINUS : u_GREATER_OR_EQUAL ≠ u_MINUS) (ne_u_GREATER_OR_EQUAL_u_MULTIPLY : u_GREATER_OR_EQUAL ≠ u_MULTIPLY) (ne_u_GREATER_OR_EQUAL_u_DIVIDE : u_GREATER_OR_EQUAL ≠ u_DIVIDE) (ne_u_GREATER_OR_EQUAL_u_MODULO : u_GREATER_OR_EQUAL ≠ u_MODULO) (ne_u_GREATER_OR_EQUAL_u_NEGATE : u_GREATER_OR_EQUAL ≠ u_NEGATE) (ne_u_PLUS_u_MINUS : u_PLUS ≠ u_MINUS) (ne_u_PLUS_u_MULTIPLY : u_PLUS ≠ u_MULTIPLY) (ne_u_PLUS_u_DIVIDE : u_PLUS ≠ u_DIVIDE) (ne_u_PLUS_u_MODULO : u_PLUS ≠ u_MODULO) (ne_u_PLUS_u_NEGATE : u_PLUS ≠ u_NEGATE) (ne_u_MINUS_u_MULTIPLY : u_MINUS ≠ u_MULTIPLY) (ne_u_MINUS_u_DIVIDE : u_MINUS ≠ u_DIVIDE) (ne_u_MINUS_u_MODULO : u_MINUS ≠ u_MODULO) (ne_u_MINUS_u_NEGATE : u_MINUS ≠ u_NEGATE) (ne_u_MULTIPLY_u_DIVIDE : u_MULTIPLY ≠ u_DIVIDE) (ne_u_MULTIPLY_u_MODULO : u_MULTIPLY ≠ u_MODULO) (ne_u_MULTIPLY_u_NEGATE : u_MULTIPLY ≠ u_NEGATE) (ne_u_DIVIDE_u_MODULO : u_DIVIDE ≠ u_MODULO) (ne_u_DIVIDE_u_NEGATE : u_DIVIDE ≠ u_NEGATE) (ne_u_MODULO_u_NEGATE : u_MODULO ≠ u_NEGATE) :
    MetFree l x (head1 (Jvm.Cond.code x code maxLocals ret :: ws) room_1) (fun aA UA => aA = #[(.int k), (.long a), (.long b)] ∧ Z.Warmed39 UA.vm ∧ UA.heap = h0) (fun _ _ _ _ _ => True) (fun _ UA oA UB => ∃ rV LE, oA = .returned rV ∧ Qrm0 Z k a b u_OR u_AND u_EQUAL u_NOT_EQUAL u_LESS u_LESS_OR_EQUAL u_GREATER u_GREATER_OR_EQUAL u_PLUS u_MINUS u_MULTIPLY u_DIVIDE u_MODULO u_NEGATE h0 n0 rV UB.heap LE ∧ FrameEnd UA oA UB LE room_1.cells room_1.slots) := by
  refine MetFree.of_bodySF (plainFor_of_name pn_0) hisR ?_
  intro p e s m args below meth c s₁ Bd hml0 hP hK
  obtain ⟨rfl, hZ, hh⟩ := hP
  have hx := Bd.exec
  have hby := Bd.bytes
  have hml : c.maxLocals = 9 := hml0
  have hown : s.vm.findClass "com/example/moat/moat/xpath/OperatorFlippedPinLaw" = some m.cls := findClass_of_methodNamed Bd.named
  have hnm := (name_of_methodNamed Bd.named Bd.method).1
  have hlk := Bd.notSynchronized
  have X0 : Stand p l e room_1 s m #[(.int k), (.long a), (.long b)] below meth c s₁ [] 0 0 := Stand.of_body Bd
  have e0 : s₁.heap = h0 := by rw [← hh, Bd.state]; rfl
  have N0 := Fr.nil n0
  show Go p e below s (Qrm0 Z k a b u_OR u_AND u_EQUAL u_NOT_EQUAL u_LESS u_LESS_OR_EQUAL u_GREATER u_GREATER_OR_EQUAL u_PLUS u_MINUS u_MULTIPLY u_DIVIDE u_MODULO u_NEGATE h0 n0) room_1.cells room_1.slots s₁ (entryFrame m #[(.int k), (.long a), (.long b)] maxLocals)
  refine Go.eq (ef_rm0 m k a b) ?_
  show Go p e below s _ _ _ s₁ (mkF m 0 #[.val (.int k), .val (.long a), .second, .val (.long b), .second, .unset, .unset, .unset, .unset] [])
  refine Go.st (fun _ => XS.iloadN X0.here hx rfl (hb hby at_0) rfl) ?_
  show Go p e below s _ _ _ s₁ (mkF m 1 #[.val (.int k), .val (.long a), .second, .val (.long b), .second, .unset, .unset, .unset, .unset] [(.int k)])
  refine Go.st (fun tG => X0.ldcInt hx hown (mvT hZ (hw _ (List.mem_of_getElem? (i := 0) rfl))) (g := (mkF m 1 #[.val (.int k), .val (.long a), .second, .val (.long b), .second, .unset, .unset, .unset, .unset] [(.int k)])) rfl (hb hby at_1) tG) ?_
  show Go p e below s _ _ _ s₁ (mkF m 3 #[.val (.int k), .val (.long a), .second, .val (.long b), .second, .unset, .unset, .unset, .unset] [(.int (2147483647 : Int32)), (.int k)])
  refine Go.st (fun _ => XS.iand X0.here hx rfl (hb hby at_3) rfl) ?_
  show Go p e below s _ _ _ s₁ (mkF m 4 #[.val (.int k), .val (.long a), .second, .val (.long b), .second, .unset, .unset, .unset, .unset] [(.int (k &&& (2147483647 : Int32)))])
  refine Go.st (fun _ => XS.bipush X0.here hx rfl (hb hby at_4)) ?_
  show Go p e below s _ _ _ s₁ (mkF m 6 #[.val (.int k), .val (.long a), .second, .val (.long b), .second, .unset, .unset, .unset, .unset] [(.int (14 : Int32)), (.int (k &&& (2147483647 : Int32)))])
  refine Go.st (fun _ => iremM X0 hx rfl (hb hby at_6) rfl (by decide)) ?_
  show Go p e below s _ _ _ s₁ (mkF m 7 #[.val (.int k), .val (.long a), .second, .val (.long b), .second, .unset, .unset, .unset, .unset] [(.int ((k &&& (2147483647 : Int32)) % (14 : Int32)))])
  rcases own_mod k with hd1 | hd1 | hd1 | hd1 | hd1 | hd1 | hd1 | hd1 | hd1 | hd1 | hd1 | hd1 | hd1 | hd1
  · rw [show ((k &&& (2147483647 : Int32)) % (14 : Int32)) = (0 : Int32) from hd1]
    show Go p e below s _ _ _ s₁ (mkF m 7 #[.val (.int k), .val (.long a), .second, .val (.long b), .second, .unset, .unset, .unset, .unset] [(.int (0 : Int32))])
    refine Go.st (fun _ => XS.istore X0.here hx rfl (hb hby at_7) rfl (l' := #[.val (.int k), .val (.long a), .second, .val (.long b), .second, .val (.int (0 : Int32)), .unset, .unset, .unset]) rfl) ?_
    show Go p e below s _ _ _ s₁ (mkF m 9 #[.val (.int k), .val (.long a), .second, .val (.long b), .second, .val (.int (0 : Int32)), .unset, .unset, .unset] [])
    refine Go.st (fun _ => XS.iload X0.here hx rfl (hb hby at_9) rfl) ?_
    show Go p e below s _ _ _ s₁ (mkF m 11 #[.val (.int k), .val (.long a), .second, .val (.long b), .second, .val (.int (0 : Int32)), .unset, .unset, .unset] [(.int (0 : Int32))])
    obtain ⟨_, _, ⟨T2, L2, kc2, nc2⟩, -, X2, ⟨Lc2, hQ2, l2, y2, z2⟩, st2⟩ := Jvm.LawKit.callS X0 hx (y := (⟨"com/example/moat/moat/xpath/OperatorFlippedPinLaw", "pick", "(I)Lcom/example/moat/moat/xpath/Operation$Operator;"⟩ : MethodName)) hown (mvT hZ (hw _ (List.mem_of_getElem? (i := 1) rfl))) (mvT hZ (hw _ (List.mem_of_getElem? (i := 2) rfl))) (mvT hZ (hw _ (List.mem_of_getElem? (i := 3) rfl))) (mvT hZ (hw _ (List.mem_of_getElem? (i := 4) rfl))) (by decide) (backOf (W := 0) (rmP0 l Z a0 hw [] u_OR h0 n0 Z0 S_OR) hZ (hw _ (List.mem_of_getElem? (i := 4) rfl)) (hw _ (List.mem_of_getElem? (i := 3) rfl)) (by decide) (by decide)) (g := (mkF m 11 #[.val (.int k), .val (.long a), .second, .val (.long b), .second, .val (.int (0 : Int32)), .unset, .unset, .unset] [(.int (0 : Int32))])) rfl (by rw [hml]; rfl) (argsL := [(.int (0 : Int32))]) (rest := []) (lenOf pd_0 rfl) rfl (by show 2 * 0 + _ ≤ _; exact Nat.le_of_eq rfl) (hb hby at_11) (fun _ _ => ⟨rfl, e0, (by decide : 0 + 0 ≤ _), (by decide : 0 + 0 ≤ _)⟩)
    dsimp only [Pt.U, Pt.locs, Pt.cells, Pt.slots] at X2 l2 y2 z2 st2 hQ2
    subst l2 y2 z2
    obtain ⟨h2, e2⟩ : ∃ hh, T2.heap = hh := ⟨_, rfl⟩
    rw [e2] at hQ2
    obtain ⟨rfl, N2q, sm2⟩ := hQ2
    have N2 := Fr.app N0 N2q
    refine Go.st st2 ?_
    rw [sm2] at e2
    show Go p e below s _ _ _ T2 (mkF m 14 #[.val (.int k), .val (.long a), .second, .val (.long b), .second, .val (.int (0 : Int32)), .unset, .unset, .unset] [(.ref u_OR)])
    refine Go.st (fun _ => XS.astore X2.here hx rfl (hb hby at_14) rfl rfl (l' := #[.val (.int k), .val (.long a), .second, .val (.long b), .second, .val (.int (0 : Int32)), .val (.ref u_OR), .unset, .unset]) rfl) ?_
    show Go p e below s _ _ _ T2 (mkF m 16 #[.val (.int k), .val (.long a), .second, .val (.long b), .second, .val (.int (0 : Int32)), .val (.ref u_OR), .unset, .unset] [])
    refine Go.st (fun _ => XS.aload X2.here hx rfl (hb hby at_16) rfl rfl) ?_
    show Go p e below s _ _ _ T2 (mkF m 18 #[.val (.int k), .val (.long a), .second, .val (.long b), .second, .val (.int (0 : Int32)), .val (.ref u_OR), .unset, .unset] [(.ref u_OR)])
    obtain ⟨cq3, kq3, q3a, q3b, q3c⟩ := isOf hZ e2 E_u_OR
    obtain ⟨_, _, ⟨T3, L3, kc3, nc3⟩, -, X3, ⟨Lc3, hQ3, l3, y3, z3⟩, st3⟩ := X2.virtualBack hx (y := (⟨"com/example/moat/moat/xpath/Operation$Operator", "flipped", "()Lcom/example/moat/moat/xpath/Operation$Operator;"⟩ : MethodName)) (z := (⟨"com/example/moat/moat/xpath/Operation$Operator", "flipped", "()Lcom/example/moat/moat/xpath/Operation$Operator;"⟩ : MethodName)) hown (mvT hZ (hw _ (List.mem_of_getElem? (i := 8) rfl))) (mvT hZ (hw _ (List.mem_of_getElem? (i := 9) rfl))) (notFace_of_selects (args := #[]) (mvT hZ (hw _ (List.mem_of_getElem? (i := 11) rfl)))) (mvT hZ (hw _ (List.mem_of_getElem? (i := 11) rfl))) (mvT hZ (hw _ (List.mem_of_getElem? (i := 10) rfl))) (by decide) (backOf (W := 0) (rmF0 l Z a0 hw [] u_OR u_LESS u_LESS_OR_EQUAL u_GREATER u_GREATER_OR_EQUAL h0 n0 Z0 S_LESS S_LESS_OR_EQUAL S_GREATER S_GREATER_OR_EQUAL (Ne.symm ne_u_OR_u_LESS) (Ne.symm ne_u_OR_u_LESS_OR_EQUAL) (Ne.symm ne_u_OR_u_GREATER) (Ne.symm ne_u_OR_u_GREATER_OR_EQUAL)) hZ (hw _ (List.mem_of_getElem? (i := 12) rfl)) (hw _ (List.mem_of_getElem? (i := 6) rfl)) (by decide) (by decide)) q3a q3c (g := (mkF m 18 #[.val (.int k), .val (.long a), .second, .val (.long b), .second, .val (.int (0 : Int32)), .val (.ref u_OR), .unset, .unset] [(.ref u_OR)])) rfl (by rw [hml]; rfl) (Steps.refl _) (argsL := []) (rest := []) (lenOf pd_1 rfl) rfl (by show 2 * 0 + _ ≤ _; exact Nat.le_of_eq rfl) (hb hby at_18) (fun _ _ => ⟨rfl, e2, (by decide : 0 + 0 ≤ _), (by decide : 0 + 0 ≤ _)⟩)
    dsimp only [Pt.U, Pt.locs, Pt.cells, Pt.slots] at X3 l3 y3 z3 st3 hQ3
    subst l3 y3 z3
    obtain ⟨h3, e3⟩ : ∃ hh, T3.heap = hh := ⟨_, rfl⟩
    rw [e3] at hQ3
    obtain ⟨rfl, N3q, sm3⟩ := hQ3
    have N3 := Fr.app N2 N3q
    refine Go.st (fun _ kk => st3.trans kk) ?_
    rw [sm3] at e3
    show Go p e below s _ _ _ T3 (mkF m 21 #[.val (.int k), .val (.long a), .second, .val (.long b), .second, .val (.int (0 : Int32)), .val (.ref u_OR), .unset, .unset] [(.ref u_OR)])
    refine Go.st (fun _ => XS.astore X3.here hx rfl (hb hby at_21) rfl rfl (l' := #[.val (.int k), .val (.long a), .second, .val (.long b), .second, .val (.int (0 : Int32)), .val (.ref u_OR), .val (.ref u_OR), .unset]) rfl) ?_
    show Go p e below s _ _ _ T3 (mkF m 23 #[.val (.int k), .val (.long a), .second, .val (.long b), .second, .val (.int (0 : Int32)), .val (.ref u_OR), .val (.ref u_OR), .unset] [])
    refine Go.st (fun _ => XS.aload X3.here hx rfl (hb hby at_23) rfl rfl) ?_
    show Go p e below s _ _ _ T3 (mkF m 25 #[.val (.int k), .val (.long a), .second, .val (.long b), .second, .val (.int (0 : Int32)), .val (.ref u_OR), .val (.ref u_OR), .unset] [(.ref u_OR)])
    obtain ⟨_, _, ⟨T4, L4, kc4, nc4⟩, -, X4, ⟨Lc4, hQ4, l4, y4, z4⟩, st4⟩ := Jvm.LawKit.callS X3 hx (y := (⟨"com/example/moat/moat/xpath/OperatorFlippedPinLaw", "index", "(Lcom/example/moat/moat/xpath/Operation$Operator;)I"⟩ : MethodName)) hown (mvT hZ (hw _ (List.mem_of_getElem? (i := 21) rfl))) (mvT hZ (hw _ (List.mem_of_getElem? (i := 22) rfl))) (mvT hZ (hw _ (List.mem_of_getElem? (i := 3) rfl))) (mvT hZ (hw _ (List.mem_of_getElem? (i := 23) rfl))) (by decide) (backOf (W := 0) (rmX0 l Z a0 hw [] u_OR h0 n0 Z0 S_OR) hZ (hw _ (List.mem_of_getElem? (i := 23) rfl)) (hw _ (List.mem_of_getElem? (i := 3) rfl)) (by decide) (by decide)) (g := (mkF m 25 #[.val (.int k), .val (.long a), .second, .val (.long b), .second, .val (.int (0 : Int32)), .val (.ref u_OR), .val (.ref u_OR), .unset] [(.ref u_OR)])) rfl (by rw [hml]; rfl) (argsL := [(.ref u_OR)]) (rest := []) (lenOf pd_2 rfl) rfl (by show 2 * 0 + _ ≤ _; exact Nat.le_of_eq rfl) (hb hby at_25) (fun _ _ => ⟨rfl, e3, (by decide : 0 + 0 ≤ _), (by decide : 0 + 0 ≤ _)⟩)
    dsimp only [Pt.U, Pt.locs, Pt.cells, Pt.slots] at X4 l4 y4 z4 st4 hQ4
    subst l4 y4 z4
    obtain ⟨h4, e4⟩ : ∃ hh, T4.heap = hh := ⟨_, rfl⟩
    rw [e4] at hQ4
    obtain ⟨rfl, N4q, sm4⟩ := hQ4
    have N4 := Fr.app N3 N4q
    refine Go.st st4 ?_
    rw [sm4] at e4
    show Go p e below s _ _ _ T4 (mkF m 28 #[.val (.int k), .val (.long a), .second, .val (.long b), .second, .val (.int (0 : Int32)), .val (.ref u_OR), .val (.ref u_OR), .unset] [(.int (0 : Int32))])
    refine Go.st (fun _ => XS.istore X4.here hx rfl (hb hby at_28) rfl (l' := #[.val (.int k), .val (.long a), .second, .val (.long b), .second, .val (.int (0 : Int32)), .val (.ref u_OR), .val (.ref u_OR), .val (.int (0 : Int32))]) rfl) ?_
    show Go p e below s _ _ _ T4 (mkF m 30 #[.val (.int k), .val (.long a), .second, .val (.long b), .second, .val (.int (0 : Int32)), .val (.ref u_OR), .val (.ref u_OR), .val (.int (0 : Int32))] [])
    refine Go.st (fun _ => XS.iload X4.here hx rfl (hb hby at_30) rfl) ?_
    show Go p e below s _ _ _ T4 (mkF m 32 #[.val (.int k), .val (.long a), .second, .val (.long b), .second, .val (.int (0 : Int32)), .val (.ref u_OR), .val (.ref u_OR), .val (.int (0 : Int32))] [(.int (0 : Int32))])
    refine Go.st (fun _ => XS.iconst X4.here hx rfl (hb hby at_32)) ?_
    show Go p e below s _ _ _ T4 (mkF m 33 #[.val (.int k), .val (.long a), .second, .val (.long b), .second, .val (.int (0 : Int32)), .val (.ref u_OR), .val (.ref u_OR), .val (.int (0 : Int32))] [(.int (2 : Int32)), (.int (0 : Int32))])
    refine Go.st (fun _ => XS.icmpYes X4.here hx rfl (pc0 := 33) (pc' := 89) rfl (hb hby at_33) rfl (tlt (by decide : (0 : Int32) < (2 : Int32))).1 (by decide) (by decide)) ?_
    show Go p e below s _ _ _ T4 (mkF m 89 #[.val (.int k), .val (.long a), .second, .val (.long b), .second, .val (.int (0 : Int32)), .val (.ref u_OR), .val (.ref u_OR), .val (.int (0 : Int32))] [])
    refine Go.st (fun _ => XS.aload X4.here hx rfl (hb hby at_89) rfl rfl) ?_
    show Go p e below s _ _ _ T4 (mkF m 91 #[.val (.int k), .val (.long a), .second, .val (.long b), .second, .val (.int (0 : Int32)), .val (.ref u_OR), .val (.ref u_OR), .val (.int (0 : Int32))] [(.ref u_OR)])
    refine Go.st (fun _ => XS.aload X4.here hx rfl (hb hby at_91) rfl rfl) ?_
    show Go p e below s _ _ _ T4 (mkF m 93 #[.val (.int k), .val (.long a), .second, .val (.long b), .second, .val (.int (0 : Int32)), .val (.ref u_OR), .val (.ref u_OR), .val (.int (0 : Int32))] [(.ref u_OR), (.ref u_OR)])
    refine Go.st (fun _ => Jvm.RoadKit.acmp (g := (mkF m 93 #[.val (.int k), .val (.long a), .second, .val (.long b), .second, .val (.int (0 : Int32)), .val (.ref u_OR), .val (.ref u_OR), .val (.int (0 : Int32))] [(.ref u_OR), (.ref u_OR)])) X4 hx rfl rfl rfl (pc0 := 93) (pc' := 96) (same := true) rfl (hb hby at_93) rfl (decide_eq_true rfl) (by decide) (by decide)) ?_
    show Go p e below s _ _ _ T4 (mkF m 96 #[.val (.int k), .val (.long a), .second, .val (.long b), .second, .val (.int (0 : Int32)), .val (.ref u_OR), .val (.ref u_OR), .val (.int (0 : Int32))] [])
    refine Go.st (fun _ => XS.iconst X4.here hx rfl (hb hby at_96)) ?_
    show Go p e below s _ _ _ T4 (mkF m 97 #[.val (.int k), .val (.long a), .second, .val (.long b), .second, .val (.int (0 : Int32)), .val (.ref u_OR), .val (.ref u_OR), .val (.int (0 : Int32))] [(.int (1 : Int32))])
    refine Go.st (fun _ => XS.goto X4.here hx rfl (pc0 := 97) (pc' := 101) rfl (hb hby at_97) (by decide) (by decide)) ?_
    show Go p e below s _ _ _ T4 (mkF m 101 #[.val (.int k), .val (.long a), .second, .val (.long b), .second, .val (.int (0 : Int32)), .val (.ref u_OR), .val (.ref u_OR), .val (.int (0 : Int32))] [(.int (1 : Int32))])
    exact Go.retZ X4 hx hlk Bd.returns (hb hby at_101) rfl (by rw [e4]; exact ⟨rfl, N4⟩) (by decide) (by decide)
  · rw [show ((k &&& (2147483647 : Int32)) % (14 : Int32)) = (1 : Int32) from hd1]
    show Go p e below s _ _ _ s₁ (mkF m 7 #[.val (.int k), .val (.long a), .second, .val (.long b), .second, .unset, .unset, .unset, .unset] [(.int (1 : Int32))])
    refine Go.st (fun _ => XS.istore X0.here hx rfl (hb hby at_7) rfl (l' := #[.val (.int k), .val (.long a), .second, .val (.long b), .second, .val (.int (1 : Int32)), .unset, .unset, .unset]) rfl) ?_
    show Go p e below s _ _ _ s₁ (mkF m 9 #[.val (.int k), .val (.long a), .second, .val (.long b), .second, .val (.int (1 : Int32)), .unset, .unset, .unset] [])
    refine Go.st (fun _ => XS.iload X0.here hx rfl (hb hby at_9) rfl) ?_
    show Go p e below s _ _ _ s₁ (mkF m 11 #[.val (.int k), .val (.long a), .second, .val (.long b), .second, .val (.int (1 : Int32)), .unset, .unset, .unset] [(.int (1 : Int32))])
    obtain ⟨_, _, ⟨T5, L5, kc5, nc5⟩, -, X5, ⟨Lc5, hQ5, l5, y5, z5⟩, st5⟩ := Jvm.LawKit.callS X0 hx (y := (⟨"com/example/moat/moat/xpath/OperatorFlippedPinLaw", "pick", "(I)Lcom/example/moat/moat/xpath/Operation$Operator;"⟩ : MethodName)) hown (mvT hZ (hw _ (List.mem_of_getElem? (i := 1) rfl))) (mvT hZ (hw _ (List.mem_of_getElem? (i := 2) rfl))) (mvT hZ (hw _ (List.mem_of_getElem? (i := 3) rfl))) (mvT hZ (hw _ (List.mem_of_getElem? (i := 4) rfl))) (by decide) (backOf (W := 0) (rmP1 l Z a0 hw [] u_AND h0 n0 Z0 S_AND) hZ (hw _ (List.mem_of_getElem? (i := 4) rfl)) (hw _ (List.mem_of_getElem? (i := 3) rfl)) (by decide) (by decide)) (g := (mkF m 11 #[.val (.int k), .val (.long a), .second, .val (.long b), .second, .val (.int (1 : Int32)), .unset, .unset, .unset] [(.int (1 : Int32))])) rfl (by rw [hml]; rfl) (argsL := [(.int (1 : Int32))]) (rest := []) (lenOf pd_0 rfl) rfl (by show 2 * 0 + _ ≤ _; exact Nat.le_of_eq rfl) (hb hby at_11) (fun _ _ => ⟨rfl, e0, (by decide : 0 + 0 ≤ _), (by decide : 0 + 0 ≤ _)⟩)
    dsimp only [Pt.U, Pt.locs, Pt.cells, Pt.slots] at X5 l5 y5 z5 st5 hQ5
    subst l5 y5 z5
    obtain ⟨h5, e5⟩ : ∃ hh, T5.heap = hh := ⟨_, rfl⟩
    rw [e5] at hQ5
    obtain ⟨rfl, N5q, sm5⟩ := hQ5
    have N5 := Fr.app N0 N5q
    refine Go.st st5 ?_
    rw [sm5] at e5
    show Go p e below s _ _ _ T5 (mkF m 14 #[.val (.int k), .val (.long a), .second, .val (.long b), .second, .val (.int (1 : Int32)), .unset, .unset, .unset] [(.ref u_AND)])
    refine Go.st (fun _ => XS.astore X5.here hx rfl (hb hby at_14) rfl rfl (l' := #[.val (.int k), .val (.long a), .second, .val (.long b), .second, .val (.int (1 : Int32)), .val (.ref u_AND), .unset, .unset]) rfl) ?_
    show Go p e below s _ _ _ T5 (mkF m 16 #[.val (.int k), .val (.long a), .second, .val (.long b), .second, .val (.int (1 : Int32)), .val (.ref u_AND), .unset, .unset] [])
    refine Go.st (fun _ => XS.aload X5.here hx rfl (hb hby at_16) rfl rfl) ?_
    show Go p e below s _ _ _ T5 (mkF m 18 #[.val (.int k), .val (.long a), .second, .val (.long b), .second, .val (.int (1 : Int32)), .val (.ref u_AND), .unset, .unset] [(.ref u_AND)])
    obtain ⟨cq6, kq6, q6a, q6b, q6c⟩ := isOf hZ e5 E_u_AND
    obtain ⟨_, _, ⟨T6, L6, kc6, nc6⟩, -, X6, ⟨Lc6, hQ6, l6, y6, z6⟩, st6⟩ := X5.virtualBack hx (y := (⟨"com/example/moat/moat/xpath/Operation$Operator", "flipped", "()Lcom/example/moat/moat/xpath/Operation$Operator;"⟩ : MethodName)) (z := (⟨"com/example/moat/moat/xpath/Operation$Operator", "flipped", "()Lcom/example/moat/moat/xpath/Operation$Operator;"⟩ : MethodName)) hown (mvT hZ (hw _ (List.mem_of_getElem? (i := 8) rfl))) (mvT hZ (hw _ (List.mem_of_getElem? (i := 9) rfl))) (notFace_of_selects (args := #[]) (mvT hZ (hw _ (List.mem_of_getElem? (i := 11) rfl)))) (mvT hZ (hw _ (List.mem_of_getElem? (i := 11) rfl))) (mvT hZ (hw _ (List.mem_of_getElem? (i := 10) rfl))) (by decide) (backOf (W := 0) (rmF1 l Z a0 hw [] u_AND u_LESS u_LESS_OR_EQUAL u_GREATER u_GREATER_OR_EQUAL h0 n0 Z0 S_LESS S_LESS_OR_EQUAL S_GREATER S_GREATER_OR_EQUAL (Ne.symm ne_u_AND_u_LESS) (Ne.symm ne_u_AND_u_LESS_OR_EQUAL) (Ne.symm ne_u_AND_u_GREATER) (Ne.symm ne_u_AND_u_GREATER_OR_EQUAL)) hZ (hw _ (List.mem_of_getElem? (i := 12) rfl)) (hw _ (List.mem_of_getElem? (i := 6) rfl)) (by decide) (by decide)) q6a q6c (g := (mkF m 18 #[.val (.int k), .val (.long a), .second, .val (.long b), .second, .val (.int (1 : Int32)), .val (.ref u_AND), .unset, .unset] [(.ref u_AND)])) rfl (by rw [hml]; rfl) (Steps.refl _) (argsL := []) (rest := []) (lenOf pd_1 rfl) rfl (by show 2 * 0 + _ ≤ _; exact Nat.le_of_eq rfl) (hb hby at_18) (fun _ _ => ⟨rfl, e5, (by decide : 0 + 0 ≤ _), (by decide : 0 + 0 ≤ _)⟩)
    dsimp only [Pt.U, Pt.locs, Pt.cells, Pt.slots] at X6 l6 y6 z6 st6 hQ6
    subst l6 y6 z6
    obtain ⟨h6, e6⟩ : ∃ hh, T6.heap = hh := ⟨_, rfl⟩
    rw [e6] at hQ6
    obtain ⟨rfl, N6q, sm6⟩ := hQ6
    have N6 := Fr.app N5 N6q
    refine Go.st (fun _ kk => st6.trans kk) ?_
    rw [sm6] at e6
    show Go p e below s _ _ _ T6 (mkF m 21 #[.val (.int k), .val (.long a), .second, .val (.long b), .second, .val (.int (1 : Int32)), .val (.ref u_AND), .unset, .unset] [(.ref u_AND)])
    refine Go.st (fun _ => XS.astore X6.here hx rfl (hb hby at_21) rfl rfl (l' := #[.val (.int k), .val (.long a), .second, .val (.long b), .second, .val (.int (1 : Int32)), .val (.ref u_AND), .val (.ref u_AND), .unset]) rfl) ?_
    show Go p e below s _ _ _ T6 (mkF m 23 #[.val (.int k), .val (.long a), .second, .val (.long b), .second, .val (.int (1 : Int32)), .val (.ref u_AND), .val (.ref u_AND), .unset] [])
    refine Go.st (fun _ => XS.aload X6.here hx rfl (hb hby at_23) rfl rfl) ?_
    show Go p e below s _ _ _ T6 (mkF m 25 #[.val (.int k), .val (.long a), .second, .val (.long b), .second, .val (.int (1 : Int32)), .val (.ref u_AND), .val (.ref u_AND), .unset] [(.ref u_AND)])
    obtain ⟨_, _, ⟨T7, L7, kc7, nc7⟩, -, X7, ⟨Lc7, hQ7, l7, y7, z7⟩, st7⟩ := Jvm.LawKit.callS X6 hx (y := (⟨"com/example/moat/moat/xpath/OperatorFlippedPinLaw", "index", "(Lcom/example/moat/moat/xpath/Operation$Operator;)I"⟩ : MethodName)) hown (mvT hZ (hw _ (List.mem_of_getElem? (i := 21) rfl))) (mvT hZ (hw _ (List.mem_of_getElem? (i := 22) rfl))) (mvT hZ (hw _ (List.mem_of_getElem? (i := 3) rfl))) (mvT hZ (hw _ (List.mem_of_getElem? (i := 23) rfl))) (by decide) (backOf (W := 0) (rmX1 l Z a0 hw [] u_AND u_OR h0 n0 Z0 S_OR S_AND ne_u_OR_u_AND) hZ (hw _ (List.mem_of_getElem? (i := 23) rfl)) (hw _ (List.mem_of_getElem? (i := 3) rfl)) (by decide) (by decide)) (g := (mkF m 25 #[.val (.int k), .val (.long a), .second, .val (.long b), .second, .val (.int (1 : Int32)), .val (.ref u_AND), .val (.ref u_AND), .unset] [(.ref u_AND)])) rfl (by rw [hml]; rfl) (argsL := [(.ref u_AND)]) (rest := []) (lenOf pd_2 rfl) rfl (by show 2 * 0 + _ ≤ _; exact Nat.le_of_eq rfl) (hb hby at_25) (fun _ _ => ⟨rfl, e6, (by decide : 0 + 0 ≤ _), (by decide : 0 + 0 ≤ _)⟩)
    dsimp only [Pt.U, Pt.locs, Pt.cells, Pt.slots] at X7 l7 y7 z7 st7 hQ7
    subst l7 y7 z7
    obtain ⟨h7, e7⟩ : ∃ hh, T7.heap = hh := ⟨_, rfl⟩
    rw [e7] at hQ7
    obtain ⟨rfl, N7q, sm7⟩ := hQ7
    have N7 := Fr.app N6 N7q
    refine Go.st st7 ?_
    rw [sm7] at e7
    show Go p e below s _ _ _ T7 (mkF m 28 #[.val (.int k), .val (.long a), .second, .val (.long b), .second, .val (.int (1 : Int32)), .val (.ref u_AND), .val (.ref u_AND), .unset] [(.int (1 : Int32))])
    refine Go.st (fun _ => XS.istore X7.here hx rfl (hb hby at_28) rfl (l' := #[.val (.int k), .val (.long a), .second, .val (.long b), .second, .val (.int (1 : Int32)), .val (.ref u_AND), .val (.ref u_AND), .val (.int (1 : Int32))]) rfl) ?_
    show Go p e below s _ _ _ T7 (mkF m 30 #[.val (.int k), .val (.long a), .second, .val (.long b), .second, .val (.int (1 : Int32)), .val (.ref u_AND), .val (.ref u_AND), .val (.int (1 : Int32))] [])
    refine Go.st (fun _ => XS.iload X7.here hx rfl (hb hby at_30) rfl) ?_
    show Go p e below s _ _ _ T7 (mkF m 32 #[.val (.int k), .val (.long a), .second, .val (.long b), .second, .val (.int (1 : Int32)), .val (.ref u_AND), .val (.ref u_AND), .val (.int (1 : Int32))] [(.int (1 : Int32))])
    refine Go.st (fun _ => XS.iconst X7.here hx rfl (hb hby at_32)) ?_
    show Go p e below s _ _ _ T7 (mkF m 33 #[.val (.int k), .val (.long a), .second, .val (.long b), .second, .val (.int (1 : Int32)), .val (.ref u_AND), .val (.ref u_AND), .val (.int (1 : Int32))] [(.int (2 : Int32)), (.int (1 : Int32))])
    refine Go.st (fun _ => XS.icmpYes X7.here hx rfl (pc0 := 33) (pc' := 89) rfl (hb hby at_33) rfl (tlt (by decide : (1 : Int32) < (2 : Int32))).1 (by decide) (by decide)) ?_
    show Go p e below s _ _ _ T7 (mkF m 89 #[.val (.int k), .val (.long a), .second, .val (.long b), .second, .val (.int (1 : Int32)), .val (.ref u_AND), .val (.ref u_AND), .val (.int (1 : Int32))] [])
    refine Go.st (fun _ => XS.aload X7.here hx rfl (hb hby at_89) rfl rfl) ?_
    show Go p e below s _ _ _ T7 (mkF m 91 #[.val (.int k), .val (.long a), .second, .val (.long b), .second, .val (.int (1 : Int32)), .val (.ref u_AND), .val (.ref u_AND), .val (.int (1 : Int32))] [(.ref u_AND)])
    refine Go.st (fun _ => XS.aload X7.here hx rfl (hb hby at_91) rfl rfl) ?_
    show Go p e below s _ _ _ T7 (mkF m 93 #[.val (.int k), .val (.long a), .second, .val (.long b), .second, .val (.int (1 : Int32)), .val (.ref u_AND), .val (.ref u_AND), .val (.int (1 : Int32))] [(.ref u_AND), (.ref u_AND)])
    refine Go.st (fun _ => Jvm.RoadKit.acmp (g := (mkF m 93 #[.val (.int k), .val (.long a), .second, .val (.long b), .second, .val (.int (1 : Int32)), .val (.ref u_AND), .val (.ref u_AND), .val (.int (1 : Int32))] [(.ref u_AND), (.ref u_AND)])) X7 hx rfl rfl rfl (pc0 := 93) (pc' := 96) (same := true) rfl (hb hby at_93) rfl (decide_eq_true rfl) (by decide) (by decide)) ?_
    show Go p e below s _ _ _ T7 (mkF m 96 #[.val (.int k), .val (.long a), .second, .val (.long b), .second, .val (.int (1 : Int32)), .val (.ref u_AND), .val (.ref u_AND), .val (.int (1 : Int32))] [])
    refine Go.st (fun _ => XS.iconst X7.here hx rfl (hb hby at_96)) ?_
    show Go p e below s _ _ _ T7 (mkF m 97 #[.val (.int k), .val (.long a), .second, .val (.long b), .second, .val (.int (1 : Int32)), .val (.ref u_AND), .val (.ref u_AND), .val (.int (1 : Int32))] [(.int (1 : Int32))])
    refine Go.st (fun _ => XS.goto X7.here hx rfl (pc0 := 97) (pc' := 101) rfl (hb hby at_97) (by decide) (by decide)) ?_
    show Go p e below s _ _ _ T7 (mkF m 101 #[.val (.int k), .val (.long a), .second, .val (.long b), .second, .val (.int (1 : Int32)), .val (.ref u_AND), .val (.ref u_AND), .val (.int (1 : Int32))] [(.int (1 : Int32))])
    exact Go.retZ X7 hx hlk Bd.returns (hb hby at_101) rfl (by rw [e7]; exact ⟨rfl, N7⟩) (by decide) (by decide)
  · rw [show ((k &&& (2147483647 : Int32)) % (14 : Int32)) = (2 : Int32) from hd1]
    show Go p e below s _ _ _ s₁ (mkF m 7 #[.val (.int k), .val (.long a), .second, .val (.long b), .second, .unset, .unset, .unset, .unset] [(.int (2 : Int32))])
    refine Go.st (fun _ => XS.istore X0.here hx rfl (hb hby at_7) rfl (l' := #[.val (.int k), .val (.long a), .second, .val (.long b), .second, .val (.int (2 : Int32)), .unset, .unset, .unset]) rfl) ?_
    show Go p e below s _ _ _ s₁ (mkF m 9 #[.val (.int k), .val (.long a), .second, .val (.long b), .second, .val (.int (2 : Int32)), .unset, .unset, .unset] [])
    refine Go.st (fun _ => XS.iload X0.here hx rfl (hb hby at_9) rfl) ?_
    show Go p e below s _ _ _ s₁ (mkF m 11 #[.val (.int k), .val (.long a), .second, .val (.long b), .second, .val (.int (2 : Int32)), .unset, .unset, .unset] [(.int (2 : Int32))])
    obtain ⟨_, _, ⟨T8, L8, kc8, nc8⟩, -, X8, ⟨Lc8, hQ8, l8, y8, z8⟩, st8⟩ := Jvm.LawKit.callS X0 hx (y := (⟨"com/example/moat/moat/xpath/OperatorFlippedPinLaw", "pick", "(I)Lcom/example/moat/moat/xpath/Operation$Operator;"⟩ : MethodName)) hown (mvT hZ (hw _ (List.mem_of_getElem? (i := 1) rfl))) (mvT hZ (hw _ (List.mem_of_getElem? (i := 2) rfl))) (mvT hZ (hw _ (List.mem_of_getElem? (i := 3) rfl))) (mvT hZ (hw _ (List.mem_of_getElem? (i := 4) rfl))) (by decide) (backOf (W := 0) (rmP2 l Z a0 hw [] u_EQUAL h0 n0 Z0 S_EQUAL) hZ (hw _ (List.mem_of_getElem? (i := 4) rfl)) (hw _ (List.mem_of_getElem? (i := 3) rfl)) (by decide) (by decide)) (g := (mkF m 11 #[.val (.int k), .val (.long a), .second, .val (.long b), .second, .val (.int (2 : Int32)), .unset, .unset, .unset] [(.int (2 : Int32))])) rfl (by rw [hml]; rfl) (argsL := [(.int (2 : Int32))]) (rest := []) (lenOf pd_0 rfl) rfl (by show 2 * 0 + _ ≤ _; exact Nat.le_of_eq rfl) (hb hby at_11) (fun _ _ => ⟨rfl, e0, (by decide : 0 + 0 ≤ _), (by decide : 0 + 0 ≤ _)⟩)
    dsimp only [Pt.U, Pt.locs, Pt.cells, Pt.slots] at X8 l8 y8 z8 st8 hQ8
    subst l8 y8 z8
    obtain ⟨h8, e8⟩ : ∃ hh, T8.heap = hh := ⟨_, rfl⟩
    rw [e8] at hQ8
    obtain ⟨rfl, N8q, sm8⟩ := hQ8
    have N8 := Fr.app N0 N8q
    refine Go.st st8 ?_
    rw [sm8] at e8
    show Go p e below s _ _ _ T8 (mkF m 14 #[.val (.int k), .val (.long a), .second, .val (.long b), .second, .val (.int (2 : Int32)), .unset, .unset, .unset] [(.ref u_EQUAL)])
    refine Go.st (fun _ => XS.astore X8.here hx rfl (hb hby at_14) rfl rfl (l' := #[.val (.int k), .val (.long a), .second, .val (.long b), .second, .val (.int (2 : Int32)), .val (.ref u_EQUAL), .unset, .unset]) rfl) ?_
    show Go p e below s _ _ _ T8 (mkF m 16 #[.val (.int k), .val (.long a), .second, .val (.long b), .second, .val (.int (2 : Int32)), .val (.ref u_EQUAL), .unset, .unset] [])
    refine Go.st (fun _ => XS.aload X8.here hx rfl (hb hby at_16) rfl rfl) ?_
    show Go p e below s _ _ _ T8 (mkF m 18 #[.val (.int k), .val (.long a), .second, .val (.long b), .second, .val (.int (2 : Int32)), .val (.ref u_EQUAL), .unset, .unset] [(.ref u_EQUAL)])
    obtain ⟨cq9, kq9, q9a, q9b, q9c⟩ := isOf hZ e8 E_u_EQUAL
    obtain ⟨_, _, ⟨T9, L9, kc9, nc9⟩, -, X9, ⟨Lc9, hQ9, l9, y9, z9⟩, st9⟩ := X8.virtualBack hx (y := (⟨"com/example/moat/moat/xpath/Operation$Operator", "flipped", "()Lcom/example/moat/moat/xpath/Operation$Operator;"⟩ : MethodName)) (z := (⟨"com/example/moat/moat/xpath/Operation$Operator", "flipped", "()Lcom/example/moat/moat/xpath/Operation$Operator;"⟩ : MethodName)) hown (mvT hZ (hw _ (List.mem_of_getElem? (i := 8) rfl))) (mvT hZ (hw _ (List.mem_of_getElem? (i := 9) rfl))) (notFace_of_selects (args := #[]) (mvT hZ (hw _ (List.mem_of_getElem? (i := 11) rfl)))) (mvT hZ (hw _ (List.mem_of_getElem? (i := 11) rfl))) (mvT hZ (hw _ (List.mem_of_getElem? (i := 10) rfl))) (by decide) (backOf (W := 0) (rmF2 l Z a0 hw [] u_EQUAL u_LESS u_LESS_OR_EQUAL u_GREATER u_GREATER_OR_EQUAL h0 n0 Z0 S_LESS S_LESS_OR_EQUAL S_GREATER S_GREATER_OR_EQUAL (Ne.symm ne_u_EQUAL_u_LESS) (Ne.symm ne_u_EQUAL_u_LESS_OR_EQUAL) (Ne.symm ne_u_EQUAL_u_GREATER) (Ne.symm ne_u_EQUAL_u_GREATER_OR_EQUAL)) hZ (hw _ (List.mem_of_getElem? (i := 12) rfl)) (hw _ (List.mem_of_getElem? (i := 6) rfl)) (by decide) (by decide)) q9a q9c (g := (mkF m 18 #[.val (.int k), .val (.long a), .second, .val (.long b), .second, .val (.int (2 : Int32)), .val (.ref u_EQUAL), .unset, .unset] [(.ref u_EQUAL)])) rfl (by rw [hml]; rfl) (Steps.refl _) (argsL := []) (rest := []) (lenOf pd_1 rfl) rfl (by show 2 * 0 + _ ≤ _; exact Nat.le_of_eq rfl) (hb hby at_18) (fun _ _ => ⟨rfl, e8, (by decide : 0 + 0 ≤ _), (by decide : 0 + 0 ≤ _)⟩)
    dsimp only [Pt.U, Pt.locs, Pt.cells, Pt.slots] at X9 l9 y9 z9 st9 hQ9
    subst l9 y9 z9
    obtain ⟨h9, e9⟩ : ∃ hh, T9.heap = hh := ⟨_, rfl⟩
    rw [e9] at hQ9
    obtain ⟨rfl, N9q, sm9⟩ := hQ9
    have N9 := Fr.app N8 N9q
    refine Go.st (fun _ kk => st9.trans kk) ?_
    rw [sm9] at e9
    show Go p e below s _ _ _ T9 (mkF m 21 #[.val (.int k), .val (.long a), .second, .val (.long b), .second, .val (.int (2 : Int32)), .val (.ref u_EQUAL), .unset, .unset] [(.ref u_EQUAL)])
    refine Go.st (fun _ => XS.astore X9.here hx rfl (hb hby at_21) rfl rfl (l' := #[.val (.int k), .val (.long a), .second, .val (.long b), .second, .val (.int (2 : Int32)), .val (.ref u_EQUAL), .val (.ref u_EQUAL), .unset]) rfl) ?_
    show Go p e below s _ _ _ T9 (mkF m 23 #[.val (.int k), .val (.long a), .second, .val (.long b), .second, .val (.int (2 : Int32)), .val (.ref u_EQUAL), .val (.ref u_EQUAL), .unset] [])
    refine Go.st (fun _ => XS.aload X9.here hx rfl (hb hby at_23) rfl rfl) ?_
    show Go p e below s _ _ _ T9 (mkF m 25 #[.val (.int k), .val (.long a), .second, .val (.long b), .second, .val (.int (2 : Int32)), .val (.ref u_EQUAL), .val (.ref u_EQUAL), .unset] [(.ref u_EQUAL)])
    obtain ⟨_, _, ⟨T10, L10, kc10, nc10⟩, -, X10, ⟨Lc10, hQ10, l10, y10, z10⟩, st10⟩ := Jvm.LawKit.callS X9 hx (y := (⟨"com/example/moat/moat/xpath/OperatorFlippedPinLaw", "index", "(Lcom/example/moat/moat/xpath/Operation$Operator;)I"⟩ : MethodName)) hown (mvT hZ (hw _ (List.mem_of_getElem? (i := 21) rfl))) (mvT hZ (hw _ (List.mem_of_getElem? (i := 22) rfl))) (mvT hZ (hw _ (List.mem_of_getElem? (i := 3) rfl))) (mvT hZ (hw _ (List.mem_of_getElem? (i := 23) rfl))) (by decide) (backOf (W := 0) (rmX2 l Z a0 hw [] u_EQUAL u_OR u_AND h0 n0 Z0 S_OR S_AND S_EQUAL ne_u_OR_u_EQUAL ne_u_AND_u_EQUAL) hZ (hw _ (List.mem_of_getElem? (i := 23) rfl)) (hw _ (List.mem_of_getElem? (i := 3) rfl)) (by decide) (by decide)) (g := (mkF m 25 #[.val (.int k), .val (.long a), .second, .val (.long b), .second, .val (.int (2 : Int32)), .val (.ref u_EQUAL), .val (.ref u_EQUAL), .unset] [(.ref u_EQUAL)])) rfl (by rw [hml]; rfl) (argsL := [(.ref u_EQUAL)]) (rest := []) (lenOf pd_2 rfl) rfl (by show 2 * 0 + _ ≤ _; exact Nat.le_of_eq rfl) (hb hby at_25) (fun _ _ => ⟨rfl, e9, (by decide : 0 + 0 ≤ _), (by decide : 0 + 0 ≤ _)⟩)
    dsimp only [Pt.U, Pt.locs, Pt.cells, Pt.slots] at X10 l10 y10 z10 st10 hQ10
    subst l10 y10 z10
    obtain ⟨h10, e10⟩ : ∃ hh, T10.heap = hh := ⟨_, rfl⟩
    rw [e10] at hQ10
    obtain ⟨rfl, N10q, sm10⟩ := hQ10
    have N10 := Fr.app N9 N10q
    refine Go.st st10 ?_
    rw [sm10] at e10
    show Go p e below s _ _ _ T10 (mkF m 28 #[.val (.int k), .val (.long a), .second, .val (.long b), .second, .val (.int (2 : Int32)), .val (.ref u_EQUAL), .val (.ref u_EQUAL), .unset] [(.int (2 : Int32))])
    refine Go.st (fun _ => XS.istore X10.here hx rfl (hb hby at_28) rfl (l' := #[.val (.int k), .val (.long a), .second, .val (.long b), .second, .val (.int (2 : Int32)), .val (.ref u_EQUAL), .val (.ref u_EQUAL), .val (.int (2 : Int32))]) rfl) ?_
    show Go p e below s _ _ _ T10 (mkF m 30 #[.val (.int k), .val (.long a), .second, .val (.long b), .second, .val (.int (2 : Int32)), .val (.ref u_EQUAL), .val (.ref u_EQUAL), .val (.int (2 : Int32))] [])
    refine Go.st (fun _ => XS.iload X10.here hx rfl (hb hby at_30) rfl) ?_
    show Go p e below s _ _ _ T10 (mkF m 32 #[.val (.int k), .val (.long a), .second, .val (.long b), .second, .val (.int (2 : Int32)), .val (.ref u_EQUAL), .val (.ref u_EQUAL), .val (.int (2 : Int32))] [(.int (2 : Int32))])
    refine Go.st (fun _ => XS.iconst X10.here hx rfl (hb hby at_32)) ?_
    show Go p e below s _ _ _ T10 (mkF m 33 #[.val (.int k), .val (.long a), .second, .val (.long b), .second, .val (.int (2 : Int32)), .val (.ref u_EQUAL), .val (.ref u_EQUAL), .val (.int (2 : Int32))] [(.int (2 : Int32)), (.int (2 : Int32))])
    refine Go.st (fun _ => XS.icmpNo X10.here hx rfl (hb hby at_33) rfl (flt (by decide : ¬ ((2 : Int32) < (2 : Int32)))).1) ?_
    show Go p e below s _ _ _ T10 (mkF m 36 #[.val (.int k), .val (.long a), .second, .val (.long b), .second, .val (.int (2 : Int32)), .val (.ref u_EQUAL), .val (.ref u_EQUAL), .val (.int (2 : Int32))] [])
    refine Go.st (fun _ => XS.iload X10.here hx rfl (hb hby at_36) rfl) ?_
    show Go p e below s _ _ _ T10 (mkF m 38 #[.val (.int k), .val (.long a), .second, .val (.long b), .second, .val (.int (2 : Int32)), .val (.ref u_EQUAL), .val (.ref u_EQUAL), .val (.int (2 : Int32))] [(.int (2 : Int32))])
    refine Go.st (fun _ => XS.bipush X10.here hx rfl (hb hby at_38)) ?_
    show Go p e below s _ _ _ T10 (mkF m 40 #[.val (.int k), .val (.long a), .second, .val (.long b), .second, .val (.int (2 : Int32)), .val (.ref u_EQUAL), .val (.ref u_EQUAL), .val (.int (2 : Int32))] [(.int (7 : Int32)), (.int (2 : Int32))])
    refine Go.st (fun _ => XS.icmpNo X10.here hx rfl (hb hby at_40) rfl (flt (by decide : ¬ ((7 : Int32) < (2 : Int32)))).2.2.1) ?_
    show Go p e below s _ _ _ T10 (mkF m 43 #[.val (.int k), .val (.long a), .second, .val (.long b), .second, .val (.int (2 : Int32)), .val (.ref u_EQUAL), .val (.ref u_EQUAL), .val (.int (2 : Int32))] [])
    refine Go.st (fun _ => XS.iload X10.here hx rfl (hb hby at_43) rfl) ?_
    show Go p e below s _ _ _ T10 (mkF m 45 #[.val (.int k), .val (.long a), .second, .val (.long b), .second, .val (.int (2 : Int32)), .val (.ref u_EQUAL), .val (.ref u_EQUAL), .val (.int (2 : Int32))] [(.int (2 : Int32))])
    refine Go.st (fun _ => XS.iconst X10.here hx rfl (hb hby at_45)) ?_
    show Go p e below s _ _ _ T10 (mkF m 46 #[.val (.int k), .val (.long a), .second, .val (.long b), .second, .val (.int (2 : Int32)), .val (.ref u_EQUAL), .val (.ref u_EQUAL), .val (.int (2 : Int32))] [(.int (2 : Int32)), (.int (2 : Int32))])
    refine Go.st (fun _ => XS.icmpNo X10.here hx rfl (hb hby at_46) rfl (flt (by decide : ¬ ((2 : Int32) < (2 : Int32)))).1) ?_
    show Go p e below s _ _ _ T10 (mkF m 49 #[.val (.int k), .val (.long a), .second, .val (.long b), .second, .val (.int (2 : Int32)), .val (.ref u_EQUAL), .val (.ref u_EQUAL), .val (.int (2 : Int32))] [])
    refine Go.st (fun _ => XS.iload X10.here hx rfl (hb hby at_49) rfl) ?_
    show Go p e below s _ _ _ T10 (mkF m 51 #[.val (.int k), .val (.long a), .second, .val (.long b), .second, .val (.int (2 : Int32)), .val (.ref u_EQUAL), .val (.ref u_EQUAL), .val (.int (2 : Int32))] [(.int (2 : Int32))])
    refine Go.st (fun _ => XS.bipush X10.here hx rfl (hb hby at_51)) ?_
    show Go p e below s _ _ _ T10 (mkF m 53 #[.val (.int k), .val (.long a), .second, .val (.long b), .second, .val (.int (2 : Int32)), .val (.ref u_EQUAL), .val (.ref u_EQUAL), .val (.int (2 : Int32))] [(.int (7 : Int32)), (.int (2 : Int32))])
    refine Go.st (fun _ => XS.icmpNo X10.here hx rfl (hb hby at_53) rfl (flt (by decide : ¬ ((7 : Int32) < (2 : Int32)))).2.2.1) ?_
    show Go p e below s _ _ _ T10 (mkF m 56 #[.val (.int k), .val (.long a), .second, .val (.long b), .second, .val (.int (2 : Int32)), .val (.ref u_EQUAL), .val (.ref u_EQUAL), .val (.int (2 : Int32))] [])
    refine Go.st (fun _ => XS.iload X10.here hx rfl (hb hby at_56) rfl) ?_
    show Go p e below s _ _ _ T10 (mkF m 58 #[.val (.int k), .val (.long a), .second, .val (.long b), .second, .val (.int (2 : Int32)), .val (.ref u_EQUAL), .val (.ref u_EQUAL), .val (.int (2 : Int32))] [(.int (2 : Int32))])
    refine Go.st (fun _ => XS.lloadN X10.here hx rfl (hb hby at_58) rfl) ?_
    show Go p e below s _ _ _ T10 (mkF m 59 #[.val (.int k), .val (.long a), .second, .val (.long b), .second, .val (.int (2 : Int32)), .val (.ref u_EQUAL), .val (.ref u_EQUAL), .val (.int (2 : Int32))] [(.long a), (.int (2 : Int32))])
    refine Go.st (fun _ => XS.lloadN X10.here hx rfl (hb hby at_59) rfl) ?_
    show Go p e below s _ _ _ T10 (mkF m 60 #[.val (.int k), .val (.long a), .second, .val (.long b), .second, .val (.int (2 : Int32)), .val (.ref u_EQUAL), .val (.ref u_EQUAL), .val (.int (2 : Int32))] [(.long b), (.long a), (.int (2 : Int32))])
    obtain ⟨_, _, ⟨T11, L11, kc11, nc11⟩, -, X11, ⟨Lc11, hQ11, l11, y11, z11⟩, st11⟩ := Jvm.LawKit.callS X10 hx (y := (⟨"com/example/moat/moat/xpath/OperatorFlippedPinLaw", "holds", "(IJJ)Z"⟩ : MethodName)) hown (mvT hZ (hw _ (List.mem_of_getElem? (i := 33) rfl))) (mvT hZ (hw _ (List.mem_of_getElem? (i := 34) rfl))) (mvT hZ (hw _ (List.mem_of_getElem? (i := 3) rfl))) (mvT hZ (hw _ (List.mem_of_getElem? (i := 35) rfl))) (by decide) (backOf (W := 0) (rmH2 l Z a0 hw [] a b h0 n0 Z0 ) hZ (hw _ (List.mem_of_getElem? (i := 35) rfl)) (hw _ (List.mem_of_getElem? (i := 3) rfl)) (by decide) (by decide)) (g := (mkF m 60 #[.val (.int k), .val (.long a), .second, .val (.long b), .second, .val (.int (2 : Int32)), .val (.ref u_EQUAL), .val (.ref u_EQUAL), .val (.int (2 : Int32))] [(.long b), (.long a), (.int (2 : Int32))])) rfl (by rw [hml]; rfl) (argsL := [(.int (2 : Int32)), (.long a), (.long b)]) (rest := []) (lenOf pd_3 rfl) rfl (by show 2 * 0 + _ ≤ _; exact Nat.le_of_eq rfl) (hb hby at_60) (fun _ _ => ⟨rfl, e10, (by decide : 0 + 0 ≤ _), (by decide : 0 + 0 ≤ _)⟩)
    dsimp only [Pt.U, Pt.locs, Pt.cells, Pt.slots] at X11 l11 y11 z11 st11 hQ11
    subst l11 y11 z11
    obtain ⟨h11, e11⟩ : ∃ hh, T11.heap = hh := ⟨_, rfl⟩
    rw [e11] at hQ11
    obtain ⟨rfl, N11q, sm11⟩ := hQ11
    have N11 := Fr.app N10 N11q
    refine Go.st st11 ?_
    rw [sm11] at e11
    show Go p e below s _ _ _ T11 (mkF m 63 #[.val (.int k), .val (.long a), .second, .val (.long b), .second, .val (.int (2 : Int32)), .val (.ref u_EQUAL), .val (.ref u_EQUAL), .val (.int (2 : Int32))] [(.int (b2i (a = b)))])
    by_cases hc12 : a = b
    · rw [show (b2i (a = b)) = (1 : Int32) from b2i_pos hc12]
      show Go p e below s _ _ _ T11 (mkF m 63 #[.val (.int k), .val (.long a), .second, .val (.long b), .second, .val (.int (2 : Int32)), .val (.ref u_EQUAL), .val (.ref u_EQUAL), .val (.int (2 : Int32))] [(.int (1 : Int32))])
      refine Go.st (fun _ => XS.iload X11.here hx rfl (hb hby at_63) rfl) ?_
      show Go p e below s _ _ _ T11 (mkF m 65 #[.val (.int k), .val (.long a), .second, .val (.long b), .second, .val (.int (2 : Int32)), .val (.ref u_EQUAL), .val (.ref u_EQUAL), .val (.int (2 : Int32))] [(.int (2 : Int32)), (.int (1 : Int32))])
      refine Go.st (fun _ => XS.lloadN X11.here hx rfl (hb hby at_65) rfl) ?_
      show Go p e below s _ _ _ T11 (mkF m 66 #[.val (.int k), .val (.long a), .second, .val (.long b), .second, .val (.int (2 : Int32)), .val (.ref u_EQUAL), .val (.ref u_EQUAL), .val (.int (2 : Int32))] [(.long b), (.int (2 : Int32)), (.int (1 : Int32))])
      refine Go.st (fun _ => XS.lloadN X11.here hx rfl (hb hby at_66) rfl) ?_
      show Go p e below s _ _ _ T11 (mkF m 67 #[.val (.int k), .val (.long a), .second, .val (.long b), .second, .val (.int (2 : Int32)), .val (.ref u_EQUAL), .val (.ref u_EQUAL), .val (.int (2 : Int32))] [(.long a), (.long b), (.int (2 : Int32)), (.int (1 : Int32))])
      obtain ⟨_, _, ⟨T13, L13, kc13, nc13⟩, -, X13, ⟨Lc13, hQ13, l13, y13, z13⟩, st13⟩ := Jvm.LawKit.callS X11 hx (y := (⟨"com/example/moat/moat/xpath/OperatorFlippedPinLaw", "holds", "(IJJ)Z"⟩ : MethodName)) hown (mvT hZ (hw _ (List.mem_of_getElem? (i := 33) rfl))) (mvT hZ (hw _ (List.mem_of_getElem? (i := 34) rfl))) (mvT hZ (hw _ (List.mem_of_getElem? (i := 3) rfl))) (mvT hZ (hw _ (List.mem_of_getElem? (i := 35) rfl))) (by decide) (backOf (W := 1) (rmH2 l Z a0 hw [] b a h0 n0 Z0 ) hZ (hw _ (List.mem_of_getElem? (i := 35) rfl)) (hw _ (List.mem_of_getElem? (i := 3) rfl)) (by decide) (by decide)) (g := (mkF m 67 #[.val (.int k), .val (.long a), .second, .val (.long b), .second, .val (.int (2 : Int32)), .val (.ref u_EQUAL), .val (.ref u_EQUAL), .val (.int (2 : Int32))] [(.long a), (.long b), (.int (2 : Int32)), (.int (1 : Int32))])) rfl (by rw [hml]; rfl) (argsL := [(.int (2 : Int32)), (.long b), (.long a)]) (rest := [(.int (1 : Int32))]) (lenOf pd_3 rfl) rfl (by show 2 * 0 + _ ≤ _; exact Nat.le_of_eq rfl) (hb hby at_67) (fun _ _ => ⟨rfl, e11, (by decide : 0 + 0 ≤ _), (by decide : 0 + 0 ≤ _)⟩)
      dsimp only [Pt.U, Pt.locs, Pt.cells, Pt.slots] at X13 l13 y13 z13 st13 hQ13
      subst l13 y13 z13
      obtain ⟨h13, e13⟩ : ∃ hh, T13.heap = hh := ⟨_, rfl⟩
      rw [e13] at hQ13
      obtain ⟨rfl, N13q, sm13⟩ := hQ13
      have N13 := Fr.app N11 N13q
      refine Go.st st13 ?_
      rw [sm13] at e13
      show Go p e below s _ _ _ T13 (mkF m 70 #[.val (.int k), .val (.long a), .second, .val (.long b), .second, .val (.int (2 : Int32)), .val (.ref u_EQUAL), .val (.ref u_EQUAL), .val (.int (2 : Int32))] [(.int (b2i (b = a))), (.int (1 : Int32))])
      rw [show (b2i (b = a)) = (1 : Int32) from b2i_pos (Eq.symm hc12)]
      show Go p e below s _ _ _ T13 (mkF m 70 #[.val (.int k), .val (.long a), .second, .val (.long b), .second, .val (.int (2 : Int32)), .val (.ref u_EQUAL), .val (.ref u_EQUAL), .val (.int (2 : Int32))] [(.int (1 : Int32)), (.int (1 : Int32))])
      refine Go.st (fun _ => XS.icmpNo X13.here hx rfl (hb hby at_70) rfl (teq (by decide : (1 : Int32) = (1 : Int32))).2) ?_
      show Go p e below s _ _ _ T13 (mkF m 73 #[.val (.int k), .val (.long a), .second, .val (.long b), .second, .val (.int (2 : Int32)), .val (.ref u_EQUAL), .val (.ref u_EQUAL), .val (.int (2 : Int32))] [])
      refine Go.st (fun _ => XS.aload X13.here hx rfl (hb hby at_73) rfl rfl) ?_
      show Go p e below s _ _ _ T13 (mkF m 75 #[.val (.int k), .val (.long a), .second, .val (.long b), .second, .val (.int (2 : Int32)), .val (.ref u_EQUAL), .val (.ref u_EQUAL), .val (.int (2 : Int32))] [(.ref u_EQUAL)])
      obtain ⟨cq14, kq14, q14a, q14b, q14c⟩ := isOf hZ e13 E_u_EQUAL
      obtain ⟨_, _, ⟨T14, L14, kc14, nc14⟩, -, X14, ⟨Lc14, hQ14, l14, y14, z14⟩, st14⟩ := X13.virtualBack hx (y := (⟨"com/example/moat/moat/xpath/Operation$Operator", "flipped", "()Lcom/example/moat/moat/xpath/Operation$Operator;"⟩ : MethodName)) (z := (⟨"com/example/moat/moat/xpath/Operation$Operator", "flipped", "()Lcom/example/moat/moat/xpath/Operation$Operator;"⟩ : MethodName)) hown (mvT hZ (hw _ (List.mem_of_getElem? (i := 8) rfl))) (mvT hZ (hw _ (List.mem_of_getElem? (i := 9) rfl))) (notFace_of_selects (args := #[]) (mvT hZ (hw _ (List.mem_of_getElem? (i := 11) rfl)))) (mvT hZ (hw _ (List.mem_of_getElem? (i := 11) rfl))) (mvT hZ (hw _ (List.mem_of_getElem? (i := 10) rfl))) (by decide) (backOf (W := 0) (rmF2 l Z a0 hw [] u_EQUAL u_LESS u_LESS_OR_EQUAL u_GREATER u_GREATER_OR_EQUAL h0 n0 Z0 S_LESS S_LESS_OR_EQUAL S_GREATER S_GREATER_OR_EQUAL (Ne.symm ne_u_EQUAL_u_LESS) (Ne.symm ne_u_EQUAL_u_LESS_OR_EQUAL) (Ne.symm ne_u_EQUAL_u_GREATER) (Ne.symm ne_u_EQUAL_u_GREATER_OR_EQUAL)) hZ (hw _ (List.mem_of_getElem? (i := 12) rfl)) (hw _ (List.mem_of_getElem? (i := 6) rfl)) (by decide) (by decide)) q14a q14c (g := (mkF m 75 #[.val (.int k), .val (.long a), .second, .val (.long b), .second, .val (.int (2 : Int32)), .val (.ref u_EQUAL), .val (.ref u_EQUAL), .val (.int (2 : Int32))] [(.ref u_EQUAL)])) rfl (by rw [hml]; rfl) (Steps.refl _) (argsL := []) (rest := []) (lenOf pd_1 rfl) rfl (by show 2 * 0 + _ ≤ _; exact Nat.le_of_eq rfl) (hb hby at_75) (fun _ _ => ⟨rfl, e13, (by decide : 0 + 0 ≤ _), (by decide : 0 + 0 ≤ _)⟩)
      dsimp only [Pt.U, Pt.locs, Pt.cells, Pt.slots] at X14 l14 y14 z14 st14 hQ14
      subst l14 y14 z14
      obtain ⟨h14, e14⟩ : ∃ hh, T14.heap = hh := ⟨_, rfl⟩
      rw [e14] at hQ14
      obtain ⟨rfl, N14q, sm14⟩ := hQ14
      have N14 := Fr.app N13 N14q
      refine Go.st (fun _ kk => st14.trans kk) ?_
      rw [sm14] at e14
      show Go p e below s _ _ _ T14 (mkF m 78 #[.val (.int k), .val (.long a), .second, .val (.long b), .second, .val (.int (2 : Int32)), .val (.ref u_EQUAL), .val (.ref u_EQUAL), .val (.int (2 : Int32))] [(.ref u_EQUAL)])
      refine Go.st (fun _ => XS.aload X14.here hx rfl (hb hby at_78) rfl rfl) ?_
      show Go p e below s _ _ _ T14 (mkF m 80 #[.val (.int k), .val (.long a), .second, .val (.long b), .second, .val (.int (2 : Int32)), .val (.ref u_EQUAL), .val (.ref u_EQUAL), .val (.int (2 : Int32))] [(.ref u_EQUAL), (.ref u_EQUAL)])
      refine Go.st (fun _ => Jvm.RoadKit.acmp (g := (mkF m 80 #[.val (.int k), .val (.long a), .second, .val (.long b), .second, .val (.int (2 : Int32)), .val (.ref u_EQUAL), .val (.ref u_EQUAL), .val (.int (2 : Int32))] [(.ref u_EQUAL), (.ref u_EQUAL)])) X14 hx rfl rfl rfl (pc0 := 80) (pc' := 83) (same := true) rfl (hb hby at_80) rfl (decide_eq_true rfl) (by decide) (by decide)) ?_
      show Go p e below s _ _ _ T14 (mkF m 83 #[.val (.int k), .val (.long a), .second, .val (.long b), .second, .val (.int (2 : Int32)), .val (.ref u_EQUAL), .val (.ref u_EQUAL), .val (.int (2 : Int32))] [])
      refine Go.st (fun _ => XS.iconst X14.here hx rfl (hb hby at_83)) ?_
      show Go p e below s _ _ _ T14 (mkF m 84 #[.val (.int k), .val (.long a), .second, .val (.long b), .second, .val (.int (2 : Int32)), .val (.ref u_EQUAL), .val (.ref u_EQUAL), .val (.int (2 : Int32))] [(.int (1 : Int32))])
      refine Go.st (fun _ => XS.goto X14.here hx rfl (pc0 := 84) (pc' := 88) rfl (hb hby at_84) (by decide) (by decide)) ?_
      show Go p e below s _ _ _ T14 (mkF m 88 #[.val (.int k), .val (.long a), .second, .val (.long b), .second, .val (.int (2 : Int32)), .val (.ref u_EQUAL), .val (.ref u_EQUAL), .val (.int (2 : Int32))] [(.int (1 : Int32))])
      exact Go.retZ X14 hx hlk Bd.returns (hb hby at_88) rfl (by rw [e14]; exact ⟨rfl, N14⟩) (by decide) (by decide)
    · rw [show (b2i (a = b)) = (0 : Int32) from b2i_neg hc12]
      show Go p e below s _ _ _ T11 (mkF m 63 #[.val (.int k), .val (.long a), .second, .val (.long b), .second, .val (.int (2 : Int32)), .val (.ref u_EQUAL), .val (.ref u_EQUAL), .val (.int (2 : Int32))] [(.int (0 : Int32))])
      refine Go.st (fun _ => XS.iload X11.here hx rfl (hb hby at_63) rfl) ?_
      show Go p e below s _ _ _ T11 (mkF m 65 #[.val (.int k), .val (.long a), .second, .val (.long b), .second, .val (.int (2 : Int32)), .val (.ref u_EQUAL), .val (.ref u_EQUAL), .val (.int (2 : Int32))] [(.int (2 : Int32)), (.int (0 : Int32))])
      refine Go.st (fun _ => XS.lloadN X11.here hx rfl (hb hby at_65) rfl) ?_
      show Go p e below s _ _ _ T11 (mkF m 66 #[.val (.int k), .val (.long a), .second, .val (.long b), .second, .val (.int (2 : Int32)), .val (.ref u_EQUAL), .val (.ref u_EQUAL), .val (.int (2 : Int32))] [(.long b), (.int (2 : Int32)), (.int (0 : Int32))])
      refine Go.st (fun _ => XS.lloadN X11.here hx rfl (hb hby at_66) rfl) ?_
      show Go p e below s _ _ _ T11 (mkF m 67 #[.val (.int k), .val (.long a), .second, .val (.long b), .second, .val (.int (2 : Int32)), .val (.ref u_EQUAL), .val (.ref u_EQUAL), .val (.int (2 : Int32))] [(.long a), (.long b), (.int (2 : Int32)), (.int (0 : Int32))])
      obtain ⟨_, _, ⟨T15, L15, kc15, nc15⟩, -, X15, ⟨Lc15, hQ15, l15, y15, z15⟩, st15⟩ := Jvm.LawKit.callS X11 hx (y := (⟨"com/example/moat/moat/xpath/OperatorFlippedPinLaw", "holds", "(IJJ)Z"⟩ : MethodName)) hown (mvT hZ (hw _ (List.mem_of_getElem? (i := 33) rfl))) (mvT hZ (hw _ (List.mem_of_getElem? (i := 34) rfl))) (mvT hZ (hw _ (List.mem_of_getElem? (i := 3) rfl))) (mvT hZ (hw _ (List.mem_of_getElem? (i := 35) rfl))) (by decide) (backOf (W := 1) (rmH2 l Z a0 hw [] b a h0 n0 Z0 ) hZ (hw _ (List.mem_of_getElem? (i := 35) rfl)) (hw _ (List.mem_of_getElem? (i := 3) rfl)) (by decide) (by decide)) (g := (mkF m 67 #[.val (.int k), .val (.long a), .second, .val (.long b), .second, .val (.int (2 : Int32)), .val (.ref u_EQUAL), .val (.ref u_EQUAL), .val (.int (2 : Int32))] [(.long a), (.long b), (.int (2 : Int32)), (.int (0 : Int32))])) rfl (by rw [hml]; rfl) (argsL := [(.int (2 : Int32)), (.long b), (.long a)]) (rest := [(.int (0 : Int32))]) (lenOf pd_3 rfl) rfl (by show 2 * 0 + _ ≤ _; exact Nat.le_of_eq rfl) (hb hby at_67) (fun _ _ => ⟨rfl, e11, (by decide : 0 + 0 ≤ _), (by decide : 0 + 0 ≤ _)⟩)
      dsimp only [Pt.U, Pt.locs, Pt.cells, Pt.slots] at X15 l15 y15 z15 st15 hQ15
      subst l15 y15 z15
      obtain ⟨h15, e15⟩ : ∃ hh, T15.heap = hh := ⟨_, rfl⟩
      rw [e15] at hQ15
      obtain ⟨rfl, N15q, sm15⟩ := hQ15
      have N15 := Fr.app N11 N15q
      refine Go.st st15 ?_
      rw [sm15] at e15
      show Go p e below s _ _ _ T15 (mkF m 70 #[.val (.int k), .val (.long a), .second, .val (.long b), .second, .val (.int (2 : Int32)), .val (.ref u_EQUAL), .val (.ref u_EQUAL), .val (.int (2 : Int32))] [(.int (b2i (b = a))), (.int (0 : Int32))])
      rw [show (b2i (b = a)) = (0 : Int32) from b2i_neg (fun qq => hc12 (Eq.symm qq))]
      show Go p e below s _ _ _ T15 (mkF m 70 #[.val (.int k), .val (.long a), .second, .val (.long b), .second, .val (.int (2 : Int32)), .val (.ref u_EQUAL), .val (.ref u_EQUAL), .val (.int (2 : Int32))] [(.int (0 : Int32)), (.int (0 : Int32))])
      refine Go.st (fun _ => XS.icmpNo X15.here hx rfl (hb hby at_70) rfl (teq (by decide : (0 : Int32) = (0 : Int32))).2) ?_
      show Go p e below s _ _ _ T15 (mkF m 73 #[.val (.int k), .val (.long a), .second, .val (.long b), .second, .val (.int (2 : Int32)), .val (.ref u_EQUAL), .val (.ref u_EQUAL), .val (.int (2 : Int32))] [])
      refine Go.st (fun _ => XS.aload X15.here hx rfl (hb hby at_73) rfl rfl) ?_
      show Go p e below s _ _ _ T15 (mkF m 75 #[.val (.int k), .val (.long a), .second, .val (.long b), .second, .val (.int (2 : Int32)), .val (.ref u_EQUAL), .val (.ref u_EQUAL), .val (.int (2 : Int32))] [(.ref u_EQUAL)])
      obtain ⟨cq16, kq16, q16a, q16b, q16c⟩ := isOf hZ e15 E_u_EQUAL
      obtain ⟨_, _, ⟨T16, L16, kc16, nc16⟩, -, X16, ⟨Lc16, hQ16, l16, y16, z16⟩, st16⟩ := X15.virtualBack hx (y := (⟨"com/example/moat/moat/xpath/Operation$Operator", "flipped", "()Lcom/example/moat/moat/xpath/Operation$Operator;"⟩ : MethodName)) (z := (⟨"com/example/moat/moat/xpath/Operation$Operator", "flipped", "()Lcom/example/moat/moat/xpath/Operation$Operator;"⟩ : MethodName)) hown (mvT hZ (hw _ (List.mem_of_getElem? (i := 8) rfl))) (mvT hZ (hw _ (List.mem_of_getElem? (i := 9) rfl))) (notFace_of_selects (args := #[]) (mvT hZ (hw _ (List.mem_of_getElem? (i := 11) rfl)))) (mvT hZ (hw _ (List.mem_of_getElem? (i := 11) rfl))) (mvT hZ (hw _ (List.mem_of_getElem? (i := 10) rfl))) (by decide) (backOf (W := 0) (rmF2 l Z a0 hw [] u_EQUAL u_LESS u_LESS_OR_EQUAL u_GREATER u_GREATER_OR_EQUAL h0 n0 Z0 S_LESS S_LESS_OR_EQUAL S_GREATER S_GREATER_OR_EQUAL (Ne.symm ne_u_EQUAL_u_LESS) (Ne.symm ne_u_EQUAL_u_LESS_OR_EQUAL) (Ne.symm ne_u_EQUAL_u_GREATER) (Ne.symm ne_u_EQUAL_u_GREATER_OR_EQUAL)) hZ (hw _ (List.mem_of_getElem? (i := 12) rfl)) (hw _ (List.mem_of_getElem? (i := 6) rfl)) (by decide) (by decide)) q16a q16c (g := (mkF m 75 #[.val (.int k), .val (.long a), .second, .val (.long b), .second, .val (.int (2 : Int32)), .val (.ref u_EQUAL), .val (.ref u_EQUAL), .val (.int (2 : Int32))] [(.ref u_EQUAL)])) rfl (by rw [hml]; rfl) (Steps.refl _) (argsL := []) (rest := []) (lenOf pd_1 rfl) rfl (by show 2 * 0 + _ ≤ _; exact Nat.le_of_eq rfl) (hb hby at_75) (fun _ _ => ⟨rfl, e15, (by decide : 0 + 0 ≤ _), (by decide : 0 + 0 ≤ _)⟩)
      dsimp only [Pt.U, Pt.locs, Pt.cells, Pt.slots] at X16 l16 y16 z16 st16 hQ16
      subst l16 y16 z16
      obtain ⟨h16, e16⟩ : ∃ hh, T16.heap = hh := ⟨_, rfl⟩
      rw [e16] at hQ16
      obtain ⟨rfl, N16q, sm16⟩ := hQ16
      have N16 := Fr.app N15 N16q
      refine Go.st (fun _ kk => st16.trans kk) ?_
      rw [sm16] at e16
      show Go p e below s _ _ _ T16 (mkF m 78 #[.val (.int k), .val (.long a), .second, .val (.long b), .second, .val (.int (2 : Int32)), .val (.ref u_EQUAL), .val (.ref u_EQUAL), .val (.int (2 : Int32))] [(.ref u_EQUAL)])
      refine Go.st (fun _ => XS.aload X16.here hx rfl (hb hby at_78) rfl rfl) ?_
      show Go p e below s _ _ _ T16 (mkF m 80 #[.val (.int k), .val (.long a), .second, .val (.long b), .second, .val (.int (2 : Int32)), .val (.ref u_EQUAL), .val (.ref u_EQUAL), .val (.int (2 : Int32))] [(.ref u_EQUAL), (.ref u_EQUAL)])
      refine Go.st (fun _ => Jvm.RoadKit.acmp (g := (mkF m 80 #[.val (.int k), .val (.long a), .second, .val (.long b), .second, .val (.int (2 : Int32)), .val (.ref u_EQUAL), .val (.ref u_EQUAL), .val (.int (2 : Int32))] [(.ref u_EQUAL), (.ref u_EQUAL)])) X16 hx rfl rfl rfl (pc0 := 80) (pc' := 83) (same := true) rfl (hb hby at_80) rfl (decide_eq_true rfl) (by decide) (by decide)) ?_
      show Go p e below s _ _ _ T16 (mkF m 83 #[.val (.int k), .val (.long a), .second, .val (.long b), .second, .val (.int (2 : Int32)), .val (.ref u_EQUAL), .val (.ref u_EQUAL), .val (.int (2 : Int32))] [])
      refine Go.st (fun _ => XS.iconst X16.here hx rfl (hb hby at_83)) ?_
      show Go p e below s _ _ _ T16 (mkF m 84 #[.val (.int k), .val (.long a), .second, .val (.long b), .second, .val (.int (2 : Int32)), .val (.ref u_EQUAL), .val (.ref u_EQUAL), .val (.int (2 : Int32))] [(.int (1 : Int32))])
      refine Go.st (fun _ => XS.goto X16.here hx rfl (pc0 := 84) (pc' := 88) rfl (hb hby at_84) (by decide) (by decide)) ?_
      show Go p e below s _ _ _ T16 (mkF m 88 #[.val (.int k), .val (.long a), .second, .val (.long b), .second, .val (.int (2 : Int32)), .val (.ref u_EQUAL), .val (.ref u_EQUAL), .val (.int (2 : Int32))] [(.int (1 : Int32))])
      exact Go.retZ X16 hx hlk Bd.returns (hb hby at_88) rfl (by rw [e16]; exact ⟨rfl, N16⟩) (by decide) (by decide)
  · rw [show ((k &&& (2147483647 : Int32)) % (14 : Int32)) = (3 : Int32) from hd1]
    show Go p e below s _ _ _ s₁ (mkF m 7 #[.val (.int k), .val (.long a), .second, .val (.long b), .second, .unset, .unset, .unset, .unset] [(.int (3 : Int32))])
    refine Go.st (fun _ => XS.istore X0.here hx rfl (hb hby at_7) rfl (l' := #[.val (.int k), .val (.long a), .second, .val (.long b), .second, .val (.int (3 : Int32)), .unset, .unset, .unset]) rfl) ?_
    show Go p e below s _ _ _ s₁ (mkF m 9 #[.val (.int k), .val (.long a), .second, .val (.long b), .second, .val (.int (3 : Int32)), .unset, .unset, .unset] [])
    refine Go.st (fun _ => XS.iload X0.here hx rfl (hb hby at_9) rfl) ?_
    show Go p e below s _ _ _ s₁ (mkF m 11 #[.val (.int k), .val (.long a), .second, .val (.long b), .second, .val (.int (3 : Int32)), .unset, .unset, .unset] [(.int (3 : Int32))])
    obtain ⟨_, _, ⟨T17, L17, kc17, nc17⟩, -, X17, ⟨Lc17, hQ17, l17, y17, z17⟩, st17⟩ := Jvm.LawKit.callS X0 hx (y := (⟨"com/example/moat/moat/xpath/OperatorFlippedPinLaw", "pick", "(I)Lcom/example/moat/moat/xpath/Operation$Operator;"⟩ : MethodName)) hown (mvT hZ (hw _ (List.mem_of_getElem? (i := 1) rfl))) (mvT hZ (hw _ (List.mem_of_getElem? (i := 2) rfl))) (mvT hZ (hw _ (List.mem_of_getElem? (i := 3) rfl))) (mvT hZ (hw _ (List.mem_of_getElem? (i := 4) rfl))) (by decide) (backOf (W := 0) (rmP3 l Z a0 hw [] u_NOT_EQUAL h0 n0 Z0 S_NOT_EQUAL) hZ (hw _ (List.mem_of_getElem? (i := 4) rfl)) (hw _ (List.mem_of_getElem? (i := 3) rfl)) (by decide) (by decide)) (g := (mkF m 11 #[.val (.int k), .val (.long a), .second, .val (.long b), .second, .val (.int (3 : Int32)), .unset, .unset, .unset] [(.int (3 : Int32))])) rfl (by rw [hml]; rfl) (argsL := [(.int (3 : Int32))]) (rest := []) (lenOf pd_0 rfl) rfl (by show 2 * 0 + _ ≤ _; exact Nat.le_of_eq rfl) (hb hby at_11) (fun _ _ => ⟨rfl, e0, (by decide : 0 + 0 ≤ _), (by decide : 0 + 0 ≤ _)⟩)
    dsimp only [Pt.U, Pt.locs, Pt.cells, Pt.slots] at X17 l17 y17 z17 st17 hQ17
    subst l17 y17 z17
    obtain ⟨h17, e17⟩ : ∃ hh, T17.heap = hh := ⟨_, rfl⟩
    rw [e17] at hQ17
    obtain ⟨rfl, N17q, sm17⟩ := hQ17
    have N17 := Fr.app N0 N17q
    refine Go.st st17 ?_
    rw [sm17] at e17
    show Go p e below s _ _ _ T17 (mkF m 14 #[.val (.int k), .val (.long a), .second, .val (.long b), .second, .val (.int (3 : Int32)), .unset, .unset, .unset] [(.ref u_NOT_EQUAL)])
    refine Go.st (fun _ => XS.astore X17.here hx rfl (hb hby at_14) rfl rfl (l' := #[.val (.int k), .val (.long a), .second, .val (.long b), .second, .val (.int (3 : Int32)), .val (.ref u_NOT_EQUAL), .unset, .unset]) rfl) ?_
    show Go p e below s _ _ _ T17 (mkF m 16 #[.val (.int k), .val (.long a), .second, .val (.long b), .second, .val (.int (3 : Int32)), .val (.ref u_NOT_EQUAL), .unset, .unset] [])
    refine Go.st (fun _ => XS.aload X17.here hx rfl (hb hby at_16) rfl rfl) ?_
    show Go p e below s _ _ _ T17 (mkF m 18 #[.val (.int k), .val (.long a), .second, .val (.long b), .second, .val (.int (3 : Int32)), .val (.ref u_NOT_EQUAL), .unset, .unset] [(.ref u_NOT_EQUAL)])
    obtain ⟨cq18, kq18, q18a, q18b, q18c⟩ := isOf hZ e17 E_u_NOT_EQUAL
    obtain ⟨_, _, ⟨T18, L18, kc18, nc18⟩, -, X18, ⟨Lc18, hQ18, l18, y18, z18⟩, st18⟩ := X17.virtualBack hx (y := (⟨"com/example/moat/moat/xpath/Operation$Operator", "flipped", "()Lcom/example/moat/moat/xpath/Operation$Operator;"⟩ : MethodName)) (z := (⟨"com/example/moat/moat/xpath/Operation$Operator", "flipped", "()Lcom/example/moat/moat/xpath/Operation$Operator;"⟩ : MethodName)) hown (mvT hZ (hw _ (List.mem_of_getElem? (i := 8) rfl))) (mvT hZ (hw _ (List.mem_of_getElem? (i := 9) rfl))) (notFace_of_selects (args := #[]) (mvT hZ (hw _ (List.mem_of_getElem? (i := 11) rfl)))) (mvT hZ (hw _ (List.mem_of_getElem? (i := 11) rfl))) (mvT hZ (hw _ (List.mem_of_getElem? (i := 10) rfl))) (by decide) (backOf (W := 0) (rmF3 l Z a0 hw [] u_NOT_EQUAL u_LESS u_LESS_OR_EQUAL u_GREATER u_GREATER_OR_EQUAL h0 n0 Z0 S_LESS S_LESS_OR_EQUAL S_GREATER S_GREATER_OR_EQUAL (Ne.symm ne_u_NOT_EQUAL_u_LESS) (Ne.symm ne_u_NOT_EQUAL_u_LESS_OR_EQUAL) (Ne.symm ne_u_NOT_EQUAL_u_GREATER) (Ne.symm ne_u_NOT_EQUAL_u_GREATER_OR_EQUAL)) hZ (hw _ (List.mem_of_getElem? (i := 12) rfl)) (hw _ (List.mem_of_getElem? (i := 6) rfl)) (by decide) (by decide)) q18a q18c (g := (mkF m 18 #[.val (.int k), .val (.long a), .second, .val (.long b), .second, .val (.int (3 : Int32)), .val (.ref u_NOT_EQUAL), .unset, .unset] [(.ref u_NOT_EQUAL)])) rfl (by rw [hml]; rfl) (Steps.refl _) (argsL := []) (rest := []) (lenOf pd_1 rfl) rfl (by show 2 * 0 + _ ≤ _; exact Nat.le_of_eq rfl) (hb hby at_18) (fun _ _ => ⟨rfl, e17, (by decide : 0 + 0 ≤ _), (by decide : 0 + 0 ≤ _)⟩)
    dsimp only [Pt.U, Pt.locs, Pt.cells, Pt.slots] at X18 l18 y18 z18 st18 hQ18
    subst l18 y18 z18
    obtain ⟨h18, e18⟩ : ∃ hh, T18.heap = hh := ⟨_, rfl⟩
    rw [e18] at hQ18
    obtain ⟨rfl, N18q, sm18⟩ := hQ18
    have N18 := Fr.app N17 N18q
    refine Go.st (fun _ kk => st18.trans kk) ?_
    rw [sm18] at e18
    show Go p e below s _ _ _ T18 (mkF m 21 #[.val (.int k), .val (.long a), .second, .val (.long b), .second, .val (.int (3 : Int32)), .val (.ref u_NOT_EQUAL), .unset, .unset] [(.ref u_NOT_EQUAL)])
    refine Go.st (fun _ => XS.astore X18.here hx rfl (hb hby at_21) rfl rfl (l' := #[.val (.int k), .val (.long a), .second, .val (.long b), .second, .val (.int (3 : Int32)), .val (.ref u_NOT_EQUAL), .val (.ref u_NOT_EQUAL), .unset]) rfl) ?_
    show Go p e below s _ _ _ T18 (mkF m 23 #[.val (.int k), .val (.long a), .second, .val (.long b), .second, .val (.int (3 : Int32)), .val (.ref u_NOT_EQUAL), .val (.ref u_NOT_EQUAL), .unset] [])
    refine Go.st (fun _ => XS.aload X18.here hx rfl (hb hby at_23) rfl rfl) ?_
    show Go p e below s _ _ _ T18 (mkF m 25 #[.val (.int k), .val (.long a), .second, .val (.long b), .second, .val (.int (3 : Int32)), .val (.ref u_NOT_EQUAL), .val (.ref u_NOT_EQUAL), .unset] [(.ref u_NOT_EQUAL)])
    obtain ⟨_, _, ⟨T19, L19, kc19, nc19⟩, -, X19, ⟨Lc19, hQ19, l19, y19, z19⟩, st19⟩ := Jvm.LawKit.callS X18 hx (y := (⟨"com/example/moat/moat/xpath/OperatorFlippedPinLaw", "index", "(Lcom/example/moat/moat/xpath/Operation$Operator;)I"⟩ : MethodName)) hown (mvT hZ (hw _ (List.mem_of_getElem? (i := 21) rfl))) (mvT hZ (hw _ (List.mem_of_getElem? (i := 22) rfl))) (mvT hZ (hw _ (List.mem_of_getElem? (i := 3) rfl))) (mvT hZ (hw _ (List.mem_of_getElem? (i := 23) rfl))) (by decide) (backOf (W := 0) (rmX3 l Z a0 hw [] u_NOT_EQUAL u_OR u_AND u_EQUAL h0 n0 Z0 S_OR S_AND S_EQUAL S_NOT_EQUAL ne_u_OR_u_NOT_EQUAL ne_u_AND_u_NOT_EQUAL ne_u_EQUAL_u_NOT_EQUAL) hZ (hw _ (List.mem_of_getElem? (i := 23) rfl)) (hw _ (List.mem_of_getElem? (i := 3) rfl)) (by decide) (by decide)) (g := (mkF m 25 #[.val (.int k), .val (.long a), .second, .val (.long b), .second, .val (.int (3 : Int32)), .val (.ref u_NOT_EQUAL), .val (.ref u_NOT_EQUAL), .unset] [(.ref u_NOT_EQUAL)])) rfl (by rw [hml]; rfl) (argsL := [(.ref u_NOT_EQUAL)]) (rest := []) (lenOf pd_2 rfl) rfl (by show 2 * 0 + _ ≤ _; exact Nat.le_of_eq rfl) (hb hby at_25) (fun _ _ => ⟨rfl, e18, (by decide : 0 + 0 ≤ _), (by decide : 0 + 0 ≤ _)⟩)
    dsimp only [Pt.U, Pt.locs, Pt.cells, Pt.slots] at X19 l19 y19 z19 st19 hQ19
    subst l19 y19 z19
    obtain ⟨h19, e19⟩ : ∃ hh, T19.heap = hh := ⟨_, rfl⟩
    rw [e19] at hQ19
    obtain ⟨rfl, N19q, sm19⟩ := hQ19
    have N19 := Fr.app N18 N19q
    refine Go.st st19 ?_
    rw [sm19] at e19
    show Go p e below s _ _ _ T19 (mkF m 28 #[.val (.int k), .val (.long a), .second, .val (.long b), .second, .val (.int (3 : Int32)), .val (.ref u_NOT_EQUAL), .val (.ref u_NOT_EQUAL), .unset] [(.int (3 : Int32))])
    refine Go.st (fun _ => XS.istore X19.here hx rfl (hb hby at_28) rfl (l' := #[.val (.int k), .val (.long a), .second, .val (.long b), .second, .val (.int (3 : Int32)), .val (.ref u_NOT_EQUAL), .val (.ref u_NOT_EQUAL), .val (.int (3 : Int32))]) rfl) ?_
    show Go p e below s _ _ _ T19 (mkF m 30 #[.val (.int k), .val (.long a), .second, .val (.long b), .second, .val (.int (3 : Int32)), .val (.ref u_NOT_EQUAL), .val (.ref u_NOT_EQUAL), .val (.int (3 : Int32))] [])
    refine Go.st (fun _ => XS.iload X19.here hx rfl (hb hby at_30) rfl) ?_
    show Go p e below s _ _ _ T19 (mkF m 32 #[.val (.int k), .val (.long a), .second, .val (.long b), .second, .val (.int (3 : Int32)), .val (.ref u_NOT_EQUAL), .val (.ref u_NOT_EQUAL), .val (.int (3 : Int32))] [(.int (3 : Int32))])
    refine Go.st (fun _ => XS.iconst X19.here hx rfl (hb hby at_32)) ?_
    show Go p e below s _ _ _ T19 (mkF m 33 #[.val (.int k), .val (.long a), .second, .val (.long b), .second, .val (.int (3 : Int32)), .val (.ref u_NOT_EQUAL), .val (.ref u_NOT_EQUAL), .val (.int (3 : Int32))] [(.int (2 : Int32)), (.int (3 : Int32))])
    refine Go.st (fun _ => XS.icmpNo X19.here hx rfl (hb hby at_33) rfl (flt (by decide : ¬ ((3 : Int32) < (2 : Int32)))).1) ?_
    show Go p e below s _ _ _ T19 (mkF m 36 #[.val (.int k), .val (.long a), .second, .val (.long b), .second, .val (.int (3 : Int32)), .val (.ref u_NOT_EQUAL), .val (.ref u_NOT_EQUAL), .val (.int (3 : Int32))] [])
    refine Go.st (fun _ => XS.iload X19.here hx rfl (hb hby at_36) rfl) ?_
    show Go p e below s _ _ _ T19 (mkF m 38 #[.val (.int k), .val (.long a), .second, .val (.long b), .second, .val (.int (3 : Int32)), .val (.ref u_NOT_EQUAL), .val (.ref u_NOT_EQUAL), .val (.int (3 : Int32))] [(.int (3 : Int32))])
    refine Go.st (fun _ => XS.bipush X19.here hx rfl (hb hby at_38)) ?_
    show Go p e below s _ _ _ T19 (mkF m 40 #[.val (.int k), .val (.long a), .second, .val (.long b), .second, .val (.int (3 : Int32)), .val (.ref u_NOT_EQUAL), .val (.ref u_NOT_EQUAL), .val (.int (3 : Int32))] [(.int (7 : Int32)), (.int (3 : Int32))])
    refine Go.st (fun _ => XS.icmpNo X19.here hx rfl (hb hby at_40) rfl (flt (by decide : ¬ ((7 : Int32) < (3 : Int32)))).2.2.1) ?_
    show Go p e below s _ _ _ T19 (mkF m 43 #[.val (.int k), .val (.long a), .second, .val (.long b), .second, .val (.int (3 : Int32)), .val (.ref u_NOT_EQUAL), .val (.ref u_NOT_EQUAL), .val (.int (3 : Int32))] [])
    refine Go.st (fun _ => XS.iload X19.here hx rfl (hb hby at_43) rfl) ?_
    show Go p e below s _ _ _ T19 (mkF m 45 #[.val (.int k), .val (.long a), .second, .val (.long b), .second, .val (.int (3 : Int32)), .val (.ref u_NOT_EQUAL), .val (.ref u_NOT_EQUAL), .val (.int (3 : Int32))] [(.int (3 : Int32))])
    refine Go.st (fun _ => XS.iconst X19.here hx rfl (hb hby at_45)) ?_
    show Go p e below s _ _ _ T19 (mkF m 46 #[.val (.int k), .val (.long a), .second, .val (.long b), .second, .val (.int (3 : Int32)), .val (.ref u_NOT_EQUAL), .val (.ref u_NOT_EQUAL), .val (.int (3 : Int32))] [(.int (2 : Int32)), (.int (3 : Int32))])
    refine Go.st (fun _ => XS.icmpNo X19.here hx rfl (hb hby at_46) rfl (flt (by decide : ¬ ((3 : Int32) < (2 : Int32)))).1) ?_
    show Go p e below s _ _ _ T19 (mkF m 49 #[.val (.int k), .val (.long a), .second, .val (.long b), .second, .val (.int (3 : Int32)), .val (.ref u_NOT_EQUAL), .val (.ref u_NOT_EQUAL), .val (.int (3 : Int32))] [])
    refine Go.st (fun _ => XS.iload X19.here hx rfl (hb hby at_49) rfl) ?_
    show Go p e below s _ _ _ T19 (mkF m 51 #[.val (.int k), .val (.long a), .second, .val (.long b), .second, .val (.int (3 : Int32)), .val (.ref u_NOT_EQUAL), .val (.ref u_NOT_EQUAL), .val (.int (3 : Int32))] [(.int (3 : Int32))])
    refine Go.st (fun _ => XS.bipush X19.here hx rfl (hb hby at_51)) ?_
    show Go p e below s _ _ _ T19 (mkF m 53 #[.val (.int k), .val (.long a), .second, .val (.long b), .second, .val (.int (3 : Int32)), .val (.ref u_NOT_EQUAL), .val (.ref u_NOT_EQUAL), .val (.int (3 : Int32))] [(.int (7 : Int32)), (.int (3 : Int32))])
    refine Go.st (fun _ => XS.icmpNo X19.here hx rfl (hb hby at_53) rfl (flt (by decide : ¬ ((7 : Int32) < (3 : Int32)))).2.2.1) ?_
    show Go p e below s _ _ _ T19 (mkF m 56 #[.val (.int k), .val (.long a), .second, .val (.long b), .second, .val (.int (3 : Int32)), .val (.ref u_NOT_EQUAL), .val (.ref u_NOT_EQUAL), .val (.int (3 : Int32))] [])
    refine Go.st (fun _ => XS.iload X19.here hx rfl (hb hby at_56) rfl) ?_
    show Go p e below s _ _ _ T19 (mkF m 58 #[.val (.int k), .val (.long a), .second, .val (.long b), .second, .val (.int (3 : Int32)), .val (.ref u_NOT_EQUAL), .val (.ref u_NOT_EQUAL), .val (.int (3 : Int32))] [(.int (3 : Int32))])
    refine Go.st (fun _ => XS.lloadN X19.here hx rfl (hb hby at_58) rfl) ?_
    show Go p e below s _ _ _ T19 (mkF m 59 #[.val (.int k), .val (.long a), .second, .val (.long b), .second, .val (.int (3 : Int32)), .val (.ref u_NOT_EQUAL), .val (.ref u_NOT_EQUAL), .val (.int (3 : Int32))] [(.long a), (.int (3 : Int32))])
    refine Go.st (fun _ => XS.lloadN X19.here hx rfl (hb hby at_59) rfl) ?_
    show Go p e below s _ _ _ T19 (mkF m 60 #[.val (.int k), .val (.long a), .second, .val (.long b), .second, .val (.int (3 : Int32)), .val (.ref u_NOT_EQUAL), .val (.ref u_NOT_EQUAL), .val (.int (3 : Int32))] [(.long b), (.long a), (.int (3 : Int32))])
    obtain ⟨_, _, ⟨T20, L20, kc20, nc20⟩, -, X20, ⟨Lc20, hQ20, l20, y20, z20⟩, st20⟩ := Jvm.LawKit.callS X19 hx (y := (⟨"com/example/moat/moat/xpath/OperatorFlippedPinLaw", "holds", "(IJJ)Z"⟩ : MethodName)) hown (mvT hZ (hw _ (List.mem_of_getElem? (i := 33) rfl))) (mvT hZ (hw _ (List.mem_of_getElem? (i := 34) rfl))) (mvT hZ (hw _ (List.mem_of_getElem? (i := 3) rfl))) (mvT hZ (hw _ (List.mem_of_getElem? (i := 35) rfl))) (by decide) (backOf (W := 0) (rmH3 l Z a0 hw [] a b h0 n0 Z0 ) hZ (hw _ (List.mem_of_getElem? (i := 35) rfl)) (hw _ (List.mem_of_getElem? (i := 3) rfl)) (by decide) (by decide)) (g := (mkF m 60 #[.val (.int k), .val (.long a), .second, .val (.long b), .second, .val (.int (3 : Int32)), .val (.ref u_NOT_EQUAL), .val (.ref u_NOT_EQUAL), .val (.int (3 : Int32))] [(.long b), (.long a), (.int (3 : Int32))])) rfl (by rw [hml]; rfl) (argsL := [(.int (3 : Int32)), (.long a), (.long b)]) (rest := []) (lenOf pd_3 rfl) rfl (by show 2 * 0 + _ ≤ _; exact Nat.le_of_eq rfl) (hb hby at_60) (fun _ _ => ⟨rfl, e19, (by decide : 0 + 0 ≤ _), (by decide : 0 + 0 ≤ _)⟩)
    dsimp only [Pt.U, Pt.locs, Pt.cells, Pt.slots] at X20 l20 y20 z20 st20 hQ20
    subst l20 y20 z20
    obtain ⟨h20, e20⟩ : ∃ hh, T20.heap = hh := ⟨_, rfl⟩
    rw [e20] at hQ20
    obtain ⟨rfl, N20q, sm20⟩ := hQ20
    have N20 := Fr.app N19 N20q
    refine Go.st st20 ?_
    rw [sm20] at e20
    show Go p e below s _ _ _ T20 (mkF m 63 #[.val (.int k), .val (.long a), .second, .val (.long b), .second, .val (.int (3 : Int32)), .val (.ref u_NOT_EQUAL), .val (.ref u_NOT_EQUAL), .val (.int (3 : Int32))] [(.int (b2i (¬ (a = b))))])
    by_cases hc21 : a = b
    · rw [show (b2i (¬ (a = b))) = (0 : Int32) from b2i_neg (not_not_intro hc21)]
      show Go p e below s _ _ _ T20 (mkF m 63 #[.val (.int k), .val (.long a), .second, .val (.long b), .second, .val (.int (3 : Int32)), .val (.ref u_NOT_EQUAL), .val (.ref u_NOT_EQUAL), .val (.int (3 : Int32))] [(.int (0 : Int32))])
      refine Go.st (fun _ => XS.iload X20.here hx rfl (hb hby at_63) rfl) ?_
      show Go p e below s _ _ _ T20 (mkF m 65 #[.val (.int k), .val (.long a), .second, .val (.long b), .second, .val (.int (3 : Int32)), .val (.ref u_NOT_EQUAL), .val (.ref u_NOT_EQUAL), .val (.int (3 : Int32))] [(.int (3 : Int32)), (.int (0 : Int32))])
      refine Go.st (fun _ => XS.lloadN X20.here hx rfl (hb hby at_65) rfl) ?_
      show Go p e below s _ _ _ T20 (mkF m 66 #[.val (.int k), .val (.long a), .second, .val (.long b), .second, .val (.int (3 : Int32)), .val (.ref u_NOT_EQUAL), .val (.ref u_NOT_EQUAL), .val (.int (3 : Int32))] [(.long b), (.int (3 : Int32)), (.int (0 : Int32))])
      refine Go.st (fun _ => XS.lloadN X20.here hx rfl (hb hby at_66) rfl) ?_
      show Go p e below s _ _ _ T20 (mkF m 67 #[.val (.int k), .val (.long a), .second, .val (.long b), .second, .val (.int (3 : Int32)), .val (.ref u_NOT_EQUAL), .val (.ref u_NOT_EQUAL), .val (.int (3 : Int32))] [(.long a), (.long b), (.int (3 : Int32)), (.int (0 : Int32))])
      obtain ⟨_, _, ⟨T22, L22, kc22, nc22⟩, -, X22, ⟨Lc22, hQ22, l22, y22, z22⟩, st22⟩ := Jvm.LawKit.callS X20 hx (y := (⟨"com/example/moat/moat/xpath/OperatorFlippedPinLaw", "holds", "(IJJ)Z"⟩ : MethodName)) hown (mvT hZ (hw _ (List.mem_of_getElem? (i := 33) rfl))) (mvT hZ (hw _ (List.mem_of_getElem? (i := 34) rfl))) (mvT hZ (hw _ (List.mem_of_getElem? (i := 3) rfl))) (mvT hZ (hw _ (List.mem_of_getElem? (i := 35) rfl))) (by decide) (backOf (W := 1) (rmH3 l Z a0 hw [] b a h0 n0 Z0 ) hZ (hw _ (List.mem_of_getElem? (i := 35) rfl)) (hw _ (List.mem_of_getElem? (i := 3) rfl)) (by decide) (by decide)) (g := (mkF m 67 #[.val (.int k), .val (.long a), .second, .val (.long b), .second, .val (.int (3 : Int32)), .val (.ref u_NOT_EQUAL), .val (.ref u_NOT_EQUAL), .val (.int (3 : Int32))] [(.long a), (.long b), (.int (3 : Int32)), (.int (0 : Int32))])) rfl (by rw [hml]; rfl) (argsL := [(.int (3 : Int32)), (.long b), (.long a)]) (rest := [(.int (0 : Int32))]) (lenOf pd_3 rfl) rfl (by show 2 * 0 + _ ≤ _; exact Nat.le_of_eq rfl) (hb hby at_67) (fun _ _ => ⟨rfl, e20, (by decide : 0 + 0 ≤ _), (by decide : 0 + 0 ≤ _)⟩)
      dsimp only [Pt.U, Pt.locs, Pt.cells, Pt.slots] at X22 l22 y22 z22 st22 hQ22
      subst l22 y22 z22
      obtain ⟨h22, e22⟩ : ∃ hh, T22.heap = hh := ⟨_, rfl⟩
      rw [e22] at hQ22
      obtain ⟨rfl, N22q, sm22⟩ := hQ22
      have N22 := Fr.app N20 N22q
      refine Go.st st22 ?_
      rw [sm22] at e22
      show Go p e below s _ _ _ T22 (mkF m 70 #[.val (.int k), .val (.long a), .second, .val (.long b), .second, .val (.int (3 : Int32)), .val (.ref u_NOT_EQUAL), .val (.ref u_NOT_EQUAL), .val (.int (3 : Int32))] [(.int (b2i (¬ (b = a)))), (.int (0 : Int32))])
      rw [show (b2i (¬ (b = a))) = (0 : Int32) from b2i_neg (not_not_intro (Eq.symm hc21))]
      show Go p e below s _ _ _ T22 (mkF m 70 #[.val (.int k), .val (.long a), .second, .val (.long b), .second, .val (.int (3 : Int32)), .val (.ref u_NOT_EQUAL), .val (.ref u_NOT_EQUAL), .val (.int (3 : Int32))] [(.int (0 : Int32)), (.int (0 : Int32))])
      refine Go.st (fun _ => XS.icmpNo X22.here hx rfl (hb hby at_70) rfl (teq (by decide : (0 : Int32) = (0 : Int32))).2) ?_
      show Go p e below s _ _ _ T22 (mkF m 73 #[.val (.int k), .val (.long a), .second, .val (.long b), .second, .val (.int (3 : Int32)), .val (.ref u_NOT_EQUAL), .val (.ref u_NOT_EQUAL), .val (.int (3 : Int32))] [])
      refine Go.st (fun _ => XS.aload X22.here hx rfl (hb hby at_73) rfl rfl) ?_
      show Go p e below s _ _ _ T22 (mkF m 75 #[.val (.int k), .val (.long a), .second, .val (.long b), .second, .val (.int (3 : Int32)), .val (.ref u_NOT_EQUAL), .val (.ref u_NOT_EQUAL), .val (.int (3 : Int32))] [(.ref u_NOT_EQUAL)])
      obtain ⟨cq23, kq23, q23a, q23b, q23c⟩ := isOf hZ e22 E_u_NOT_EQUAL
      obtain ⟨_, _, ⟨T23, L23, kc23, nc23⟩, -, X23, ⟨Lc23, hQ23, l23, y23, z23⟩, st23⟩ := X22.virtualBack hx (y := (⟨"com/example/moat/moat/xpath/Operation$Operator", "flipped", "()Lcom/example/moat/moat/xpath/Operation$Operator;"⟩ : MethodName)) (z := (⟨"com/example/moat/moat/xpath/Operation$Operator", "flipped", "()Lcom/example/moat/moat/xpath/Operation$Operator;"⟩ : MethodName)) hown (mvT hZ (hw _ (List.mem_of_getElem? (i := 8) rfl))) (mvT hZ (hw _ (List.mem_of_getElem? (i := 9) rfl))) (notFace_of_selects (args := #[]) (mvT hZ (hw _ (List.mem_of_getElem? (i := 11) rfl)))) (mvT hZ (hw _ (List.mem_of_getElem? (i := 11) rfl))) (mvT hZ (hw _ (List.mem_of_getElem? (i := 10) rfl))) (by decide) (backOf (W := 0) (rmF3 l Z a0 hw [] u_NOT_EQUAL u_LESS u_LESS_OR_EQUAL u_GREATER u_GREATER_OR_EQUAL h0 n0 Z0 S_LESS S_LESS_OR_EQUAL S_GREATER S_GREATER_OR_EQUAL (Ne.symm ne_u_NOT_EQUAL_u_LESS) (Ne.symm ne_u_NOT_EQUAL_u_LESS_OR_EQUAL) (Ne.symm ne_u_NOT_EQUAL_u_GREATER) (Ne.symm ne_u_NOT_EQUAL_u_GREATER_OR_EQUAL)) hZ (hw _ (List.mem_of_getElem? (i := 12) rfl)) (hw _ (List.mem_of_getElem? (i := 6) rfl)) (by decide) (by decide)) q23a q23c (g := (mkF m 75 #[.val (.int k), .val (.long a), .second, .val (.long b), .second, .val (.int (3 : Int32)), .val (.ref u_NOT_EQUAL), .val (.ref u_NOT_EQUAL), .val (.int (3 : Int32))] [(.ref u_NOT_EQUAL)])) rfl (by rw [hml]; rfl) (Steps.refl _) (argsL := []) (rest := []) (lenOf pd_1 rfl) rfl (by show 2 * 0 + _ ≤ _; exact Nat.le_of_eq rfl) (hb hby at_75) (fun _ _ => ⟨rfl, e22, (by decide : 0 + 0 ≤ _), (by decide : 0 + 0 ≤ _)⟩)
      dsimp only [Pt.U, Pt.locs, Pt.cells, Pt.slots] at X23 l23 y23 z23 st23 hQ23
      subst l23 y23 z23
      obtain ⟨h23, e23⟩ : ∃ hh, T23.heap = hh := ⟨_, rfl⟩
      rw [e23] at hQ23
      obtain ⟨rfl, N23q, sm23⟩ := hQ23
      have N23 := Fr.app N22 N23q
      refine Go.st (fun _ kk => st23.trans kk) ?_
      rw [sm23] at e23
      show Go p e below s _ _ _ T23 (mkF m 78 #[.val (.int k), .val (.long a), .second, .val (.long b), .second, .val (.int (3 : Int32)), .val (.ref u_NOT_EQUAL), .val (.ref u_NOT_EQUAL), .val (.int (3 : Int32))] [(.ref u_NOT_EQUAL)])
      refine Go.st (fun _ => XS.aload X23.here hx rfl (hb hby at_78) rfl rfl) ?_
      show Go p e below s _ _ _ T23 (mkF m 80 #[.val (.int k), .val (.long a), .second, .val (.long b), .second, .val (.int (3 : Int32)), .val (.ref u_NOT_EQUAL), .val (.ref u_NOT_EQUAL), .val (.int (3 : Int32))] [(.ref u_NOT_EQUAL), (.ref u_NOT_EQUAL)])
      refine Go.st (fun _ => Jvm.RoadKit.acmp (g := (mkF m 80 #[.val (.int k), .val (.long a), .second, .val (.long b), .second, .val (.int (3 : Int32)), .val (.ref u_NOT_EQUAL), .val (.ref u_NOT_EQUAL), .val (.int (3 : Int32))] [(.ref u_NOT_EQUAL), (.ref u_NOT_EQUAL)])) X23 hx rfl rfl rfl (pc0 := 80) (pc' := 83) (same := true) rfl (hb hby at_80) rfl (decide_eq_true rfl) (by decide) (by decide)) ?_
      show Go p e below s _ _ _ T23 (mkF m 83 #[.val (.int k), .val (.long a), .second, .val (.long b), .second, .val (.int (3 : Int32)), .val (.ref u_NOT_EQUAL), .val (.ref u_NOT_EQUAL), .val (.int (3 : Int32))] [])
      refine Go.st (fun _ => XS.iconst X23.here hx rfl (hb hby at_83)) ?_
      show Go p e below s _ _ _ T23 (mkF m 84 #[.val (.int k), .val (.long a), .second, .val (.long b), .second, .val (.int (3 : Int32)), .val (.ref u_NOT_EQUAL), .val (.ref u_NOT_EQUAL), .val (.int (3 : Int32))] [(.int (1 : Int32))])
      refine Go.st (fun _ => XS.goto X23.here hx rfl (pc0 := 84) (pc' := 88) rfl (hb hby at_84) (by decide) (by decide)) ?_
      show Go p e below s _ _ _ T23 (mkF m 88 #[.val (.int k), .val (.long a), .second, .val (.long b), .second, .val (.int (3 : Int32)), .val (.ref u_NOT_EQUAL), .val (.ref u_NOT_EQUAL), .val (.int (3 : Int32))] [(.int (1 : Int32))])
      exact Go.retZ X23 hx hlk Bd.returns (hb hby at_88) rfl (by rw [e23]; exact ⟨rfl, N23⟩) (by decide) (by decide)
    · rw [show (b2i (¬ (a = b))) = (1 : Int32) from b2i_pos hc21]
      show Go p e below s _ _ _ T20 (mkF m 63 #[.val (.int k), .val (.long a), .second, .val (.long b), .second, .val (.int (3 : Int32)), .val (.ref u_NOT_EQUAL), .val (.ref u_NOT_EQUAL), .val (.int (3 : Int32))] [(.int (1 : Int32))])
      refine Go.st (fun _ => XS.iload X20.here hx rfl (hb hby at_63) rfl) ?_
      show Go p e below s _ _ _ T20 (mkF m 65 #[.val (.int k), .val (.long a), .second, .val (.long b), .second, .val (.int (3 : Int32)), .val (.ref u_NOT_EQUAL), .val (.ref u_NOT_EQUAL), .val (.int (3 : Int32))] [(.int (3 : Int32)), (.int (1 : Int32))])
      refine Go.st (fun _ => XS.lloadN X20.here hx rfl (hb hby at_65) rfl) ?_
      show Go p e below s _ _ _ T20 (mkF m 66 #[.val (.int k), .val (.long a), .second, .val (.long b), .second, .val (.int (3 : Int32)), .val (.ref u_NOT_EQUAL), .val (.ref u_NOT_EQUAL), .val (.int (3 : Int32))] [(.long b), (.int (3 : Int32)), (.int (1 : Int32))])
      refine Go.st (fun _ => XS.lloadN X20.here hx rfl (hb hby at_66) rfl) ?_
      show Go p e below s _ _ _ T20 (mkF m 67 #[.val (.int k), .val (.long a), .second, .val (.long b), .second, .val (.int (3 : Int32)), .val (.ref u_NOT_EQUAL), .val (.ref u_NOT_EQUAL), .val (.int (3 : Int32))] [(.long a), (.long b), (.int (3 : Int32)), (.int (1 : Int32))])
      obtain ⟨_, _, ⟨T24, L24, kc24, nc24⟩, -, X24, ⟨Lc24, hQ24, l24, y24, z24⟩, st24⟩ := Jvm.LawKit.callS X20 hx (y := (⟨"com/example/moat/moat/xpath/OperatorFlippedPinLaw", "holds", "(IJJ)Z"⟩ : MethodName)) hown (mvT hZ (hw _ (List.mem_of_getElem? (i := 33) rfl))) (mvT hZ (hw _ (List.mem_of_getElem? (i := 34) rfl))) (mvT hZ (hw _ (List.mem_of_getElem? (i := 3) rfl))) (mvT hZ (hw _ (List.mem_of_getElem? (i := 35) rfl))) (by decide) (backOf (W := 1) (rmH3 l Z a0 hw [] b a h0 n0 Z0 ) hZ (hw _ (List.mem_of_getElem? (i := 35) rfl)) (hw _ (List.mem_of_getElem? (i := 3) rfl)) (by decide) (by decide)) (g := (mkF m 67 #[.val (.int k), .val (.long a), .second, .val (.long b), .second, .val (.int (3 : Int32)), .val (.ref u_NOT_EQUAL), .val (.ref u_NOT_EQUAL), .val (.int (3 : Int32))] [(.long a), (.long b), (.int (3 : Int32)), (.int (1 : Int32))])) rfl (by rw [hml]; rfl) (argsL := [(.int (3 : Int32)), (.long b), (.long a)]) (rest := [(.int (1 : Int32))]) (lenOf pd_3 rfl) rfl (by show 2 * 0 + _ ≤ _; exact Nat.le_of_eq rfl) (hb hby at_67) (fun _ _ => ⟨rfl, e20, (by decide : 0 + 0 ≤ _), (by decide : 0 + 0 ≤ _)⟩)
      dsimp only [Pt.U, Pt.locs, Pt.cells, Pt.slots] at X24 l24 y24 z24 st24 hQ24
      subst l24 y24 z24
      obtain ⟨h24, e24⟩ : ∃ hh, T24.heap = hh := ⟨_, rfl⟩
      rw [e24] at hQ24
      obtain ⟨rfl, N24q, sm24⟩ := hQ24
      have N24 := Fr.app N20 N24q
      refine Go.st st24 ?_
      rw [sm24] at e24
      show Go p e below s _ _ _ T24 (mkF m 70 #[.val (.int k), .val (.long a), .second, .val (.long b), .second, .val (.int (3 : Int32)), .val (.ref u_NOT_EQUAL), .val (.ref u_NOT_EQUAL), .val (.int (3 : Int32))] [(.int (b2i (¬ (b = a)))), (.int (1 : Int32))])
      rw [show (b2i (¬ (b = a))) = (1 : Int32) from b2i_pos (fun qq => hc21 (Eq.symm qq))]
      show Go p e below s _ _ _ T24 (mkF m 70 #[.val (.int k), .val (.long a), .second, .val (.long b), .second, .val (.int (3 : Int32)), .val (.ref u_NOT_EQUAL), .val (.ref u_NOT_EQUAL), .val (.int (3 : Int32))] [(.int (1 : Int32)), (.int (1 : Int32))])
      refine Go.st (fun _ => XS.icmpNo X24.here hx rfl (hb hby at_70) rfl (teq (by decide : (1 : Int32) = (1 : Int32))).2) ?_
      show Go p e below s _ _ _ T24 (mkF m 73 #[.val (.int k), .val (.long a), .second, .val (.long b), .second, .val (.int (3 : Int32)), .val (.ref u_NOT_EQUAL), .val (.ref u_NOT_EQUAL), .val (.int (3 : Int32))] [])
      refine Go.st (fun _ => XS.aload X24.here hx rfl (hb hby at_73) rfl rfl) ?_
      show Go p e below s _ _ _ T24 (mkF m 75 #[.val (.int k), .val (.long a), .second, .val (.long b), .second, .val (.int (3 : Int32)), .val (.ref u_NOT_EQUAL), .val (.ref u_NOT_EQUAL), .val (.int (3 : Int32))] [(.ref u_NOT_EQUAL)])
      obtain ⟨cq25, kq25, q25a, q25b, q25c⟩ := isOf hZ e24 E_u_NOT_EQUAL
      obtain ⟨_, _, ⟨T25, L25, kc25, nc25⟩, -, X25, ⟨Lc25, hQ25, l25, y25, z25⟩, st25⟩ := X24.virtualBack hx (y := (⟨"com/example/moat/moat/xpath/Operation$Operator", "flipped", "()Lcom/example/moat/moat/xpath/Operation$Operator;"⟩ : MethodName)) (z := (⟨"com/example/moat/moat/xpath/Operation$Operator", "flipped", "()Lcom/example/moat/moat/xpath/Operation$Operator;"⟩ : MethodName)) hown (mvT hZ (hw _ (List.mem_of_getElem? (i := 8) rfl))) (mvT hZ (hw _ (List.mem_of_getElem? (i := 9) rfl))) (notFace_of_selects (args := #[]) (mvT hZ (hw _ (List.mem_of_getElem? (i := 11) rfl)))) (mvT hZ (hw _ (List.mem_of_getElem? (i := 11) rfl))) (mvT hZ (hw _ (List.mem_of_getElem? (i := 10) rfl))) (by decide) (backOf (W := 0) (rmF3 l Z a0 hw [] u_NOT_EQUAL u_LESS u_LESS_OR_EQUAL u_GREATER u_GREATER_OR_EQUAL h0 n0 Z0 S_LESS S_LESS_OR_EQUAL S_GREATER S_GREATER_OR_EQUAL (Ne.symm ne_u_NOT_EQUAL_u_LESS) (Ne.symm ne_u_NOT_EQUAL_u_LESS_OR_EQUAL) (Ne.symm ne_u_NOT_EQUAL_u_GREATER) (Ne.symm ne_u_NOT_EQUAL_u_GREATER_OR_EQUAL)) hZ (hw _ (List.mem_of_getElem? (i := 12) rfl)) (hw _ (List.mem_of_getElem? (i := 6) rfl)) (by decide) (by decide)) q25a q25c (g := (mkF m 75 #[.val (.int k), .val (.long a), .second, .val (.long b), .second, .val (.int (3 : Int32)), .val (.ref u_NOT_EQUAL), .val (.ref u_NOT_EQUAL), .val (.int (3 : Int32))] [(.ref u_NOT_EQUAL)])) rfl (by rw [hml]; rfl) (Steps.refl _) (argsL := []) (rest := []) (lenOf pd_1 rfl) rfl (by show 2 * 0 + _ ≤ _; exact Nat.le_of_eq rfl) (hb hby at_75) (fun _ _ => ⟨rfl, e24, (by decide : 0 + 0 ≤ _), (by decide : 0 + 0 ≤ _)⟩)
      dsimp only [Pt.U, Pt.locs, Pt.cells, Pt.slots] at X25 l25 y25 z25 st25 hQ25
      subst l25 y25 z25
      obtain ⟨h25, e25⟩ : ∃ hh, T25.heap = hh := ⟨_, rfl⟩
      rw [e25] at hQ25
      obtain ⟨rfl, N25q, sm25⟩ := hQ25
      have N25 := Fr.app N24 N25q
      refine Go.st (fun _ kk => st25.trans kk) ?_
      rw [sm25] at e25
      show Go p e below s _ _ _ T25 (mkF m 78 #[.val (.int k), .val (.long a), .second, .val (.long b), .second, .val (.int (3 : Int32)), .val (.ref u_NOT_EQUAL), .val (.ref u_NOT_EQUAL), .val (.int (3 : Int32))] [(.ref u_NOT_EQUAL)])
      refine Go.st (fun _ => XS.aload X25.here hx rfl (hb hby at_78) rfl rfl) ?_
      show Go p e below s _ _ _ T25 (mkF m 80 #[.val (.int k), .val (.long a), .second, .val (.long b), .second, .val (.int (3 : Int32)), .val (.ref u_NOT_EQUAL), .val (.ref u_NOT_EQUAL), .val (.int (3 : Int32))] [(.ref u_NOT_EQUAL), (.ref u_NOT_EQUAL)])
      refine Go.st (fun _ => Jvm.RoadKit.acmp (g := (mkF m 80 #[.val (.int k), .val (.long a), .second, .val (.long b), .second, .val (.int (3 : Int32)), .val (.ref u_NOT_EQUAL), .val (.ref u_NOT_EQUAL), .val (.int (3 : Int32))] [(.ref u_NOT_EQUAL), (.ref u_NOT_EQUAL)])) X25 hx rfl rfl rfl (pc0 := 80) (pc' := 83) (same := true) rfl (hb hby at_80) rfl (decide_eq_true rfl) (by decide) (by decide)) ?_
      show Go p e below s _ _ _ T25 (mkF m 83 #[.val (.int k), .val (.long a), .second, .val (.long b), .second, .val (.int (3 : Int32)), .val (.ref u_NOT_EQUAL), .val (.ref u_NOT_EQUAL), .val (.int (3 : Int32))] [])
      refine Go.st (fun _ => XS.iconst X25.here hx rfl (hb hby at_83)) ?_
      show Go p e below s _ _ _ T25 (mkF m 84 #[.val (.int k), .val (.long a), .second, .val (.long b), .second, .val (.int (3 : Int32)), .val (.ref u_NOT_EQUAL), .val (.ref u_NOT_EQUAL), .val (.int (3 : Int32))] [(.int (1 : Int32))])
      refine Go.st (fun _ => XS.goto X25.here hx rfl (pc0 := 84) (pc' := 88) rfl (hb hby at_84) (by decide) (by decide)) ?_
      show Go p e below s _ _ _ T25 (mkF m 88 #[.val (.int k), .val (.long a), .second, .val (.long b), .second, .val (.int (3 : Int32)), .val (.ref u_NOT_EQUAL), .val (.ref u_NOT_EQUAL), .val (.int (3 : Int32))] [(.int (1 : Int32))])
      exact Go.retZ X25 hx hlk Bd.returns (hb hby at_88) rfl (by rw [e25]; exact ⟨rfl, N25⟩) (by decide) (by decide)
  · rw [show ((k &&& (2147483647 : Int32)) % (14 : Int32)) = (4 : Int32) from hd1]
    show Go p e below s _ _ _ s₁ (mkF m 7 #[.val (.int k), .val (.long a), .second, .val (.long b), .second, .unset, .unset, .unset, .unset] [(.int (4 : Int32))])
    refine Go.st (fun _ => XS.istore X0.here hx rfl (hb hby at_7) rfl (l' := #[.val (.int k), .val (.long a), .second, .val (.long b), .second, .val (.int (4 : Int32)), .unset, .unset, .unset]) rfl) ?_
    show Go p e below s _ _ _ s₁ (mkF m 9 #[.val (.int k), .val (.long a), .second, .val (.long b), .second, .val (.int (4 : Int32)), .unset, .unset, .unset] [])
    refine Go.st (fun _ => XS.iload X0.here hx rfl (hb hby at_9) rfl) ?_
    show Go p e below s _ _ _ s₁ (mkF m 11 #[.val (.int k), .val (.long a), .second, .val (.long b), .second, .val (.int (4 : Int32)), .unset, .unset, .unset] [(.int (4 : Int32))])
    obtain ⟨_, _, ⟨T26, L26, kc26, nc26⟩, -, X26, ⟨Lc26, hQ26, l26, y26, z26⟩, st26⟩ := Jvm.LawKit.callS X0 hx (y := (⟨"com/example/moat/moat/xpath/OperatorFlippedPinLaw", "pick", "(I)Lcom/example/moat/moat/xpath/Operation$Operator;"⟩ : MethodName)) hown (mvT hZ (hw _ (List.mem_of_getElem? (i := 1) rfl))) (mvT hZ (hw _ (List.mem_of_getElem? (i := 2) rfl))) (mvT hZ (hw _ (List.mem_of_getElem? (i := 3) rfl))) (mvT hZ (hw _ (List.mem_of_getElem? (i := 4) rfl))) (by decide) (backOf (W := 0) (rmP4 l Z a0 hw [] u_LESS h0 n0 Z0 S_LESS) hZ (hw _ (List.mem_of_getElem? (i := 4) rfl)) (hw _ (List.mem_of_getElem? (i := 3) rfl)) (by decide) (by decide)) (g := (mkF m 11 #[.val (.int k), .val (.long a), .second, .val (.long b), .second, .val (.int (4 : Int32)), .unset, .unset, .unset] [(.int (4 : Int32))])) rfl (by rw [hml]; rfl) (argsL := [(.int (4 : Int32))]) (rest := []) (lenOf pd_0 rfl) rfl (by show 2 * 0 + _ ≤ _; exact Nat.le_of_eq rfl) (hb hby at_11) (fun _ _ => ⟨rfl, e0, (by decide : 0 + 0 ≤ _), (by decide : 0 + 0 ≤ _)⟩)
    dsimp only [Pt.U, Pt.locs, Pt.cells, Pt.slots] at X26 l26 y26 z26 st26 hQ26
    subst l26 y26 z26
    obtain ⟨h26, e26⟩ : ∃ hh, T26.heap = hh := ⟨_, rfl⟩
    rw [e26] at hQ26
    obtain ⟨rfl, N26q, sm26⟩ := hQ26
    have N26 := Fr.app N0 N26q
    refine Go.st st26 ?_
    rw [sm26] at e26
    show Go p e below s _ _ _ T26 (mkF m 14 #[.val (.int k), .val (.long a), .second, .val (.long b), .second, .val (.int (4 : Int32)), .unset, .unset, .unset] [(.ref u_LESS)])
    refine Go.st (fun _ => XS.astore X26.here hx rfl (hb hby at_14) rfl rfl (l' := #[.val (.int k), .val (.long a), .second, .val (.long b), .second, .val (.int (4 : Int32)), .val (.ref u_LESS), .unset, .unset]) rfl) ?_
    show Go p e below s _ _ _ T26 (mkF m 16 #[.val (.int k), .val (.long a), .second, .val (.long b), .second, .val (.int (4 : Int32)), .val (.ref u_LESS), .unset, .unset] [])
    refine Go.st (fun _ => XS.aload X26.here hx rfl (hb hby at_16) rfl rfl) ?_
    show Go p e below s _ _ _ T26 (mkF m 18 #[.val (.int k), .val (.long a), .second, .val (.long b), .second, .val (.int (4 : Int32)), .val (.ref u_LESS), .unset, .unset] [(.ref u_LESS)])
    obtain ⟨cq27, kq27, q27a, q27b, q27c⟩ := isOf hZ e26 E_u_LESS
    obtain ⟨_, _, ⟨T27, L27, kc27, nc27⟩, -, X27, ⟨Lc27, hQ27, l27, y27, z27⟩, st27⟩ := X26.virtualBack hx (y := (⟨"com/example/moat/moat/xpath/Operation$Operator", "flipped", "()Lcom/example/moat/moat/xpath/Operation$Operator;"⟩ : MethodName)) (z := (⟨"com/example/moat/moat/xpath/Operation$Operator", "flipped", "()Lcom/example/moat/moat/xpath/Operation$Operator;"⟩ : MethodName)) hown (mvT hZ (hw _ (List.mem_of_getElem? (i := 8) rfl))) (mvT hZ (hw _ (List.mem_of_getElem? (i := 9) rfl))) (notFace_of_selects (args := #[]) (mvT hZ (hw _ (List.mem_of_getElem? (i := 11) rfl)))) (mvT hZ (hw _ (List.mem_of_getElem? (i := 11) rfl))) (mvT hZ (hw _ (List.mem_of_getElem? (i := 10) rfl))) (by decide) (backOf (W := 0) (rmF4 l Z a0 hw [] u_LESS u_GREATER h0 n0 Z0 S_LESS S_GREATER) hZ (hw _ (List.mem_of_getElem? (i := 12) rfl)) (hw _ (List.mem_of_getElem? (i := 6) rfl)) (by decide) (by decide)) q27a q27c (g := (mkF m 18 #[.val (.int k), .val (.long a), .second, .val (.long b), .second, .val (.int (4 : Int32)), .val (.ref u_LESS), .unset, .unset] [(.ref u_LESS)])) rfl (by rw [hml]; rfl) (Steps.refl _) (argsL := []) (rest := []) (lenOf pd_1 rfl) rfl (by show 2 * 0 + _ ≤ _; exact Nat.le_of_eq rfl) (hb hby at_18) (fun _ _ => ⟨rfl, e26, (by decide : 0 + 0 ≤ _), (by decide : 0 + 0 ≤ _)⟩)
    dsimp only [Pt.U, Pt.locs, Pt.cells, Pt.slots] at X27 l27 y27 z27 st27 hQ27
    subst l27 y27 z27
    obtain ⟨h27, e27⟩ : ∃ hh, T27.heap = hh := ⟨_, rfl⟩
    rw [e27] at hQ27
    obtain ⟨rfl, N27q, sm27⟩ := hQ27
    have N27 := Fr.app N26 N27q
    refine Go.st (fun _ kk => st27.trans kk) ?_
    rw [sm27] at e27
    show Go p e below s _ _ _ T27 (mkF m 21 #[.val (.int k), .val (.long a), .second, .val (.long b), .second, .val (.int (4 : Int32)), .val (.ref u_LESS), .unset, .unset] [(.ref u_GREATER)])
    refine Go.st (fun _ => XS.astore X27.here hx rfl (hb hby at_21) rfl rfl (l' := #[.val (.int k), .val (.long a), .second, .val (.long b), .second, .val (.int (4 : Int32)), .val (.ref u_LESS), .val (.ref u_GREATER), .unset]) rfl) ?_
    show Go p e below s _ _ _ T27 (mkF m 23 #[.val (.int k), .val (.long a), .second, .val (.long b), .second, .val (.int (4 : Int32)), .val (.ref u_LESS), .val (.ref u_GREATER), .unset] [])
    refine Go.st (fun _ => XS.aload X27.here hx rfl (hb hby at_23) rfl rfl) ?_
    show Go p e below s _ _ _ T27 (mkF m 25 #[.val (.int k), .val (.long a), .second, .val (.long b), .second, .val (.int (4 : Int32)), .val (.ref u_LESS), .val (.ref u_GREATER), .unset] [(.ref u_GREATER)])
    obtain ⟨_, _, ⟨T28, L28, kc28, nc28⟩, -, X28, ⟨Lc28, hQ28, l28, y28, z28⟩, st28⟩ := Jvm.LawKit.callS X27 hx (y := (⟨"com/example/moat/moat/xpath/OperatorFlippedPinLaw", "index", "(Lcom/example/moat/moat/xpath/Operation$Operator;)I"⟩ : MethodName)) hown (mvT hZ (hw _ (List.mem_of_getElem? (i := 21) rfl))) (mvT hZ (hw _ (List.mem_of_getElem? (i := 22) rfl))) (mvT hZ (hw _ (List.mem_of_getElem? (i := 3) rfl))) (mvT hZ (hw _ (List.mem_of_getElem? (i := 23) rfl))) (by decide) (backOf (W := 0) (rmX6 l Z a0 hw [] u_GREATER u_OR u_AND u_EQUAL u_NOT_EQUAL u_LESS u_LESS_OR_EQUAL h0 n0 Z0 S_OR S_AND S_EQUAL S_NOT_EQUAL S_LESS S_LESS_OR_EQUAL S_GREATER ne_u_OR_u_GREATER ne_u_AND_u_GREATER ne_u_EQUAL_u_GREATER ne_u_NOT_EQUAL_u_GREATER ne_u_LESS_u_GREATER ne_u_LESS_OR_EQUAL_u_GREATER) hZ (hw _ (List.mem_of_getElem? (i := 23) rfl)) (hw _ (List.mem_of_getElem? (i := 3) rfl)) (by decide) (by decide)) (g := (mkF m 25 #[.val (.int k), .val (.long a), .second, .val (.long b), .second, .val (.int (4 : Int32)), .val (.ref u_LESS), .val (.ref u_GREATER), .unset] [(.ref u_GREATER)])) rfl (by rw [hml]; rfl) (argsL := [(.ref u_GREATER)]) (rest := []) (lenOf pd_2 rfl) rfl (by show 2 * 0 + _ ≤ _; exact Nat.le_of_eq rfl) (hb hby at_25) (fun _ _ => ⟨rfl, e27, (by decide : 0 + 0 ≤ _), (by decide : 0 + 0 ≤ _)⟩)
    dsimp only [Pt.U, Pt.locs, Pt.cells, Pt.slots] at X28 l28 y28 z28 st28 hQ28
    subst l28 y28 z28
    obtain ⟨h28, e28⟩ : ∃ hh, T28.heap = hh := ⟨_, rfl⟩
    rw [e28] at hQ28
    obtain ⟨rfl, N28q, sm28⟩ := hQ28
    have N28 := Fr.app N27 N28q
    refine Go.st st28 ?_
    rw [sm28] at e28
    show Go p e below s _ _ _ T28 (mkF m 28 #[.val (.int k), .val (.long a), .second, .val (.long b), .second, .val (.int (4 : Int32)), .val (.ref u_LESS), .val (.ref u_GREATER), .unset] [(.int (6 : Int32))])
    refine Go.st (fun _ => XS.istore X28.here hx rfl (hb hby at_28) rfl (l' := #[.val (.int k), .val (.long a), .second, .val (.long b), .second, .val (.int (4 : Int32)), .val (.ref u_LESS), .val (.ref u_GREATER), .val (.int (6 : Int32))]) rfl) ?_
    show Go p e below s _ _ _ T28 (mkF m 30 #[.val (.int k), .val (.long a), .second, .val (.long b), .second, .val (.int (4 : Int32)), .val (.ref u_LESS), .val (.ref u_GREATER), .val (.int (6 : Int32))] [])
    refine Go.st (fun _ => XS.iload X28.here hx rfl (hb hby at_30) rfl) ?_
    show Go p e below s _ _ _ T28 (mkF m 32 #[.val (.int k), .val (.long a), .second, .val (.long b), .second, .val (.int (4 : Int32)), .val (.ref u_LESS), .val (.ref u_GREATER), .val (.int (6 : Int32))] [(.int (4 : Int32))])
    refine Go.st (fun _ => XS.iconst X28.here hx rfl (hb hby at_32)) ?_
    show Go p e below s _ _ _ T28 (mkF m 33 #[.val (.int k), .val (.long a), .second, .val (.long b), .second, .val (.int (4 : Int32)), .val (.ref u_LESS), .val (.ref u_GREATER), .val (.int (6 : Int32))] [(.int (2 : Int32)), (.int (4 : Int32))])
    refine Go.st (fun _ => XS.icmpNo X28.here hx rfl (hb hby at_33) rfl (flt (by decide : ¬ ((4 : Int32) < (2 : Int32)))).1) ?_
    show Go p e below s _ _ _ T28 (mkF m 36 #[.val (.int k), .val (.long a), .second, .val (.long b), .second, .val (.int (4 : Int32)), .val (.ref u_LESS), .val (.ref u_GREATER), .val (.int (6 : Int32))] [])
    refine Go.st (fun _ => XS.iload X28.here hx rfl (hb hby at_36) rfl) ?_
    show Go p e below s _ _ _ T28 (mkF m 38 #[.val (.int k), .val (.long a), .second, .val (.long b), .second, .val (.int (4 : Int32)), .val (.ref u_LESS), .val (.ref u_GREATER), .val (.int (6 : Int32))] [(.int (4 : Int32))])
    refine Go.st (fun _ => XS.bipush X28.here hx rfl (hb hby at_38)) ?_
    show Go p e below s _ _ _ T28 (mkF m 40 #[.val (.int k), .val (.long a), .second, .val (.long b), .second, .val (.int (4 : Int32)), .val (.ref u_LESS), .val (.ref u_GREATER), .val (.int (6 : Int32))] [(.int (7 : Int32)), (.int (4 : Int32))])
    refine Go.st (fun _ => XS.icmpNo X28.here hx rfl (hb hby at_40) rfl (flt (by decide : ¬ ((7 : Int32) < (4 : Int32)))).2.2.1) ?_
    show Go p e below s _ _ _ T28 (mkF m 43 #[.val (.int k), .val (.long a), .second, .val (.long b), .second, .val (.int (4 : Int32)), .val (.ref u_LESS), .val (.ref u_GREATER), .val (.int (6 : Int32))] [])
    refine Go.st (fun _ => XS.iload X28.here hx rfl (hb hby at_43) rfl) ?_
    show Go p e below s _ _ _ T28 (mkF m 45 #[.val (.int k), .val (.long a), .second, .val (.long b), .second, .val (.int (4 : Int32)), .val (.ref u_LESS), .val (.ref u_GREATER), .val (.int (6 : Int32))] [(.int (6 : Int32))])
    refine Go.st (fun _ => XS.iconst X28.here hx rfl (hb hby at_45)) ?_
    show Go p e below s _ _ _ T28 (mkF m 46 #[.val (.int k), .val (.long a), .second, .val (.long b), .second, .val (.int (4 : Int32)), .val (.ref u_LESS), .val (.ref u_GREATER), .val (.int (6 : Int32))] [(.int (2 : Int32)), (.int (6 : Int32))])
    refine Go.st (fun _ => XS.icmpNo X28.here hx rfl (hb hby at_46) rfl (flt (by decide : ¬ ((6 : Int32) < (2 : Int32)))).1) ?_
    show Go p e below s _ _ _ T28 (mkF m 49 #[.val (.int k), .val (.long a), .second, .val (.long b), .second, .val (.int (4 : Int32)), .val (.ref u_LESS), .val (.ref u_GREATER), .val (.int (6 : Int32))] [])
    refine Go.st (fun _ => XS.iload X28.here hx rfl (hb hby at_49) rfl) ?_
    show Go p e below s _ _ _ T28 (mkF m 51 #[.val (.int k), .val (.long a), .second, .val (.long b), .second, .val (.int (4 : Int32)), .val (.ref u_LESS), .val (.ref u_GREATER), .val (.int (6 : Int32))] [(.int (6 : Int32))])
    refine Go.st (fun _ => XS.bipush X28.here hx rfl (hb hby at_51)) ?_
    show Go p e below s _ _ _ T28 (mkF m 53 #[.val (.int k), .val (.long a), .second, .val (.long b), .second, .val (.int (4 : Int32)), .val (.ref u_LESS), .val (.ref u_GREATER), .val (.int (6 : Int32))] [(.int (7 : Int32)), (.int (6 : Int32))])
    refine Go.st (fun _ => XS.icmpNo X28.here hx rfl (hb hby at_53) rfl (flt (by decide : ¬ ((7 : Int32) < (6 : Int32)))).2.2.1) ?_
    show Go p e below s _ _ _ T28 (mkF m 56 #[.val (.int k), .val (.long a), .second, .val (.long b), .second, .val (.int (4 : Int32)), .val (.ref u_LESS), .val (.ref u_GREATER), .val (.int (6 : Int32))] [])
    refine Go.st (fun _ => XS.iload X28.here hx rfl (hb hby at_56) rfl) ?_
    show Go p e below s _ _ _ T28 (mkF m 58 #[.val (.int k), .val (.long a), .second, .val (.long b), .second, .val (.int (4 : Int32)), .val (.ref u_LESS), .val (.ref u_GREATER), .val (.int (6 : Int32))] [(.int (4 : Int32))])
    refine Go.st (fun _ => XS.lloadN X28.here hx rfl (hb hby at_58) rfl) ?_
    show Go p e below s _ _ _ T28 (mkF m 59 #[.val (.int k), .val (.long a), .second, .val (.long b), .second, .val (.int (4 : Int32)), .val (.ref u_LESS), .val (.ref u_GREATER), .val (.int (6 : Int32))] [(.long a), (.int (4 : Int32))])
    refine Go.st (fun _ => XS.lloadN X28.here hx rfl (hb hby at_59) rfl) ?_
    show Go p e below s _ _ _ T28 (mkF m 60 #[.val (.int k), .val (.long a), .second, .val (.long b), .second, .val (.int (4 : Int32)), .val (.ref u_LESS), .val (.ref u_GREATER), .val (.int (6 : Int32))] [(.long b), (.long a), (.int (4 : Int32))])
    obtain ⟨_, _, ⟨T29, L29, kc29, nc29⟩, -, X29, ⟨Lc29, hQ29, l29, y29, z29⟩, st29⟩ := Jvm.LawKit.callS X28 hx (y := (⟨"com/example/moat/moat/xpath/OperatorFlippedPinLaw", "holds", "(IJJ)Z"⟩ : MethodName)) hown (mvT hZ (hw _ (List.mem_of_getElem? (i := 33) rfl))) (mvT hZ (hw _ (List.mem_of_getElem? (i := 34) rfl))) (mvT hZ (hw _ (List.mem_of_getElem? (i := 3) rfl))) (mvT hZ (hw _ (List.mem_of_getElem? (i := 35) rfl))) (by decide) (backOf (W := 0) (rmH4 l Z a0 hw [] a b h0 n0 Z0 ) hZ (hw _ (List.mem_of_getElem? (i := 35) rfl)) (hw _ (List.mem_of_getElem? (i := 3) rfl)) (by decide) (by decide)) (g := (mkF m 60 #[.val (.int k), .val (.long a), .second, .val (.long b), .second, .val (.int (4 : Int32)), .val (.ref u_LESS), .val (.ref u_GREATER), .val (.int (6 : Int32))] [(.long b), (.long a), (.int (4 : Int32))])) rfl (by rw [hml]; rfl) (argsL := [(.int (4 : Int32)), (.long a), (.long b)]) (rest := []) (lenOf pd_3 rfl) rfl (by show 2 * 0 + _ ≤ _; exact Nat.le_of_eq rfl) (hb hby at_60) (fun _ _ => ⟨rfl, e28, (by decide : 0 + 0 ≤ _), (by decide : 0 + 0 ≤ _)⟩)
    dsimp only [Pt.U, Pt.locs, Pt.cells, Pt.slots] at X29 l29 y29 z29 st29 hQ29
    subst l29 y29 z29
    obtain ⟨h29, e29⟩ : ∃ hh, T29.heap = hh := ⟨_, rfl⟩
    rw [e29] at hQ29
    obtain ⟨rfl, N29q, sm29⟩ := hQ29
    have N29 := Fr.app N28 N29q
    refine Go.st st29 ?_
    rw [sm29] at e29
    show Go p e below s _ _ _ T29 (mkF m 63 #[.val (.int k), .val (.long a), .second, .val (.long b), .second, .val (.int (4 : Int32)), .val (.ref u_LESS), .val (.ref u_GREATER), .val (.int (6 : Int32))] [(.int (b2i (a < b)))])
    by_cases hc30 : a < b
    · rw [show (b2i (a < b)) = (1 : Int32) from b2i_pos hc30]
      show Go p e below s _ _ _ T29 (mkF m 63 #[.val (.int k), .val (.long a), .second, .val (.long b), .second, .val (.int (4 : Int32)), .val (.ref u_LESS), .val (.ref u_GREATER), .val (.int (6 : Int32))] [(.int (1 : Int32))])
      refine Go.st (fun _ => XS.iload X29.here hx rfl (hb hby at_63) rfl) ?_
      show Go p e below s _ _ _ T29 (mkF m 65 #[.val (.int k), .val (.long a), .second, .val (.long b), .second, .val (.int (4 : Int32)), .val (.ref u_LESS), .val (.ref u_GREATER), .val (.int (6 : Int32))] [(.int (6 : Int32)), (.int (1 : Int32))])
      refine Go.st (fun _ => XS.lloadN X29.here hx rfl (hb hby at_65) rfl) ?_
      show Go p e below s _ _ _ T29 (mkF m 66 #[.val (.int k), .val (.long a), .second, .val (.long b), .second, .val (.int (4 : Int32)), .val (.ref u_LESS), .val (.ref u_GREATER), .val (.int (6 : Int32))] [(.long b), (.int (6 : Int32)), (.int (1 : Int32))])
      refine Go.st (fun _ => XS.lloadN X29.here hx rfl (hb hby at_66) rfl) ?_
      show Go p e below s _ _ _ T29 (mkF m 67 #[.val (.int k), .val (.long a), .second, .val (.long b), .second, .val (.int (4 : Int32)), .val (.ref u_LESS), .val (.ref u_GREATER), .val (.int (6 : Int32))] [(.long a), (.long b), (.int (6 : Int32)), (.int (1 : Int32))])
      obtain ⟨_, _, ⟨T31, L31, kc31, nc31⟩, -, X31, ⟨Lc31, hQ31, l31, y31, z31⟩, st31⟩ := Jvm.LawKit.callS X29 hx (y := (⟨"com/example/moat/moat/xpath/OperatorFlippedPinLaw", "holds", "(IJJ)Z"⟩ : MethodName)) hown (mvT hZ (hw _ (List.mem_of_getElem? (i := 33) rfl))) (mvT hZ (hw _ (List.mem_of_getElem? (i := 34) rfl))) (mvT hZ (hw _ (List.mem_of_getElem? (i := 3) rfl))) (mvT hZ (hw _ (List.mem_of_getElem? (i := 35) rfl))) (by decide) (backOf (W := 1) (rmH6 l Z a0 hw [] b a h0 n0 Z0 ) hZ (hw _ (List.mem_of_getElem? (i := 35) rfl)) (hw _ (List.mem_of_getElem? (i := 3) rfl)) (by decide) (by decide)) (g := (mkF m 67 #[.val (.int k), .val (.long a), .second, .val (.long b), .second, .val (.int (4 : Int32)), .val (.ref u_LESS), .val (.ref u_GREATER), .val (.int (6 : Int32))] [(.long a), (.long b), (.int (6 : Int32)), (.int (1 : Int32))])) rfl (by rw [hml]; rfl) (argsL := [(.int (6 : Int32)), (.long b), (.long a)]) (rest := [(.int (1 : Int32))]) (lenOf pd_3 rfl) rfl (by show 2 * 0 + _ ≤ _; exact Nat.le_of_eq rfl) (hb hby at_67) (fun _ _ => ⟨rfl, e29, (by decide : 0 + 0 ≤ _), (by decide : 0 + 0 ≤ _)⟩)
      dsimp only [Pt.U, Pt.locs, Pt.cells, Pt.slots] at X31 l31 y31 z31 st31 hQ31
      subst l31 y31 z31
      obtain ⟨h31, e31⟩ : ∃ hh, T31.heap = hh := ⟨_, rfl⟩
      rw [e31] at hQ31
      obtain ⟨rfl, N31q, sm31⟩ := hQ31
      have N31 := Fr.app N29 N31q
      refine Go.st st31 ?_
      rw [sm31] at e31
      show Go p e below s _ _ _ T31 (mkF m 70 #[.val (.int k), .val (.long a), .second, .val (.long b), .second, .val (.int (4 : Int32)), .val (.ref u_LESS), .val (.ref u_GREATER), .val (.int (6 : Int32))] [(.int (b2i (a < b))), (.int (1 : Int32))])
      rw [show (b2i (a < b)) = (1 : Int32) from b2i_pos hc30]
      show Go p e below s _ _ _ T31 (mkF m 70 #[.val (.int k), .val (.long a), .second, .val (.long b), .second, .val (.int (4 : Int32)), .val (.ref u_LESS), .val (.ref u_GREATER), .val (.int (6 : Int32))] [(.int (1 : Int32)), (.int (1 : Int32))])
      refine Go.st (fun _ => XS.icmpNo X31.here hx rfl (hb hby at_70) rfl (teq (by decide : (1 : Int32) = (1 : Int32))).2) ?_
      show Go p e below s _ _ _ T31 (mkF m 73 #[.val (.int k), .val (.long a), .second, .val (.long b), .second, .val (.int (4 : Int32)), .val (.ref u_LESS), .val (.ref u_GREATER), .val (.int (6 : Int32))] [])
      refine Go.st (fun _ => XS.aload X31.here hx rfl (hb hby at_73) rfl rfl) ?_
      show Go p e below s _ _ _ T31 (mkF m 75 #[.val (.int k), .val (.long a), .second, .val (.long b), .second, .val (.int (4 : Int32)), .val (.ref u_LESS), .val (.ref u_GREATER), .val (.int (6 : Int32))] [(.ref u_GREATER)])
      obtain ⟨cq32, kq32, q32a, q32b, q32c⟩ := isOf hZ e31 E_u_GREATER
      obtain ⟨_, _, ⟨T32, L32, kc32, nc32⟩, -, X32, ⟨Lc32, hQ32, l32, y32, z32⟩, st32⟩ := X31.virtualBack hx (y := (⟨"com/example/moat/moat/xpath/Operation$Operator", "flipped", "()Lcom/example/moat/moat/xpath/Operation$Operator;"⟩ : MethodName)) (z := (⟨"com/example/moat/moat/xpath/Operation$Operator", "flipped", "()Lcom/example/moat/moat/xpath/Operation$Operator;"⟩ : MethodName)) hown (mvT hZ (hw _ (List.mem_of_getElem? (i := 8) rfl))) (mvT hZ (hw _ (List.mem_of_getElem? (i := 9) rfl))) (notFace_of_selects (args := #[]) (mvT hZ (hw _ (List.mem_of_getElem? (i := 11) rfl)))) (mvT hZ (hw _ (List.mem_of_getElem? (i := 11) rfl))) (mvT hZ (hw _ (List.mem_of_getElem? (i := 10) rfl))) (by decide) (backOf (W := 0) (rmF6 l Z a0 hw [] u_GREATER u_LESS u_LESS_OR_EQUAL h0 n0 Z0 S_LESS S_LESS_OR_EQUAL S_GREATER ne_u_LESS_u_GREATER ne_u_LESS_OR_EQUAL_u_GREATER) hZ (hw _ (List.mem_of_getElem? (i := 12) rfl)) (hw _ (List.mem_of_getElem? (i := 6) rfl)) (by decide) (by decide)) q32a q32c (g := (mkF m 75 #[.val (.int k), .val (.long a), .second, .val (.long b), .second, .val (.int (4 : Int32)), .val (.ref u_LESS), .val (.ref u_GREATER), .val (.int (6 : Int32))] [(.ref u_GREATER)])) rfl (by rw [hml]; rfl) (Steps.refl _) (argsL := []) (rest := []) (lenOf pd_1 rfl) rfl (by show 2 * 0 + _ ≤ _; exact Nat.le_of_eq rfl) (hb hby at_75) (fun _ _ => ⟨rfl, e31, (by decide : 0 + 0 ≤ _), (by decide : 0 + 0 ≤ _)⟩)
      dsimp only [Pt.U, Pt.locs, Pt.cells, Pt.slots] at X32 l32 y32 z32 st32 hQ32
      subst l32 y32 z32
      obtain ⟨h32, e32⟩ : ∃ hh, T32.heap = hh := ⟨_, rfl⟩
      rw [e32] at hQ32
      obtain ⟨rfl, N32q, sm32⟩ := hQ32
      have N32 := Fr.app N31 N32q
      refine Go.st (fun _ kk => st32.trans kk) ?_
      rw [sm32] at e32
      show Go p e below s _ _ _ T32 (mkF m 78 #[.val (.int k), .val (.long a), .second, .val (.long b), .second, .val (.int (4 : Int32)), .val (.ref u_LESS), .val (.ref u_GREATER), .val (.int (6 : Int32))] [(.ref u_LESS)])
      refine Go.st (fun _ => XS.aload X32.here hx rfl (hb hby at_78) rfl rfl) ?_
      show Go p e below s _ _ _ T32 (mkF m 80 #[.val (.int k), .val (.long a), .second, .val (.long b), .second, .val (.int (4 : Int32)), .val (.ref u_LESS), .val (.ref u_GREATER), .val (.int (6 : Int32))] [(.ref u_LESS), (.ref u_LESS)])
      refine Go.st (fun _ => Jvm.RoadKit.acmp (g := (mkF m 80 #[.val (.int k), .val (.long a), .second, .val (.long b), .second, .val (.int (4 : Int32)), .val (.ref u_LESS), .val (.ref u_GREATER), .val (.int (6 : Int32))] [(.ref u_LESS), (.ref u_LESS)])) X32 hx rfl rfl rfl (pc0 := 80) (pc' := 83) (same := true) rfl (hb hby at_80) rfl (decide_eq_true rfl) (by decide) (by decide)) ?_
      show Go p e below s _ _ _ T32 (mkF m 83 #[.val (.int k), .val (.long a), .second, .val (.long b), .second, .val (.int (4 : Int32)), .val (.ref u_LESS), .val (.ref u_GREATER), .val (.int (6 : Int32))] [])
      refine Go.st (fun _ => XS.iconst X32.here hx rfl (hb hby at_83)) ?_
      show Go p e below s _ _ _ T32 (mkF m 84 #[.val (.int k), .val (.long a), .second, .val (.long b), .second, .val (.int (4 : Int32)), .val (.ref u_LESS), .val (.ref u_GREATER), .val (.int (6 : Int32))] [(.int (1 : Int32))])
      refine Go.st (fun _ => XS.goto X32.here hx rfl (pc0 := 84) (pc' := 88) rfl (hb hby at_84) (by decide) (by decide)) ?_
      show Go p e below s _ _ _ T32 (mkF m 88 #[.val (.int k), .val (.long a), .second, .val (.long b), .second, .val (.int (4 : Int32)), .val (.ref u_LESS), .val (.ref u_GREATER), .val (.int (6 : Int32))] [(.int (1 : Int32))])
      exact Go.retZ X32 hx hlk Bd.returns (hb hby at_88) rfl (by rw [e32]; exact ⟨rfl, N32⟩) (by decide) (by decide)
    · rw [show (b2i (a < b)) = (0 : Int32) from b2i_neg hc30]
      show Go p e below s _ _ _ T29 (mkF m 63 #[.val (.int k), .val (.long a), .second, .val (.long b), .second, .val (.int (4 : Int32)), .val (.ref u_LESS), .val (.ref u_GREATER), .val (.int (6 : Int32))] [(.int (0 : Int32))])
      refine Go.st (fun _ => XS.iload X29.here hx rfl (hb hby at_63) rfl) ?_
      show Go p e below s _ _ _ T29 (mkF m 65 #[.val (.int k), .val (.long a), .second, .val (.long b), .second, .val (.int (4 : Int32)), .val (.ref u_LESS), .val (.ref u_GREATER), .val (.int (6 : Int32))] [(.int (6 : Int32)), (.int (0 : Int32))])
      refine Go.st (fun _ => XS.lloadN X29.here hx rfl (hb hby at_65) rfl) ?_
      show Go p e below s _ _ _ T29 (mkF m 66 #[.val (.int k), .val (.long a), .second, .val (.long b), .second, .val (.int (4 : Int32)), .val (.ref u_LESS), .val (.ref u_GREATER), .val (.int (6 : Int32))] [(.long b), (.int (6 : Int32)), (.int (0 : Int32))])
      refine Go.st (fun _ => XS.lloadN X29.here hx rfl (hb hby at_66) rfl) ?_
      show Go p e below s _ _ _ T29 (mkF m 67 #[.val (.int k), .val (.long a), .second, .val (.long b), .second, .val (.int (4 : Int32)), .val (.ref u_LESS), .val (.ref u_GREATER), .val (.int (6 : Int32))] [(.long a), (.long b), (.int (6 : Int32)), (.int (0 : Int32))])
      obtain ⟨_, _, ⟨T33, L33, kc33, nc33⟩, -, X33, ⟨Lc33, hQ33, l33, y33, z33⟩, st33⟩ := Jvm.LawKit.callS X29 hx (y := (⟨"com/example/moat/moat/xpath/OperatorFlippedPinLaw", "holds", "(IJJ)Z"⟩ : MethodName)) hown (mvT hZ (hw _ (List.mem_of_getElem? (i := 33) rfl))) (mvT hZ (hw _ (List.mem_of_getElem? (i := 34) rfl))) (mvT hZ (hw _ (List.mem_of_getElem? (i := 3) rfl))) (mvT hZ (hw _ (List.mem_of_getElem? (i := 35) rfl))) (by decide) (backOf (W := 1) (rmH6 l Z a0 hw [] b a h0 n0 Z0 ) hZ (hw _ (List.mem_of_getElem? (i := 35) rfl)) (hw _ (List.mem_of_getElem? (i := 3) rfl)) (by decide) (by decide)) (g := (mkF m 67 #[.val (.int k), .val (.long a), .second, .val (.long b), .second, .val (.int (4 : Int32)), .val (.ref u_LESS), .val (.ref u_GREATER), .val (.int (6 : Int32))] [(.long a), (.long b), (.int (6 : Int32)), (.int (0 : Int32))])) rfl (by rw [hml]; rfl) (argsL := [(.int (6 : Int32)), (.long b), (.long a)]) (rest := [(.int (0 : Int32))]) (lenOf pd_3 rfl) rfl (by show 2 * 0 + _ ≤ _; exact Nat.le_of_eq rfl) (hb hby at_67) (fun _ _ => ⟨rfl, e29, (by decide : 0 + 0 ≤ _), (by decide : 0 + 0 ≤ _)⟩)
      dsimp only [Pt.U, Pt.locs, Pt.cells, Pt.slots] at X33 l33 y33 z33 st33 hQ33
      subst l33 y33 z33
      obtain ⟨h33, e33⟩ : ∃ hh, T33.heap = hh := ⟨_, rfl⟩
      rw [e33] at hQ33
      obtain ⟨rfl, N33q, sm33⟩ := hQ33
      have N33 := Fr.app N29 N33q
      refine Go.st st33 ?_
      rw [sm33] at e33
      show Go p e below s _ _ _ T33 (mkF m 70 #[.val (.int k), .val (.long a), .second, .val (.long b), .second, .val (.int (4 : Int32)), .val (.ref u_LESS), .val (.ref u_GREATER), .val (.int (6 : Int32))] [(.int (b2i (a < b))), (.int (0 : Int32))])
      rw [show (b2i (a < b)) = (0 : Int32) from b2i_neg hc30]
      show Go p e below s _ _ _ T33 (mkF m 70 #[.val (.int k), .val (.long a), .second, .val (.long b), .second, .val (.int (4 : Int32)), .val (.ref u_LESS), .val (.ref u_GREATER), .val (.int (6 : Int32))] [(.int (0 : Int32)), (.int (0 : Int32))])
      refine Go.st (fun _ => XS.icmpNo X33.here hx rfl (hb hby at_70) rfl (teq (by decide : (0 : Int32) = (0 : Int32))).2) ?_
      show Go p e below s _ _ _ T33 (mkF m 73 #[.val (.int k), .val (.long a), .second, .val (.long b), .second, .val (.int (4 : Int32)), .val (.ref u_LESS), .val (.ref u_GREATER), .val (.int (6 : Int32))] [])
      refine Go.st (fun _ => XS.aload X33.here hx rfl (hb hby at_73) rfl rfl) ?_
      show Go p e below s _ _ _ T33 (mkF m 75 #[.val (.int k), .val (.long a), .second, .val (.long b), .second, .val (.int (4 : Int32)), .val (.ref u_LESS), .val (.ref u_GREATER), .val (.int (6 : Int32))] [(.ref u_GREATER)])
      obtain ⟨cq34, kq34, q34a, q34b, q34c⟩ := isOf hZ e33 E_u_GREATER
      obtain ⟨_, _, ⟨T34, L34, kc34, nc34⟩, -, X34, ⟨Lc34, hQ34, l34, y34, z34⟩, st34⟩ := X33.virtualBack hx (y := (⟨"com/example/moat/moat/xpath/Operation$Operator", "flipped", "()Lcom/example/moat/moat/xpath/Operation$Operator;"⟩ : MethodName)) (z := (⟨"com/example/moat/moat/xpath/Operation$Operator", "flipped", "()Lcom/example/moat/moat/xpath/Operation$Operator;"⟩ : MethodName)) hown (mvT hZ (hw _ (List.mem_of_getElem? (i := 8) rfl))) (mvT hZ (hw _ (List.mem_of_getElem? (i := 9) rfl))) (notFace_of_selects (args := #[]) (mvT hZ (hw _ (List.mem_of_getElem? (i := 11) rfl)))) (mvT hZ (hw _ (List.mem_of_getElem? (i := 11) rfl))) (mvT hZ (hw _ (List.mem_of_getElem? (i := 10) rfl))) (by decide) (backOf (W := 0) (rmF6 l Z a0 hw [] u_GREATER u_LESS u_LESS_OR_EQUAL h0 n0 Z0 S_LESS S_LESS_OR_EQUAL S_GREATER ne_u_LESS_u_GREATER ne_u_LESS_OR_EQUAL_u_GREATER) hZ (hw _ (List.mem_of_getElem? (i := 12) rfl)) (hw _ (List.mem_of_getElem? (i := 6) rfl)) (by decide) (by decide)) q34a q34c (g := (mkF m 75 #[.val (.int k), .val (.long a), .second, .val (.long b), .second, .val (.int (4 : Int32)), .val (.ref u_LESS), .val (.ref u_GREATER), .val (.int (6 : Int32))] [(.ref u_GREATER)])) rfl (by rw [hml]; rfl) (Steps.refl _) (argsL := []) (rest := []) (lenOf pd_1 rfl) rfl (by show 2 * 0 + _ ≤ _; exact Nat.le_of_eq rfl) (hb hby at_75) (fun _ _ => ⟨rfl, e33, (by decide : 0 + 0 ≤ _), (by decide : 0 + 0 ≤ _)⟩)
      dsimp only [Pt.U, Pt.locs, Pt.cells, Pt.slots] at X34 l34 y34 z34 st34 hQ34
      subst l34 y34 z34
      obtain ⟨h34, e34⟩ : ∃ hh, T34.heap = hh := ⟨_, rfl⟩
      rw [e34] at hQ34
      obtain ⟨rfl, N34q, sm34⟩ := hQ34
      have N34 := Fr.app N33 N34q
      refine Go.st (fun _ kk => st34.trans kk) ?_
      rw [sm34] at e34
      show Go p e below s _ _ _ T34 (mkF m 78 #[.val (.int k), .val (.long a), .second, .val (.long b), .second, .val (.int (4 : Int32)), .val (.ref u_LESS), .val (.ref u_GREATER), .val (.int (6 : Int32))] [(.ref u_LESS)])
      refine Go.st (fun _ => XS.aload X34.here hx rfl (hb hby at_78) rfl rfl) ?_
      show Go p e below s _ _ _ T34 (mkF m 80 #[.val (.int k), .val (.long a), .second, .val (.long b), .second, .val (.int (4 : Int32)), .val (.ref u_LESS), .val (.ref u_GREATER), .val (.int (6 : Int32))] [(.ref u_LESS), (.ref u_LESS)])
      refine Go.st (fun _ => Jvm.RoadKit.acmp (g := (mkF m 80 #[.val (.int k), .val (.long a), .second, .val (.long b), .second, .val (.int (4 : Int32)), .val (.ref u_LESS), .val (.ref u_GREATER), .val (.int (6 : Int32))] [(.ref u_LESS), (.ref u_LESS)])) X34 hx rfl rfl rfl (pc0 := 80) (pc' := 83) (same := true) rfl (hb hby at_80) rfl (decide_eq_true rfl) (by decide) (by decide)) ?_
      show Go p e below s _ _ _ T34 (mkF m 83 #[.val (.int k), .val (.long a), .second, .val (.long b), .second, .val (.int (4 : Int32)), .val (.ref u_LESS), .val (.ref u_GREATER), .val (.int (6 : Int32))] [])
      refine Go.st (fun _ => XS.iconst X34.here hx rfl (hb hby at_83)) ?_
      show Go p e below s _ _ _ T34 (mkF m 84 #[.val (.int k), .val (.long a), .second, .val (.long b), .second, .val (.int (4 : Int32)), .val (.ref u_LESS), .val (.ref u_GREATER), .val (.int (6 : Int32))] [(.int (1 : Int32))])
      refine Go.st (fun _ => XS.goto X34.here hx rfl (pc0 := 84) (pc' := 88) rfl (hb hby at_84) (by decide) (by decide)) ?_
      show Go p e below s _ _ _ T34 (mkF m 88 #[.val (.int k), .val (.long a), .second, .val (.long b), .second, .val (.int (4 : Int32)), .val (.ref u_LESS), .val (.ref u_GREATER), .val (.int (6 : Int32))] [(.int (1 : Int32))])
      exact Go.retZ X34 hx hlk Bd.returns (hb hby at_88) rfl (by rw [e34]; exact ⟨rfl, N34⟩) (by decide) (by decide)
  · rw [show ((k &&& (2147483647 : Int32)) % (14 : Int32)) = (5 : Int32) from hd1]
    show Go p e below s _ _ _ s₁ (mkF m 7 #[.val (.int k), .val (.long a), .second, .val (.long b), .second, .unset, .unset, .unset, .unset] [(.int (5 : Int32))])
    refine Go.st (fun _ => XS.istore X0.here hx rfl (hb hby at_7) rfl (l' := #[.val (.int k), .val (.long a), .second, .val (.long b), .second, .val (.int (5 : Int32)), .unset, .unset, .unset]) rfl) ?_
    show Go p e below s _ _ _ s₁ (mkF m 9 #[.val (.int k), .val (.long a), .second, .val (.long b), .second, .val (.int (5 : Int32)), .unset, .unset, .unset] [])
    refine Go.st (fun _ => XS.iload X0.here hx rfl (hb hby at_9) rfl) ?_
    show Go p e below s _ _ _ s₁ (mkF m 11 #[.val (.int k), .val (.long a), .second, .val (.long b), .second, .val (.int (5 : Int32)), .unset, .unset, .unset] [(.int (5 : Int32))])
    obtain ⟨_, _, ⟨T35, L35, kc35, nc35⟩, -, X35, ⟨Lc35, hQ35, l35, y35, z35⟩, st35⟩ := Jvm.LawKit.callS X0 hx (y := (⟨"com/example/moat/moat/xpath/OperatorFlippedPinLaw", "pick", "(I)Lcom/example/moat/moat/xpath/Operation$Operator;"⟩ : MethodName)) hown (mvT hZ (hw _ (List.mem_of_getElem? (i := 1) rfl))) (mvT hZ (hw _ (List.mem_of_getElem? (i := 2) rfl))) (mvT hZ (hw _ (List.mem_of_getElem? (i := 3) rfl))) (mvT hZ (hw _ (List.mem_of_getElem? (i := 4) rfl))) (by decide) (backOf (W := 0) (rmP5 l Z a0 hw [] u_LESS_OR_EQUAL h0 n0 Z0 S_LESS_OR_EQUAL) hZ (hw _ (List.mem_of_getElem? (i := 4) rfl)) (hw _ (List.mem_of_getElem? (i := 3) rfl)) (by decide) (by decide)) (g := (mkF m 11 #[.val (.int k), .val (.long a), .second, .val (.long b), .second, .val (.int (5 : Int32)), .unset, .unset, .unset] [(.int (5 : Int32))])) rfl (by rw [hml]; rfl) (argsL := [(.int (5 : Int32))]) (rest := []) (lenOf pd_0 rfl) rfl (by show 2 * 0 + _ ≤ _; exact Nat.le_of_eq rfl) (hb hby at_11) (fun _ _ => ⟨rfl, e0, (by decide : 0 + 0 ≤ _), (by decide : 0 + 0 ≤ _)⟩)
    dsimp only [Pt.U, Pt.locs, Pt.cells, Pt.slots] at X35 l35 y35 z35 st35 hQ35
    subst l35 y35 z35
    obtain ⟨h35, e35⟩ : ∃ hh, T35.heap = hh := ⟨_, rfl⟩
    rw [e35] at hQ35
    obtain ⟨rfl, N35q, sm35⟩ := hQ35
    have N35 := Fr.app N0 N35q
    refine Go.st st35 ?_
    rw [sm35] at e35
    show Go p e below s _ _ _ T35 (mkF m 14 #[.val (.int k), .val (.long a), .second, .val (.long b), .second, .val (.int (5 : Int32)), .unset, .unset, .unset] [(.ref u_LESS_OR_EQUAL)])
    refine Go.st (fun _ => XS.astore X35.here hx rfl (hb hby at_14) rfl rfl (l' := #[.val (.int k), .val (.long a), .second, .val (.long b), .second, .val (.int (5 : Int32)), .val (.ref u_LESS_OR_EQUAL), .unset, .unset]) rfl) ?_
    show Go p e below s _ _ _ T35 (mkF m 16 #[.val (.int k), .val (.long a), .second, .val (.long b), .second, .val (.int (5 : Int32)), .val (.ref u_LESS_OR_EQUAL), .unset, .unset] [])
    refine Go.st (fun _ => XS.aload X35.here hx rfl (hb hby at_16) rfl rfl) ?_
    show Go p e below s _ _ _ T35 (mkF m 18 #[.val (.int k), .val (.long a), .second, .val (.long b), .second, .val (.int (5 : Int32)), .val (.ref u_LESS_OR_EQUAL), .unset, .unset] [(.ref u_LESS_OR_EQUAL)])
    obtain ⟨cq36, kq36, q36a, q36b, q36c⟩ := isOf hZ e35 E_u_LESS_OR_EQUAL
    obtain ⟨_, _, ⟨T36, L36, kc36, nc36⟩, -, X36, ⟨Lc36, hQ36, l36, y36, z36⟩, st36⟩ := X35.virtualBack hx (y := (⟨"com/example/moat/moat/xpath/Operation$Operator", "flipped", "()Lcom/example/moat/moat/xpath/Operation$Operator;"⟩ : MethodName)) (z := (⟨"com/example/moat/moat/xpath/Operation$Operator", "flipped", "()Lcom/example/moat/moat/xpath/Operation$Operator;"⟩ : MethodName)) hown (mvT hZ (hw _ (List.mem_of_getElem? (i := 8) rfl))) (mvT hZ (hw _ (List.mem_of_getElem? (i := 9) rfl))) (notFace_of_selects (args := #[]) (mvT hZ (hw _ (List.mem_of_getElem? (i := 11) rfl)))) (mvT hZ (hw _ (List.mem_of_getElem? (i := 11) rfl))) (mvT hZ (hw _ (List.mem_of_getElem? (i := 10) rfl))) (by decide) (backOf (W := 0) (rmF5 l Z a0 hw [] u_LESS_OR_EQUAL u_LESS u_GREATER_OR_EQUAL h0 n0 Z0 S_LESS S_LESS_OR_EQUAL S_GREATER_OR_EQUAL ne_u_LESS_u_LESS_OR_EQUAL) hZ (hw _ (List.mem_of_getElem? (i := 12) rfl)) (hw _ (List.mem_of_getElem? (i := 6) rfl)) (by decide) (by decide)) q36a q36c (g := (mkF m 18 #[.val (.int k), .val (.long a), .second, .val (.long b), .second, .val (.int (5 : Int32)), .val (.ref u_LESS_OR_EQUAL), .unset, .unset] [(.ref u_LESS_OR_EQUAL)])) rfl (by rw [hml]; rfl) (Steps.refl _) (argsL := []) (rest := []) (lenOf pd_1 rfl) rfl (by show 2 * 0 + _ ≤ _; exact Nat.le_of_eq rfl) (hb hby at_18) (fun _ _ => ⟨rfl, e35, (by decide : 0 + 0 ≤ _), (by decide : 0 + 0 ≤ _)⟩)
    dsimp only [Pt.U, Pt.locs, Pt.cells, Pt.slots] at X36 l36 y36 z36 st36 hQ36
    subst l36 y36 z36
    obtain ⟨h36, e36⟩ : ∃ hh, T36.heap = hh := ⟨_, rfl⟩
    rw [e36] at hQ36
    obtain ⟨rfl, N36q, sm36⟩ := hQ36
    have N36 := Fr.app N35 N36q
    refine Go.st (fun _ kk => st36.trans kk) ?_
    rw [sm36] at e36
    show Go p e below s _ _ _ T36 (mkF m 21 #[.val (.int k), .val (.long a), .second, .val (.long b), .second, .val (.int (5 : Int32)), .val (.ref u_LESS_OR_EQUAL), .unset, .unset] [(.ref u_GREATER_OR_EQUAL)])
    refine Go.st (fun _ => XS.astore X36.here hx rfl (hb hby at_21) rfl rfl (l' := #[.val (.int k), .val (.long a), .second, .val (.long b), .second, .val (.int (5 : Int32)), .val (.ref u_LESS_OR_EQUAL), .val (.ref u_GREATER_OR_EQUAL), .unset]) rfl) ?_
    show Go p e below s _ _ _ T36 (mkF m 23 #[.val (.int k), .val (.long a), .second, .val (.long b), .second, .val (.int (5 : Int32)), .val (.ref u_LESS_OR_EQUAL), .val (.ref u_GREATER_OR_EQUAL), .unset] [])
    refine Go.st (fun _ => XS.aload X36.here hx rfl (hb hby at_23) rfl rfl) ?_
    show Go p e below s _ _ _ T36 (mkF m 25 #[.val (.int k), .val (.long a), .second, .val (.long b), .second, .val (.int (5 : Int32)), .val (.ref u_LESS_OR_EQUAL), .val (.ref u_GREATER_OR_EQUAL), .unset] [(.ref u_GREATER_OR_EQUAL)])
    obtain ⟨_, _, ⟨T37, L37, kc37, nc37⟩, -, X37, ⟨Lc37, hQ37, l37, y37, z37⟩, st37⟩ := Jvm.LawKit.callS X36 hx (y := (⟨"com/example/moat/moat/xpath/OperatorFlippedPinLaw", "index", "(Lcom/example/moat/moat/xpath/Operation$Operator;)I"⟩ : MethodName)) hown (mvT hZ (hw _ (List.mem_of_getElem? (i := 21) rfl))) (mvT hZ (hw _ (List.mem_of_getElem? (i := 22) rfl))) (mvT hZ (hw _ (List.mem_of_getElem? (i := 3) rfl))) (mvT hZ (hw _ (List.mem_of_getElem? (i := 23) rfl))) (by decide) (backOf (W := 0) (rmX7 l Z a0 hw [] u_GREATER_OR_EQUAL u_OR u_AND u_EQUAL u_NOT_EQUAL u_LESS u_LESS_OR_EQUAL u_GREATER h0 n0 Z0 S_OR S_AND S_EQUAL S_NOT_EQUAL S_LESS S_LESS_OR_EQUAL S_GREATER S_GREATER_OR_EQUAL ne_u_OR_u_GREATER_OR_EQUAL ne_u_AND_u_GREATER_OR_EQUAL ne_u_EQUAL_u_GREATER_OR_EQUAL ne_u_NOT_EQUAL_u_GREATER_OR_EQUAL ne_u_LESS_u_GREATER_OR_EQUAL ne_u_LESS_OR_EQUAL_u_GREATER_OR_EQUAL ne_u_GREATER_u_GREATER_OR_EQUAL) hZ (hw _ (List.mem_of_getElem? (i := 23) rfl)) (hw _ (List.mem_of_getElem? (i := 3) rfl)) (by decide) (by decide)) (g := (mkF m 25 #[.val (.int k), .val (.long a), .second, .val (.long b), .second, .val (.int (5 : Int32)), .val (.ref u_LESS_OR_EQUAL), .val (.ref u_GREATER_OR_EQUAL), .unset] [(.ref u_GREATER_OR_EQUAL)])) rfl (by rw [hml]; rfl) (argsL := [(.ref u_GREATER_OR_EQUAL)]) (rest := []) (lenOf pd_2 rfl) rfl (by show 2 * 0 + _ ≤ _; exact Nat.le_of_eq rfl) (hb hby at_25) (fun _ _ => ⟨rfl, e36, (by decide : 0 + 0 ≤ _), (by decide : 0 + 0 ≤ _)⟩)
    dsimp only [Pt.U, Pt.locs, Pt.cells, Pt.slots] at X37 l37 y37 z37 st37 hQ37
    subst l37 y37 z37
    obtain ⟨h37, e37⟩ : ∃ hh, T37.heap = hh := ⟨_, rfl⟩
    rw [e37] at hQ37
    obtain ⟨rfl, N37q, sm37⟩ := hQ37
    have N37 := Fr.app N36 N37q
    refine Go.st st37 ?_
    rw [sm37] at e37
    show Go p e below s _ _ _ T37 (mkF m 28 #[.val (.int k), .val (.long a), .second, .val (.long b), .second, .val (.int (5 : Int32)), .val (.ref u_LESS_OR_EQUAL), .val (.ref u_GREATER_OR_EQUAL), .unset] [(.int (7 : Int32))])
    refine Go.st (fun _ => XS.istore X37.here hx rfl (hb hby at_28) rfl (l' := #[.val (.int k), .val (.long a), .second, .val (.long b), .second, .val (.int (5 : Int32)), .val (.ref u_LESS_OR_EQUAL), .val (.ref u_GREATER_OR_EQUAL), .val (.int (7 : Int32))]) rfl) ?_
    show Go p e below s _ _ _ T37 (mkF m 30 #[.val (.int k), .val (.long a), .second, .val (.long b), .second, .val (.int (5 : Int32)), .val (.ref u_LESS_OR_EQUAL), .val (.ref u_GREATER_OR_EQUAL), .val (.int (7 : Int32))] [])
    refine Go.st (fun _ => XS.iload X37.here hx rfl (hb hby at_30) rfl) ?_
    show Go p e below s _ _ _ T37 (mkF m 32 #[.val (.int k), .val (.long a), .second, .val (.long b), .second, .val (.int (5 : Int32)), .val (.ref u_LESS_OR_EQUAL), .val (.ref u_GREATER_OR_EQUAL), .val (.int (7 : Int32))] [(.int (5 : Int32))])
    refine Go.st (fun _ => XS.iconst X37.here hx rfl (hb hby at_32)) ?_
    show Go p e below s _ _ _ T37 (mkF m 33 #[.val (.int k), .val (.long a), .second, .val (.long b), .second, .val (.int (5 : Int32)), .val (.ref u_LESS_OR_EQUAL), .val (.ref u_GREATER_OR_EQUAL), .val (.int (7 : Int32))] [(.int (2 : Int32)), (.int (5 : Int32))])
    refine Go.st (fun _ => XS.icmpNo X37.here hx rfl (hb hby at_33) rfl (flt (by decide : ¬ ((5 : Int32) < (2 : Int32)))).1) ?_
    show Go p e below s _ _ _ T37 (mkF m 36 #[.val (.int k), .val (.long a), .second, .val (.long b), .second, .val (.int (5 : Int32)), .val (.ref u_LESS_OR_EQUAL), .val (.ref u_GREATER_OR_EQUAL), .val (.int (7 : Int32))] [])
    refine Go.st (fun _ => XS.iload X37.here hx rfl (hb hby at_36) rfl) ?_
    show Go p e below s _ _ _ T37 (mkF m 38 #[.val (.int k), .val (.long a), .second, .val (.long b), .second, .val (.int (5 : Int32)), .val (.ref u_LESS_OR_EQUAL), .val (.ref u_GREATER_OR_EQUAL), .val (.int (7 : Int32))] [(.int (5 : Int32))])
    refine Go.st (fun _ => XS.bipush X37.here hx rfl (hb hby at_38)) ?_
    show Go p e below s _ _ _ T37 (mkF m 40 #[.val (.int k), .val (.long a), .second, .val (.long b), .second, .val (.int (5 : Int32)), .val (.ref u_LESS_OR_EQUAL), .val (.ref u_GREATER_OR_EQUAL), .val (.int (7 : Int32))] [(.int (7 : Int32)), (.int (5 : Int32))])
    refine Go.st (fun _ => XS.icmpNo X37.here hx rfl (hb hby at_40) rfl (flt (by decide : ¬ ((7 : Int32) < (5 : Int32)))).2.2.1) ?_
    show Go p e below s _ _ _ T37 (mkF m 43 #[.val (.int k), .val (.long a), .second, .val (.long b), .second, .val (.int (5 : Int32)), .val (.ref u_LESS_OR_EQUAL), .val (.ref u_GREATER_OR_EQUAL), .val (.int (7 : Int32))] [])
    refine Go.st (fun _ => XS.iload X37.here hx rfl (hb hby at_43) rfl) ?_
    show Go p e below s _ _ _ T37 (mkF m 45 #[.val (.int k), .val (.long a), .second, .val (.long b), .second, .val (.int (5 : Int32)), .val (.ref u_LESS_OR_EQUAL), .val (.ref u_GREATER_OR_EQUAL), .val (.int (7 : Int32))] [(.int (7 : Int32))])
    refine Go.st (fun _ => XS.iconst X37.here hx rfl (hb hby at_45)) ?_
    show Go p e below s _ _ _ T37 (mkF m 46 #[.val (.int k), .val (.long a), .second, .val (.long b), .second, .val (.int (5 : Int32)), .val (.ref u_LESS_OR_EQUAL), .val (.ref u_GREATER_OR_EQUAL), .val (.int (7 : Int32))] [(.int (2 : Int32)), (.int (7 : Int32))])
    refine Go.st (fun _ => XS.icmpNo X37.here hx rfl (hb hby at_46) rfl (flt (by decide : ¬ ((7 : Int32) < (2 : Int32)))).1) ?_
    show Go p e below s _ _ _ T37 (mkF m 49 #[.val (.int k), .val (.long a), .second, .val (.long b), .second, .val (.int (5 : Int32)), .val (.ref u_LESS_OR_EQUAL), .val (.ref u_GREATER_OR_EQUAL), .val (.int (7 : Int32))] [])
    refine Go.st (fun _ => XS.iload X37.here hx rfl (hb hby at_49) rfl) ?_
    show Go p e below s _ _ _ T37 (mkF m 51 #[.val (.int k), .val (.long a), .second, .val (.long b), .second, .val (.int (5 : Int32)), .val (.ref u_LESS_OR_EQUAL), .val (.ref u_GREATER_OR_EQUAL), .val (.int (7 : Int32))] [(.int (7 : Int32))])
    refine Go.st (fun _ => XS.bipush X37.here hx rfl (hb hby at_51)) ?_
    show Go p e below s _ _ _ T37 (mkF m 53 #[.val (.int k), .val (.long a), .second, .val (.long b), .second, .val (.int (5 : Int32)), .val (.ref u_LESS_OR_EQUAL), .val (.ref u_GREATER_OR_EQUAL), .val (.int (7 : Int32))] [(.int (7 : Int32)), (.int (7 : Int32))])
    refine Go.st (fun _ => XS.icmpNo X37.here hx rfl (hb hby at_53) rfl (flt (by decide : ¬ ((7 : Int32) < (7 : Int32)))).2.2.1) ?_
    show Go p e below s _ _ _ T37 (mkF m 56 #[.val (.int k), .val (.long a), .second, .val (.long b), .second, .val (.int (5 : Int32)), .val (.ref u_LESS_OR_EQUAL), .val (.ref u_GREATER_OR_EQUAL), .val (.int (7 : Int32))] [])
    refine Go.st (fun _ => XS.iload X37.here hx rfl (hb hby at_56) rfl) ?_
    show Go p e below s _ _ _ T37 (mkF m 58 #[.val (.int k), .val (.long a), .second, .val (.long b), .second, .val (.int (5 : Int32)), .val (.ref u_LESS_OR_EQUAL), .val (.ref u_GREATER_OR_EQUAL), .val (.int (7 : Int32))] [(.int (5 : Int32))])
    refine Go.st (fun _ => XS.lloadN X37.here hx rfl (hb hby at_58) rfl) ?_
    show Go p e below s _ _ _ T37 (mkF m 59 #[.val (.int k), .val (.long a), .second, .val (.long b), .second, .val (.int (5 : Int32)), .val (.ref u_LESS_OR_EQUAL), .val (.ref u_GREATER_OR_EQUAL), .val (.int (7 : Int32))] [(.long a), (.int (5 : Int32))])
    refine Go.st (fun _ => XS.lloadN X37.here hx rfl (hb hby at_59) rfl) ?_
    show Go p e below s _ _ _ T37 (mkF m 60 #[.val (.int k), .val (.long a), .second, .val (.long b), .second, .val (.int (5 : Int32)), .val (.ref u_LESS_OR_EQUAL), .val (.ref u_GREATER_OR_EQUAL), .val (.int (7 : Int32))] [(.long b), (.long a), (.int (5 : Int32))])
    obtain ⟨_, _, ⟨T38, L38, kc38, nc38⟩, -, X38, ⟨Lc38, hQ38, l38, y38, z38⟩, st38⟩ := Jvm.LawKit.callS X37 hx (y := (⟨"com/example/moat/moat/xpath/OperatorFlippedPinLaw", "holds", "(IJJ)Z"⟩ : MethodName)) hown (mvT hZ (hw _ (List.mem_of_getElem? (i := 33) rfl))) (mvT hZ (hw _ (List.mem_of_getElem? (i := 34) rfl))) (mvT hZ (hw _ (List.mem_of_getElem? (i := 3) rfl))) (mvT hZ (hw _ (List.mem_of_getElem? (i := 35) rfl))) (by decide) (backOf (W := 0) (rmH5 l Z a0 hw [] a b h0 n0 Z0 ) hZ (hw _ (List.mem_of_getElem? (i := 35) rfl)) (hw _ (List.mem_of_getElem? (i := 3) rfl)) (by decide) (by decide)) (g := (mkF m 60 #[.val (.int k), .val (.long a), .second, .val (.long b), .second, .val (.int (5 : Int32)), .val (.ref u_LESS_OR_EQUAL), .val (.ref u_GREATER_OR_EQUAL), .val (.int (7 : Int32))] [(.long b), (.long a), (.int (5 : Int32))])) rfl (by rw [hml]; rfl) (argsL := [(.int (5 : Int32)), (.long a), (.long b)]) (rest := []) (lenOf pd_3 rfl) rfl (by show 2 * 0 + _ ≤ _; exact Nat.le_of_eq rfl) (hb hby at_60) (fun _ _ => ⟨rfl, e37, (by decide : 0 + 0 ≤ _), (by decide : 0 + 0 ≤ _)⟩)
    dsimp only [Pt.U, Pt.locs, Pt.cells, Pt.slots] at X38 l38 y38 z38 st38 hQ38
    subst l38 y38 z38
    obtain ⟨h38, e38⟩ : ∃ hh, T38.heap = hh := ⟨_, rfl⟩
    rw [e38] at hQ38
    obtain ⟨rfl, N38q, sm38⟩ := hQ38
    have N38 := Fr.app N37 N38q
    refine Go.st st38 ?_
    rw [sm38] at e38
    show Go p e below s _ _ _ T38 (mkF m 63 #[.val (.int k), .val (.long a), .second, .val (.long b), .second, .val (.int (5 : Int32)), .val (.ref u_LESS_OR_EQUAL), .val (.ref u_GREATER_OR_EQUAL), .val (.int (7 : Int32))] [(.int (b2i (¬ (b < a))))])
    by_cases hc39 : b < a
    · rw [show (b2i (¬ (b < a))) = (0 : Int32) from b2i_neg (not_not_intro hc39)]
      show Go p e below s _ _ _ T38 (mkF m 63 #[.val (.int k), .val (.long a), .second, .val (.long b), .second, .val (.int (5 : Int32)), .val (.ref u_LESS_OR_EQUAL), .val (.ref u_GREATER_OR_EQUAL), .val (.int (7 : Int32))] [(.int (0 : Int32))])
      refine Go.st (fun _ => XS.iload X38.here hx rfl (hb hby at_63) rfl) ?_
      show Go p e below s _ _ _ T38 (mkF m 65 #[.val (.int k), .val (.long a), .second, .val (.long b), .second, .val (.int (5 : Int32)), .val (.ref u_LESS_OR_EQUAL), .val (.ref u_GREATER_OR_EQUAL), .val (.int (7 : Int32))] [(.int (7 : Int32)), (.int (0 : Int32))])
      refine Go.st (fun _ => XS.lloadN X38.here hx rfl (hb hby at_65) rfl) ?_
      show Go p e below s _ _ _ T38 (mkF m 66 #[.val (.int k), .val (.long a), .second, .val (.long b), .second, .val (.int (5 : Int32)), .val (.ref u_LESS_OR_EQUAL), .val (.ref u_GREATER_OR_EQUAL), .val (.int (7 : Int32))] [(.long b), (.int (7 : Int32)), (.int (0 : Int32))])
      refine Go.st (fun _ => XS.lloadN X38.here hx rfl (hb hby at_66) rfl) ?_
      show Go p e below s _ _ _ T38 (mkF m 67 #[.val (.int k), .val (.long a), .second, .val (.long b), .second, .val (.int (5 : Int32)), .val (.ref u_LESS_OR_EQUAL), .val (.ref u_GREATER_OR_EQUAL), .val (.int (7 : Int32))] [(.long a), (.long b), (.int (7 : Int32)), (.int (0 : Int32))])
      obtain ⟨_, _, ⟨T40, L40, kc40, nc40⟩, -, X40, ⟨Lc40, hQ40, l40, y40, z40⟩, st40⟩ := Jvm.LawKit.callS X38 hx (y := (⟨"com/example/moat/moat/xpath/OperatorFlippedPinLaw", "holds", "(IJJ)Z"⟩ : MethodName)) hown (mvT hZ (hw _ (List.mem_of_getElem? (i := 33) rfl))) (mvT hZ (hw _ (List.mem_of_getElem? (i := 34) rfl))) (mvT hZ (hw _ (List.mem_of_getElem? (i := 3) rfl))) (mvT hZ (hw _ (List.mem_of_getElem? (i := 35) rfl))) (by decide) (backOf (W := 1) (rmH7 l Z a0 hw [] b a h0 n0 Z0 ) hZ (hw _ (List.mem_of_getElem? (i := 35) rfl)) (hw _ (List.mem_of_getElem? (i := 3) rfl)) (by decide) (by decide)) (g := (mkF m 67 #[.val (.int k), .val (.long a), .second, .val (.long b), .second, .val (.int (5 : Int32)), .val (.ref u_LESS_OR_EQUAL), .val (.ref u_GREATER_OR_EQUAL), .val (.int (7 : Int32))] [(.long a), (.long b), (.int (7 : Int32)), (.int (0 : Int32))])) rfl (by rw [hml]; rfl) (argsL := [(.int (7 : Int32)), (.long b), (.long a)]) (rest := [(.int (0 : Int32))]) (lenOf pd_3 rfl) rfl (by show 2 * 0 + _ ≤ _; exact Nat.le_of_eq rfl) (hb hby at_67) (fun _ _ => ⟨rfl, e38, (by decide : 0 + 0 ≤ _), (by decide : 0 + 0 ≤ _)⟩)
      dsimp only [Pt.U, Pt.locs, Pt.cells, Pt.slots] at X40 l40 y40 z40 st40 hQ40
      subst l40 y40 z40
      obtain ⟨h40, e40⟩ : ∃ hh, T40.heap = hh := ⟨_, rfl⟩
      rw [e40] at hQ40
      obtain ⟨rfl, N40q, sm40⟩ := hQ40
      have N40 := Fr.app N38 N40q
      refine Go.st st40 ?_
      rw [sm40] at e40
      show Go p e below s _ _ _ T40 (mkF m 70 #[.val (.int k), .val (.long a), .second, .val (.long b), .second, .val (.int (5 : Int32)), .val (.ref u_LESS_OR_EQUAL), .val (.ref u_GREATER_OR_EQUAL), .val (.int (7 : Int32))] [(.int (b2i (¬ (b < a)))), (.int (0 : Int32))])
      rw [show (b2i (¬ (b < a))) = (0 : Int32) from b2i_neg (not_not_intro hc39)]
      show Go p e below s _ _ _ T40 (mkF m 70 #[.val (.int k), .val (.long a), .second, .val (.long b), .second, .val (.int (5 : Int32)), .val (.ref u_LESS_OR_EQUAL), .val (.ref u_GREATER_OR_EQUAL), .val (.int (7 : Int32))] [(.int (0 : Int32)), (.int (0 : Int32))])
      refine Go.st (fun _ => XS.icmpNo X40.here hx rfl (hb hby at_70) rfl (teq (by decide : (0 : Int32) = (0 : Int32))).2) ?_
      show Go p e below s _ _ _ T40 (mkF m 73 #[.val (.int k), .val (.long a), .second, .val (.long b), .second, .val (.int (5 : Int32)), .val (.ref u_LESS_OR_EQUAL), .val (.ref u_GREATER_OR_EQUAL), .val (.int (7 : Int32))] [])
      refine Go.st (fun _ => XS.aload X40.here hx rfl (hb hby at_73) rfl rfl) ?_
      show Go p e below s _ _ _ T40 (mkF m 75 #[.val (.int k), .val (.long a), .second, .val (.long b), .second, .val (.int (5 : Int32)), .val (.ref u_LESS_OR_EQUAL), .val (.ref u_GREATER_OR_EQUAL), .val (.int (7 : Int32))] [(.ref u_GREATER_OR_EQUAL)])
      obtain ⟨cq41, kq41, q41a, q41b, q41c⟩ := isOf hZ e40 E_u_GREATER_OR_EQUAL
      obtain ⟨_, _, ⟨T41, L41, kc41, nc41⟩, -, X41, ⟨Lc41, hQ41, l41, y41, z41⟩, st41⟩ := X40.virtualBack hx (y := (⟨"com/example/moat/moat/xpath/Operation$Operator", "flipped", "()Lcom/example/moat/moat/xpath/Operation$Operator;"⟩ : MethodName)) (z := (⟨"com/example/moat/moat/xpath/Operation$Operator", "flipped", "()Lcom/example/moat/moat/xpath/Operation$Operator;"⟩ : MethodName)) hown (mvT hZ (hw _ (List.mem_of_getElem? (i := 8) rfl))) (mvT hZ (hw _ (List.mem_of_getElem? (i := 9) rfl))) (notFace_of_selects (args := #[]) (mvT hZ (hw _ (List.mem_of_getElem? (i := 11) rfl)))) (mvT hZ (hw _ (List.mem_of_getElem? (i := 11) rfl))) (mvT hZ (hw _ (List.mem_of_getElem? (i := 10) rfl))) (by decide) (backOf (W := 0) (rmF7 l Z a0 hw [] u_GREATER_OR_EQUAL u_LESS u_LESS_OR_EQUAL u_GREATER h0 n0 Z0 S_LESS S_LESS_OR_EQUAL S_GREATER S_GREATER_OR_EQUAL ne_u_LESS_u_GREATER_OR_EQUAL ne_u_LESS_OR_EQUAL_u_GREATER_OR_EQUAL ne_u_GREATER_u_GREATER_OR_EQUAL) hZ (hw _ (List.mem_of_getElem? (i := 12) rfl)) (hw _ (List.mem_of_getElem? (i := 6) rfl)) (by decide) (by decide)) q41a q41c (g := (mkF m 75 #[.val (.int k), .val (.long a), .second, .val (.long b), .second, .val (.int (5 : Int32)), .val (.ref u_LESS_OR_EQUAL), .val (.ref u_GREATER_OR_EQUAL), .val (.int (7 : Int32))] [(.ref u_GREATER_OR_EQUAL)])) rfl (by rw [hml]; rfl) (Steps.refl _) (argsL := []) (rest := []) (lenOf pd_1 rfl) rfl (by show 2 * 0 + _ ≤ _; exact Nat.le_of_eq rfl) (hb hby at_75) (fun _ _ => ⟨rfl, e40, (by decide : 0 + 0 ≤ _), (by decide : 0 + 0 ≤ _)⟩)
      dsimp only [Pt.U, Pt.locs, Pt.cells, Pt.slots] at X41 l41 y41 z41 st41 hQ41
      subst l41 y41 z41
      obtain ⟨h41, e41⟩ : ∃ hh, T41.heap = hh := ⟨_, rfl⟩
      rw [e41] at hQ41
      obtain ⟨rfl, N41q, sm41⟩ := hQ41
      have N41 := Fr.app N40 N41q
      refine Go.st (fun _ kk => st41.trans kk) ?_
      rw [sm41] at e41
      show Go p e below s _ _ _ T41 (mkF m 78 #[.val (.int k), .val (.long a), .second, .val (.long b), .second, .val (.int (5 : Int32)), .val (.ref u_LESS_OR_EQUAL), .val (.ref u_GREATER_OR_EQUAL), .val (.int (7 : Int32))] [(.ref u_LESS_OR_EQUAL)])
      refine Go.st (fun _ => XS.aload X41.here hx rfl (hb hby at_78) rfl rfl) ?_
      show Go p e below s _ _ _ T41 (mkF m 80 #[.val (.int k), .val (.long a), .second, .val (.long b), .second, .val (.int (5 : Int32)), .val (.ref u_LESS_OR_EQUAL), .val (.ref u_GREATER_OR_EQUAL), .val (.int (7 : Int32))] [(.ref u_LESS_OR_EQUAL), (.ref u_LESS_OR_EQUAL)])
      refine Go.st (fun _ => Jvm.RoadKit.acmp (g := (mkF m 80 #[.val (.int k), .val (.long a), .second, .val (.long b), .second, .val (.int (5 : Int32)), .val (.ref u_LESS_OR_EQUAL), .val (.ref u_GREATER_OR_EQUAL), .val (.int (7 : Int32))] [(.ref u_LESS_OR_EQUAL), (.ref u_LESS_OR_EQUAL)])) X41 hx rfl rfl rfl (pc0 := 80) (pc' := 83) (same := true) rfl (hb hby at_80) rfl (decide_eq_true rfl) (by decide) (by decide)) ?_
      show Go p e below s _ _ _ T41 (mkF m 83 #[.val (.int k), .val (.long a), .second, .val (.long b), .second, .val (.int (5 : Int32)), .val (.ref u_LESS_OR_EQUAL), .val (.ref u_GREATER_OR_EQUAL), .val (.int (7 : Int32))] [])
      refine Go.st (fun _ => XS.iconst X41.here hx rfl (hb hby at_83)) ?_
      show Go p e below s _ _ _ T41 (mkF m 84 #[.val (.int k), .val (.long a), .second, .val (.long b), .second, .val (.int (5 : Int32)), .val (.ref u_LESS_OR_EQUAL), .val (.ref u_GREATER_OR_EQUAL), .val (.int (7 : Int32))] [(.int (1 : Int32))])
      refine Go.st (fun _ => XS.goto X41.here hx rfl (pc0 := 84) (pc' := 88) rfl (hb hby at_84) (by decide) (by decide)) ?_
      show Go p e below s _ _ _ T41 (mkF m 88 #[.val (.int k), .val (.long a), .second, .val (.long b), .second, .val (.int (5 : Int32)), .val (.ref u_LESS_OR_EQUAL), .val (.ref u_GREATER_OR_EQUAL), .val (.int (7 : Int32))] [(.int (1 : Int32))])
      exact Go.retZ X41 hx hlk Bd.returns (hb hby at_88) rfl (by rw [e41]; exact ⟨rfl, N41⟩) (by decide) (by decide)
    · rw [show (b2i (¬ (b < a))) = (1 : Int32) from b2i_pos hc39]
      show Go p e below s _ _ _ T38 (mkF m 63 #[.val (.int k), .val (.long a), .second, .val (.long b), .second, .val (.int (5 : Int32)), .val (.ref u_LESS_OR_EQUAL), .val (.ref u_GREATER_OR_EQUAL), .val (.int (7 : Int32))] [(.int (1 : Int32))])
      refine Go.st (fun _ => XS.iload X38.here hx rfl (hb hby at_63) rfl) ?_
      show Go p e below s _ _ _ T38 (mkF m 65 #[.val (.int k), .val (.long a), .second, .val (.long b), .second, .val (.int (5 : Int32)), .val (.ref u_LESS_OR_EQUAL), .val (.ref u_GREATER_OR_EQUAL), .val (.int (7 : Int32))] [(.int (7 : Int32)), (.int (1 : Int32))])
      refine Go.st (fun _ => XS.lloadN X38.here hx rfl (hb hby at_65) rfl) ?_
      show Go p e below s _ _ _ T38 (mkF m 66 #[.val (.int k), .val (.long a), .second, .val (.long b), .second, .val (.int (5 : Int32)), .val (.ref u_LESS_OR_EQUAL), .val (.ref u_GREATER_OR_EQUAL), .val (.int (7 : Int32))] [(.long b), (.int (7 : Int32)), (.int (1 : Int32))])
      refine Go.st (fun _ => XS.lloadN X38.here hx rfl (hb hby at_66) rfl) ?_
      show Go p e below s _ _ _ T38 (mkF m 67 #[.val (.int k), .val (.long a), .second, .val (.long b), .second, .val (.int (5 : Int32)), .val (.ref u_LESS_OR_EQUAL), .val (.ref u_GREATER_OR_EQUAL), .val (.int (7 : Int32))] [(.long a), (.long b), (.int (7 : Int32)), (.int (1 : Int32))])
      obtain ⟨_, _, ⟨T42, L42, kc42, nc42⟩, -, X42, ⟨Lc42, hQ42, l42, y42, z42⟩, st42⟩ := Jvm.LawKit.callS X38 hx (y := (⟨"com/example/moat/moat/xpath/OperatorFlippedPinLaw", "holds", "(IJJ)Z"⟩ : MethodName)) hown (mvT hZ (hw _ (List.mem_of_getElem? (i := 33) rfl))) (mvT hZ (hw _ (List.mem_of_getElem? (i := 34) rfl))) (mvT hZ (hw _ (List.mem_of_getElem? (i := 3) rfl))) (mvT hZ (hw _ (List.mem_of_getElem? (i := 35) rfl))) (by decide) (backOf (W := 1) (rmH7 l Z a0 hw [] b a h0 n0 Z0 ) hZ (hw _ (List.mem_of_getElem? (i := 35) rfl)) (hw _ (List.mem_of_getElem? (i := 3) rfl)) (by decide) (by decide)) (g := (mkF m 67 #[.val (.int k), .val (.long a), .second, .val (.long b), .second, .val (.int (5 : Int32)), .val (.ref u_LESS_OR_EQUAL), .val (.ref u_GREATER_OR_EQUAL), .val (.int (7 : Int32))] [(.long a), (.long b), (.int (7 : Int32)), (.int (1 : Int32))])) rfl (by rw [hml]; rfl) (argsL := [(.int (7 : Int32)), (.long b), (.long a)]) (rest := [(.int (1 : Int32))]) (lenOf pd_3 rfl) rfl (by show 2 * 0 + _ ≤ _; exact Nat.le_of_eq rfl) (hb hby at_67) (fun _ _ => ⟨rfl, e38, (by decide : 0 + 0 ≤ _), (by decide : 0 + 0 ≤ _)⟩)
      dsimp only [Pt.U, Pt.locs, Pt.cells, Pt.slots] at X42 l42 y42 z42 st42 hQ42
      subst l42 y42 z42
      obtain ⟨h42, e42⟩ : ∃ hh, T42.heap = hh := ⟨_, rfl⟩
      rw [e42] at hQ42
      obtain ⟨rfl, N42q, sm42⟩ := hQ42
      have N42 := Fr.app N38 N42q
      refine Go.st st42 ?_
      rw [sm42] at e42
      show Go p e below s _ _ _ T42 (mkF m 70 #[.val (.int k), .val (.long a), .second, .val (.long b), .second, .val (.int (5 : Int32)), .val (.ref u_LESS_OR_EQUAL), .val (.ref u_GREATER_OR_EQUAL), .val (.int (7 : Int32))] [(.int (b2i (¬ (b < a)))), (.int (1 : Int32))])
      rw [show (b2i (¬ (b < a))) = (1 : Int32) from b2i_pos hc39]
      show Go p e below s _ _ _ T42 (mkF m 70 #[.val (.int k), .val (.long a), .second, .val (.long b), .second, .val (.int (5 : Int32)), .val (.ref u_LESS_OR_EQUAL), .val (.ref u_GREATER_OR_EQUAL), .val (.int (7 : Int32))] [(.int (1 : Int32)), (.int (1 : Int32))])
      refine Go.st (fun _ => XS.icmpNo X42.here hx rfl (hb hby at_70) rfl (teq (by decide : (1 : Int32) = (1 : Int32))).2) ?_
      show Go p e below s _ _ _ T42 (mkF m 73 #[.val (.int k), .val (.long a), .second, .val (.long b), .second, .val (.int (5 : Int32)), .val (.ref u_LESS_OR_EQUAL), .val (.ref u_GREATER_OR_EQUAL), .val (.int (7 : Int32))] [])
      refine Go.st (fun _ => XS.aload X42.here hx rfl (hb hby at_73) rfl rfl) ?_
      show Go p e below s _ _ _ T42 (mkF m 75 #[.val (.int k), .val (.long a), .second, .val (.long b), .second, .val (.int (5 : Int32)), .val (.ref u_LESS_OR_EQUAL), .val (.ref u_GREATER_OR_EQUAL), .val (.int (7 : Int32))] [(.ref u_GREATER_OR_EQUAL)])
      obtain ⟨cq43, kq43, q43a, q43b, q43c⟩ := isOf hZ e42 E_u_GREATER_OR_EQUAL
      obtain ⟨_, _, ⟨T43, L43, kc43, nc43⟩, -, X43, ⟨Lc43, hQ43, l43, y43, z43⟩, st43⟩ := X42.virtualBack hx (y := (⟨"com/example/moat/moat/xpath/Operation$Operator", "flipped", "()Lcom/example/moat/moat/xpath/Operation$Operator;"⟩ : MethodName)) (z := (⟨"com/example/moat/moat/xpath/Operation$Operator", "flipped", "()Lcom/example/moat/moat/xpath/Operation$Operator;"⟩ : MethodName)) hown (mvT hZ (hw _ (List.mem_of_getElem? (i := 8) rfl))) (mvT hZ (hw _ (List.mem_of_getElem? (i := 9) rfl))) (notFace_of_selects (args := #[]) (mvT hZ (hw _ (List.mem_of_getElem? (i := 11) rfl)))) (mvT hZ (hw _ (List.mem_of_getElem? (i := 11) rfl))) (mvT hZ (hw _ (List.mem_of_getElem? (i := 10) rfl))) (by decide) (backOf (W := 0) (rmF7 l Z a0 hw [] u_GREATER_OR_EQUAL u_LESS u_LESS_OR_EQUAL u_GREATER h0 n0 Z0 S_LESS S_LESS_OR_EQUAL S_GREATER S_GREATER_OR_EQUAL ne_u_LESS_u_GREATER_OR_EQUAL ne_u_LESS_OR_EQUAL_u_GREATER_OR_EQUAL ne_u_GREATER_u_GREATER_OR_EQUAL) hZ (hw _ (List.mem_of_getElem? (i := 12) rfl)) (hw _ (List.mem_of_getElem? (i := 6) rfl)) (by decide) (by decide)) q43a q43c (g := (mkF m 75 #[.val (.int k), .val (.long a), .second, .val (.long b), .second, .val (.int (5 : Int32)), .val (.ref u_LESS_OR_EQUAL), .val (.ref u_GREATER_OR_EQUAL), .val (.int (7 : Int32))] [(.ref u_GREATER_OR_EQUAL)])) rfl (by rw [hml]; rfl) (Steps.refl _) (argsL := []) (rest := []) (lenOf pd_1 rfl) rfl (by show 2 * 0 + _ ≤ _; exact Nat.le_of_eq rfl) (hb hby at_75) (fun _ _ => ⟨rfl, e42, (by decide : 0 + 0 ≤ _), (by decide : 0 + 0 ≤ _)⟩)
      dsimp only [Pt.U, Pt.locs, Pt.cells, Pt.slots] at X43 l43 y43 z43 st43 hQ43
      subst l43 y43 z43
      obtain ⟨h43, e43⟩ : ∃ hh, T43.heap = hh := ⟨_, rfl⟩
      rw [e43] at hQ43
      obtain ⟨rfl, N43q, sm43⟩ := hQ43
      have N43 := Fr.app N42 N43q
      refine Go.st (fun _ kk => st43.trans kk) ?_
      rw [sm43] at e43
      show Go p e below s _ _ _ T43 (mkF m 78 #[.val (.int k), .val (.long a), .second, .val (.long b), .second, .val (.int (5 : Int32)), .val (.ref u_LESS_OR_EQUAL), .val (.ref u_GREATER_OR_EQUAL), .val (.int (7 : Int32))] [(.ref u_LESS_OR_EQUAL)])
      refine Go.st (fun _ => XS.aload X43.here hx rfl (hb hby at_78) rfl rfl) ?_
      show Go p e below s _ _ _ T43 (mkF m 80 #[.val (.int k), .val (.long a), .second, .val (.long b), .second, .val (.int (5 : Int32)), .val (.ref u_LESS_OR_EQUAL), .val (.ref u_GREATER_OR_EQUAL), .val (.int (7 : Int32))] [(.ref u_LESS_OR_EQUAL), (.ref u_LESS_OR_EQUAL)])
      refine Go.st (fun _ => Jvm.RoadKit.acmp (g := (mkF m 80 #[.val (.int k), .val (.long a), .second, .val (.long b), .second, .val (.int (5 : Int32)), .val (.ref u_LESS_OR_EQUAL), .val (.ref u_GREATER_OR_EQUAL), .val (.int (7 : Int32))] [(.ref u_LESS_OR_EQUAL), (.ref u_LESS_OR_EQUAL)])) X43 hx rfl rfl rfl (pc0 := 80) (pc' := 83) (same := true) rfl (hb hby at_80) rfl (decide_eq_true rfl) (by decide) (by decide)) ?_
      show Go p e below s _ _ _ T43 (mkF m 83 #[.val (.int k), .val (.long a), .second, .val (.long b), .second, .val (.int (5 : Int32)), .val (.ref u_LESS_OR_EQUAL), .val (.ref u_GREATER_OR_EQUAL), .val (.int (7 : Int32))] [])
      refine Go.st (fun _ => XS.iconst X43.here hx rfl (hb hby at_83)) ?_
      show Go p e below s _ _ _ T43 (mkF m 84 #[.val (.int k), .val (.long a), .second, .val (.long b), .second, .val (.int (5 : Int32)), .val (.ref u_LESS_OR_EQUAL), .val (.ref u_GREATER_OR_EQUAL), .val (.int (7 : Int32))] [(.int (1 : Int32))])
      refine Go.st (fun _ => XS.goto X43.here hx rfl (pc0 := 84) (pc' := 88) rfl (hb hby at_84) (by decide) (by decide)) ?_
      show Go p e below s _ _ _ T43 (mkF m 88 #[.val (.int k), .val (.long a), .second, .val (.long b), .second, .val (.int (5 : Int32)), .val (.ref u_LESS_OR_EQUAL), .val (.ref u_GREATER_OR_EQUAL), .val (.int (7 : Int32))] [(.int (1 : Int32))])
      exact Go.retZ X43 hx hlk Bd.returns (hb hby at_88) rfl (by rw [e43]; exact ⟨rfl, N43⟩) (by decide) (by decide)
  · rw [show ((k &&& (2147483647 : Int32)) % (14 : Int32)) = (6 : Int32) from hd1]
    show Go p e below s _ _ _ s₁ (mkF m 7 #[.val (.int k), .val (.long a), .second, .val (.long b), .second, .unset, .unset, .unset, .unset] [(.int (6 : Int32))])
    refine Go.st (fun _ => XS.istore X0.here hx rfl (hb hby at_7) rfl (l' := #[.val (.int k), .val (.long a), .second, .val (.long b), .second, .val (.int (6 : Int32)), .unset, .unset, .unset]) rfl) ?_
    show Go p e below s _ _ _ s₁ (mkF m 9 #[.val (.int k), .val (.long a), .second, .val (.long b), .second, .val (.int (6 : Int32)), .unset, .unset, .unset] [])
    refine Go.st (fun _ => XS.iload X0.here hx rfl (hb hby at_9) rfl) ?_
    show Go p e below s _ _ _ s₁ (mkF m 11 #[.val (.int k), .val (.long a), .second, .val (.long b), .second, .val (.int (6 : Int32)), .unset, .unset, .unset] [(.int (6 : Int32))])
    obtain ⟨_, _, ⟨T44, L44, kc44, nc44⟩, -, X44, ⟨Lc44, hQ44, l44, y44, z44⟩, st44⟩ := Jvm.LawKit.callS X0 hx (y := (⟨"com/example/moat/moat/xpath/OperatorFlippedPinLaw", "pick", "(I)Lcom/example/moat/moat/xpath/Operation$Operator;"⟩ : MethodName)) hown (mvT hZ (hw _ (List.mem_of_getElem? (i := 1) rfl))) (mvT hZ (hw _ (List.mem_of_getElem? (i := 2) rfl))) (mvT hZ (hw _ (List.mem_of_getElem? (i := 3) rfl))) (mvT hZ (hw _ (List.mem_of_getElem? (i := 4) rfl))) (by decide) (backOf (W := 0) (rmP6 l Z a0 hw [] u_GREATER h0 n0 Z0 S_GREATER) hZ (hw _ (List.mem_of_getElem? (i := 4) rfl)) (hw _ (List.mem_of_getElem? (i := 3) rfl)) (by decide) (by decide)) (g := (mkF m 11 #[.val (.int k), .val (.long a), .second, .val (.long b), .second, .val (.int (6 : Int32)), .unset, .unset, .unset] [(.int (6 : Int32))])) rfl (by rw [hml]; rfl) (argsL := [(.int (6 : Int32))]) (rest := []) (lenOf pd_0 rfl) rfl (by show 2 * 0 + _ ≤ _; exact Nat.le_of_eq rfl) (hb hby at_11) (fun _ _ => ⟨rfl, e0, (by decide : 0 + 0 ≤ _), (by decide : 0 + 0 ≤ _)⟩)
    dsimp only [Pt.U, Pt.locs, Pt.cells, Pt.slots] at X44 l44 y44 z44 st44 hQ44
    subst l44 y44 z44
    obtain ⟨h44, e44⟩ : ∃ hh, T44.heap = hh := ⟨_, rfl⟩
    rw [e44] at hQ44
    obtain ⟨rfl, N44q, sm44⟩ := hQ44
    have N44 := Fr.app N0 N44q
    refine Go.st st44 ?_
    rw [sm44] at e44
    show Go p e below s _ _ _ T44 (mkF m 14 #[.val (.int k), .val (.long a), .second, .val (.long b), .second, .val (.int (6 : Int32)), .unset, .unset, .unset] [(.ref u_GREATER)])
    refine Go.st (fun _ => XS.astore X44.here hx rfl (hb hby at_14) rfl rfl (l' := #[.val (.int k), .val (.long a), .second, .val (.long b), .second, .val (.int (6 : Int32)), .val (.ref u_GREATER), .unset, .unset]) rfl) ?_
    show Go p e below s _ _ _ T44 (mkF m 16 #[.val (.int k), .val (.long a), .second, .val (.long b), .second, .val (.int (6 : Int32)), .val (.ref u_GREATER), .unset, .unset] [])
    refine Go.st (fun _ => XS.aload X44.here hx rfl (hb hby at_16) rfl rfl) ?_
    show Go p e below s _ _ _ T44 (mkF m 18 #[.val (.int k), .val (.long a), .second, .val (.long b), .second, .val (.int (6 : Int32)), .val (.ref u_GREATER), .unset, .unset] [(.ref u_GREATER)])
    obtain ⟨cq45, kq45, q45a, q45b, q45c⟩ := isOf hZ e44 E_u_GREATER
    obtain ⟨_, _, ⟨T45, L45, kc45, nc45⟩, -, X45, ⟨Lc45, hQ45, l45, y45, z45⟩, st45⟩ := X44.virtualBack hx (y := (⟨"com/example/moat/moat/xpath/Operation$Operator", "flipped", "()Lcom/example/moat/moat/xpath/Operation$Operator;"⟩ : MethodName)) (z := (⟨"com/example/moat/moat/xpath/Operation$Operator", "flipped", "()Lcom/example/moat/moat/xpath/Operation$Operator;"⟩ : MethodName)) hown (mvT hZ (hw _ (List.mem_of_getElem? (i := 8) rfl))) (mvT hZ (hw _ (List.mem_of_getElem? (i := 9) rfl))) (notFace_of_selects (args := #[]) (mvT hZ (hw _ (List.mem_of_getElem? (i := 11) rfl)))) (mvT hZ (hw _ (List.mem_of_getElem? (i := 11) rfl))) (mvT hZ (hw _ (List.mem_of_getElem? (i := 10) rfl))) (by decide) (backOf (W := 0) (rmF6 l Z a0 hw [] u_GREATER u_LESS u_LESS_OR_EQUAL h0 n0 Z0 S_LESS S_LESS_OR_EQUAL S_GREATER ne_u_LESS_u_GREATER ne_u_LESS_OR_EQUAL_u_GREATER) hZ (hw _ (List.mem_of_getElem? (i := 12) rfl)) (hw _ (List.mem_of_getElem? (i := 6) rfl)) (by decide) (by decide)) q45a q45c (g := (mkF m 18 #[.val (.int k), .val (.long a), .second, .val (.long b), .second, .val (.int (6 : Int32)), .val (.ref u_GREATER), .unset, .unset] [(.ref u_GREATER)])) rfl (by rw [hml]; rfl) (Steps.refl _) (argsL := []) (rest := []) (lenOf pd_1 rfl) rfl (by show 2 * 0 + _ ≤ _; exact Nat.le_of_eq rfl) (hb hby at_18) (fun _ _ => ⟨rfl, e44, (by decide : 0 + 0 ≤ _), (by decide : 0 + 0 ≤ _)⟩)
    dsimp only [Pt.U, Pt.locs, Pt.cells, Pt.slots] at X45 l45 y45 z45 st45 hQ45
    subst l45 y45 z45
    obtain ⟨h45, e45⟩ : ∃ hh, T45.heap = hh := ⟨_, rfl⟩
    rw [e45] at hQ45
    obtain ⟨rfl, N45q, sm45⟩ := hQ45
    have N45 := Fr.app N44 N45q
    refine Go.st (fun _ kk => st45.trans kk) ?_
    rw [sm45] at e45
    show Go p e below s _ _ _ T45 (mkF m 21 #[.val (.int k), .val (.long a), .second, .val (.long b), .second, .val (.int (6 : Int32)), .val (.ref u_GREATER), .unset, .unset] [(.ref u_LESS)])
    refine Go.st (fun _ => XS.astore X45.here hx rfl (hb hby at_21) rfl rfl (l' := #[.val (.int k), .val (.long a), .second, .val (.long b), .second, .val (.int (6 : Int32)), .val (.ref u_GREATER), .val (.ref u_LESS), .unset]) rfl) ?_
    show Go p e below s _ _ _ T45 (mkF m 23 #[.val (.int k), .val (.long a), .second, .val (.long b), .second, .val (.int (6 : Int32)), .val (.ref u_GREATER), .val (.ref u_LESS), .unset] [])
    refine Go.st (fun _ => XS.aload X45.here hx rfl (hb hby at_23) rfl rfl) ?_
    show Go p e below s _ _ _ T45 (mkF m 25 #[.val (.int k), .val (.long a), .second, .val (.long b), .second, .val (.int (6 : Int32)), .val (.ref u_GREATER), .val (.ref u_LESS), .unset] [(.ref u_LESS)])
    obtain ⟨_, _, ⟨T46, L46, kc46, nc46⟩, -, X46, ⟨Lc46, hQ46, l46, y46, z46⟩, st46⟩ := Jvm.LawKit.callS X45 hx (y := (⟨"com/example/moat/moat/xpath/OperatorFlippedPinLaw", "index", "(Lcom/example/moat/moat/xpath/Operation$Operator;)I"⟩ : MethodName)) hown (mvT hZ (hw _ (List.mem_of_getElem? (i := 21) rfl))) (mvT hZ (hw _ (List.mem_of_getElem? (i := 22) rfl))) (mvT hZ (hw _ (List.mem_of_getElem? (i := 3) rfl))) (mvT hZ (hw _ (List.mem_of_getElem? (i := 23) rfl))) (by decide) (backOf (W := 0) (rmX4 l Z a0 hw [] u_LESS u_OR u_AND u_EQUAL u_NOT_EQUAL h0 n0 Z0 S_OR S_AND S_EQUAL S_NOT_EQUAL S_LESS ne_u_OR_u_LESS ne_u_AND_u_LESS ne_u_EQUAL_u_LESS ne_u_NOT_EQUAL_u_LESS) hZ (hw _ (List.mem_of_getElem? (i := 23) rfl)) (hw _ (List.mem_of_getElem? (i := 3) rfl)) (by decide) (by decide)) (g := (mkF m 25 #[.val (.int k), .val (.long a), .second, .val (.long b), .second, .val (.int (6 : Int32)), .val (.ref u_GREATER), .val (.ref u_LESS), .unset] [(.ref u_LESS)])) rfl (by rw [hml]; rfl) (argsL := [(.ref u_LESS)]) (rest := []) (lenOf pd_2 rfl) rfl (by show 2 * 0 + _ ≤ _; exact Nat.le_of_eq rfl) (hb hby at_25) (fun _ _ => ⟨rfl, e45, (by decide : 0 + 0 ≤ _), (by decide : 0 + 0 ≤ _)⟩)
    dsimp only [Pt.U, Pt.locs, Pt.cells, Pt.slots] at X46 l46 y46 z46 st46 hQ46
    subst l46 y46 z46
    obtain ⟨h46, e46⟩ : ∃ hh, T46.heap = hh := ⟨_, rfl⟩
    rw [e46] at hQ46
    obtain ⟨rfl, N46q, sm46⟩ := hQ46
    have N46 := Fr.app N45 N46q
    refine Go.st st46 ?_
    rw [sm46] at e46
    show Go p e below s _ _ _ T46 (mkF m 28 #[.val (.int k), .val (.long a), .second, .val (.long b), .second, .val (.int (6 : Int32)), .val (.ref u_GREATER), .val (.ref u_LESS), .unset] [(.int (4 : Int32))])
    refine Go.st (fun _ => XS.istore X46.here hx rfl (hb hby at_28) rfl (l' := #[.val (.int k), .val (.long a), .second, .val (.long b), .second, .val (.int (6 : Int32)), .val (.ref u_GREATER), .val (.ref u_LESS), .val (.int (4 : Int32))]) rfl) ?_
    show Go p e below s _ _ _ T46 (mkF m 30 #[.val (.int k), .val (.long a), .second, .val (.long b), .second, .val (.int (6 : Int32)), .val (.ref u_GREATER), .val (.ref u_LESS), .val (.int (4 : Int32))] [])
    refine Go.st (fun _ => XS.iload X46.here hx rfl (hb hby at_30) rfl) ?_
    show Go p e below s _ _ _ T46 (mkF m 32 #[.val (.int k), .val (.long a), .second, .val (.long b), .second, .val (.int (6 : Int32)), .val (.ref u_GREATER), .val (.ref u_LESS), .val (.int (4 : Int32))] [(.int (6 : Int32))])
    refine Go.st (fun _ => XS.iconst X46.here hx rfl (hb hby at_32)) ?_
    show Go p e below s _ _ _ T46 (mkF m 33 #[.val (.int k), .val (.long a), .second, .val (.long b), .second, .val (.int (6 : Int32)), .val (.ref u_GREATER), .val (.ref u_LESS), .val (.int (4 : Int32))] [(.int (2 : Int32)), (.int (6 : Int32))])
    refine Go.st (fun _ => XS.icmpNo X46.here hx rfl (hb hby at_33) rfl (flt (by decide : ¬ ((6 : Int32) < (2 : Int32)))).1) ?_
    show Go p e below s _ _ _ T46 (mkF m 36 #[.val (.int k), .val (.long a), .second, .val (.long b), .second, .val (.int (6 : Int32)), .val (.ref u_GREATER), .val (.ref u_LESS), .val (.int (4 : Int32))] [])
    refine Go.st (fun _ => XS.iload X46.here hx rfl (hb hby at_36) rfl) ?_
    show Go p e below s _ _ _ T46 (mkF m 38 #[.val (.int k), .val (.long a), .second, .val (.long b), .second, .val (.int (6 : Int32)), .val (.ref u_GREATER), .val (.ref u_LESS), .val (.int (4 : Int32))] [(.int (6 : Int32))])
    refine Go.st (fun _ => XS.bipush X46.here hx rfl (hb hby at_38)) ?_
    show Go p e below s _ _ _ T46 (mkF m 40 #[.val (.int k), .val (.long a), .second, .val (.long b), .second, .val (.int (6 : Int32)), .val (.ref u_GREATER), .val (.ref u_LESS), .val (.int (4 : Int32))] [(.int (7 : Int32)), (.int (6 : Int32))])
    refine Go.st (fun _ => XS.icmpNo X46.here hx rfl (hb hby at_40) rfl (flt (by decide : ¬ ((7 : Int32) < (6 : Int32)))).2.2.1) ?_
    show Go p e below s _ _ _ T46 (mkF m 43 #[.val (.int k), .val (.long a), .second, .val (.long b), .second, .val (.int (6 : Int32)), .val (.ref u_GREATER), .val (.ref u_LESS), .val (.int (4 : Int32))] [])
    refine Go.st (fun _ => XS.iload X46.here hx rfl (hb hby at_43) rfl) ?_
    show Go p e below s _ _ _ T46 (mkF m 45 #[.val (.int k), .val (.long a), .second, .val (.long b), .second, .val (.int (6 : Int32)), .val (.ref u_GREATER), .val (.ref u_LESS), .val (.int (4 : Int32))] [(.int (4 : Int32))])
    refine Go.st (fun _ => XS.iconst X46.here hx rfl (hb hby at_45)) ?_
    show Go p e below s _ _ _ T46 (mkF m 46 #[.val (.int k), .val (.long a), .second, .val (.long b), .second, .val (.int (6 : Int32)), .val (.ref u_GREATER), .val (.ref u_LESS), .val (.int (4 : Int32))] [(.int (2 : Int32)), (.int (4 : Int32))])
    refine Go.st (fun _ => XS.icmpNo X46.here hx rfl (hb hby at_46) rfl (flt (by decide : ¬ ((4 : Int32) < (2 : Int32)))).1) ?_
    show Go p e below s _ _ _ T46 (mkF m 49 #[.val (.int k), .val (.long a), .second, .val (.long b), .second, .val (.int (6 : Int32)), .val (.ref u_GREATER), .val (.ref u_LESS), .val (.int (4 : Int32))] [])
    refine Go.st (fun _ => XS.iload X46.here hx rfl (hb hby at_49) rfl) ?_
    show Go p e below s _ _ _ T46 (mkF m 51 #[.val (.int k), .val (.long a), .second, .val (.long b), .second, .val (.int (6 : Int32)), .val (.ref u_GREATER), .val (.ref u_LESS), .val (.int (4 : Int32))] [(.int (4 : Int32))])
    refine Go.st (fun _ => XS.bipush X46.here hx rfl (hb hby at_51)) ?_
    show Go p e below s _ _ _ T46 (mkF m 53 #[.val (.int k), .val (.long a), .second, .val (.long b), .second, .val (.int (6 : Int32)), .val (.ref u_GREATER), .val (.ref u_LESS), .val (.int (4 : Int32))] [(.int (7 : Int32)), (.int (4 : Int32))])
    refine Go.st (fun _ => XS.icmpNo X46.here hx rfl (hb hby at_53) rfl (flt (by decide : ¬ ((7 : Int32) < (4 : Int32)))).2.2.1) ?_
    show Go p e below s _ _ _ T46 (mkF m 56 #[.val (.int k), .val (.long a), .second, .val (.long b), .second, .val (.int (6 : Int32)), .val (.ref u_GREATER), .val (.ref u_LESS), .val (.int (4 : Int32))] [])
    refine Go.st (fun _ => XS.iload X46.here hx rfl (hb hby at_56) rfl) ?_
    show Go p e below s _ _ _ T46 (mkF m 58 #[.val (.int k), .val (.long a), .second, .val (.long b), .second, .val (.int (6 : Int32)), .val (.ref u_GREATER), .val (.ref u_LESS), .val (.int (4 : Int32))] [(.int (6 : Int32))])
    refine Go.st (fun _ => XS.lloadN X46.here hx rfl (hb hby at_58) rfl) ?_
    show Go p e below s _ _ _ T46 (mkF m 59 #[.val (.int k), .val (.long a), .second, .val (.long b), .second, .val (.int (6 : Int32)), .val (.ref u_GREATER), .val (.ref u_LESS), .val (.int (4 : Int32))] [(.long a), (.int (6 : Int32))])
    refine Go.st (fun _ => XS.lloadN X46.here hx rfl (hb hby at_59) rfl) ?_
    show Go p e below s _ _ _ T46 (mkF m 60 #[.val (.int k), .val (.long a), .second, .val (.long b), .second, .val (.int (6 : Int32)), .val (.ref u_GREATER), .val (.ref u_LESS), .val (.int (4 : Int32))] [(.long b), (.long a), (.int (6 : Int32))])
    obtain ⟨_, _, ⟨T47, L47, kc47, nc47⟩, -, X47, ⟨Lc47, hQ47, l47, y47, z47⟩, st47⟩ := Jvm.LawKit.callS X46 hx (y := (⟨"com/example/moat/moat/xpath/OperatorFlippedPinLaw", "holds", "(IJJ)Z"⟩ : MethodName)) hown (mvT hZ (hw _ (List.mem_of_getElem? (i := 33) rfl))) (mvT hZ (hw _ (List.mem_of_getElem? (i := 34) rfl))) (mvT hZ (hw _ (List.mem_of_getElem? (i := 3) rfl))) (mvT hZ (hw _ (List.mem_of_getElem? (i := 35) rfl))) (by decide) (backOf (W := 0) (rmH6 l Z a0 hw [] a b h0 n0 Z0 ) hZ (hw _ (List.mem_of_getElem? (i := 35) rfl)) (hw _ (List.mem_of_getElem? (i := 3) rfl)) (by decide) (by decide)) (g := (mkF m 60 #[.val (.int k), .val (.long a), .second, .val (.long b), .second, .val (.int (6 : Int32)), .val (.ref u_GREATER), .val (.ref u_LESS), .val (.int (4 : Int32))] [(.long b), (.long a), (.int (6 : Int32))])) rfl (by rw [hml]; rfl) (argsL := [(.int (6 : Int32)), (.long a), (.long b)]) (rest := []) (lenOf pd_3 rfl) rfl (by show 2 * 0 + _ ≤ _; exact Nat.le_of_eq rfl) (hb hby at_60) (fun _ _ => ⟨rfl, e46, (by decide : 0 + 0 ≤ _), (by decide : 0 + 0 ≤ _)⟩)
    dsimp only [Pt.U, Pt.locs, Pt.cells, Pt.slots] at X47 l47 y47 z47 st47 hQ47
    subst l47 y47 z47
    obtain ⟨h47, e47⟩ : ∃ hh, T47.heap = hh := ⟨_, rfl⟩
    rw [e47] at hQ47
    obtain ⟨rfl, N47q, sm47⟩ := hQ47
    have N47 := Fr.app N46 N47q
    refine Go.st st47 ?_
    rw [sm47] at e47
    show Go p e below s _ _ _ T47 (mkF m 63 #[.val (.int k), .val (.long a), .second, .val (.long b), .second, .val (.int (6 : Int32)), .val (.ref u_GREATER), .val (.ref u_LESS), .val (.int (4 : Int32))] [(.int (b2i (b < a)))])
    by_cases hc48 : b < a
    · rw [show (b2i (b < a)) = (1 : Int32) from b2i_pos hc48]
      show Go p e below s _ _ _ T47 (mkF m 63 #[.val (.int k), .val (.long a), .second, .val (.long b), .second, .val (.int (6 : Int32)), .val (.ref u_GREATER), .val (.ref u_LESS), .val (.int (4 : Int32))] [(.int (1 : Int32))])
      refine Go.st (fun _ => XS.iload X47.here hx rfl (hb hby at_63) rfl) ?_
      show Go p e below s _ _ _ T47 (mkF m 65 #[.val (.int k), .val (.long a), .second, .val (.long b), .second, .val (.int (6 : Int32)), .val (.ref u_GREATER), .val (.ref u_LESS), .val (.int (4 : Int32))] [(.int (4 : Int32)), (.int (1 : Int32))])
      refine Go.st (fun _ => XS.lloadN X47.here hx rfl (hb hby at_65) rfl) ?_
      show Go p e below s _ _ _ T47 (mkF m 66 #[.val (.int k), .val (.long a), .second, .val (.long b), .second, .val (.int (6 : Int32)), .val (.ref u_GREATER), .val (.ref u_LESS), .val (.int (4 : Int32))] [(.long b), (.int (4 : Int32)), (.int (1 : Int32))])
      refine Go.st (fun _ => XS.lloadN X47.here hx rfl (hb hby at_66) rfl) ?_
      show Go p e below s _ _ _ T47 (mkF m 67 #[.val (.int k), .val (.long a), .second, .val (.long b), .second, .val (.int (6 : Int32)), .val (.ref u_GREATER), .val (.ref u_LESS), .val (.int (4 : Int32))] [(.long a), (.long b), (.int (4 : Int32)), (.int (1 : Int32))])
      obtain ⟨_, _, ⟨T49, L49, kc49, nc49⟩, -, X49, ⟨Lc49, hQ49, l49, y49, z49⟩, st49⟩ := Jvm.LawKit.callS X47 hx (y := (⟨"com/example/moat/moat/xpath/OperatorFlippedPinLaw", "holds", "(IJJ)Z"⟩ : MethodName)) hown (mvT hZ (hw _ (List.mem_of_getElem? (i := 33) rfl))) (mvT hZ (hw _ (List.mem_of_getElem? (i := 34) rfl))) (mvT hZ (hw _ (List.mem_of_getElem? (i := 3) rfl))) (mvT hZ (hw _ (List.mem_of_getElem? (i := 35) rfl))) (by decide) (backOf (W := 1) (rmH4 l Z a0 hw [] b a h0 n0 Z0 ) hZ (hw _ (List.mem_of_getElem? (i := 35) rfl)) (hw _ (List.mem_of_getElem? (i := 3) rfl)) (by decide) (by decide)) (g := (mkF m 67 #[.val (.int k), .val (.long a), .second, .val (.long b), .second, .val (.int (6 : Int32)), .val (.ref u_GREATER), .val (.ref u_LESS), .val (.int (4 : Int32))] [(.long a), (.long b), (.int (4 : Int32)), (.int (1 : Int32))])) rfl (by rw [hml]; rfl) (argsL := [(.int (4 : Int32)), (.long b), (.long a)]) (rest := [(.int (1 : Int32))]) (lenOf pd_3 rfl) rfl (by show 2 * 0 + _ ≤ _; exact Nat.le_of_eq rfl) (hb hby at_67) (fun _ _ => ⟨rfl, e47, (by decide : 0 + 0 ≤ _), (by decide : 0 + 0 ≤ _)⟩)
      dsimp only [Pt.U, Pt.locs, Pt.cells, Pt.slots] at X49 l49 y49 z49 st49 hQ49
      subst l49 y49 z49
      obtain ⟨h49, e49⟩ : ∃ hh, T49.heap = hh := ⟨_, rfl⟩
      rw [e49] at hQ49
      obtain ⟨rfl, N49q, sm49⟩ := hQ49
      have N49 := Fr.app N47 N49q
      refine Go.st st49 ?_
      rw [sm49] at e49
      show Go p e below s _ _ _ T49 (mkF m 70 #[.val (.int k), .val (.long a), .second, .val (.long b), .second, .val (.int (6 : Int32)), .val (.ref u_GREATER), .val (.ref u_LESS), .val (.int (4 : Int32))] [(.int (b2i (b < a))), (.int (1 : Int32))])
      rw [show (b2i (b < a)) = (1 : Int32) from b2i_pos hc48]
      show Go p e below s _ _ _ T49 (mkF m 70 #[.val (.int k), .val (.long a), .second, .val (.long b), .second, .val (.int (6 : Int32)), .val (.ref u_GREATER), .val (.ref u_LESS), .val (.int (4 : Int32))] [(.int (1 : Int32)), (.int (1 : Int32))])
      refine Go.st (fun _ => XS.icmpNo X49.here hx rfl (hb hby at_70) rfl (teq (by decide : (1 : Int32) = (1 : Int32))).2) ?_
      show Go p e below s _ _ _ T49 (mkF m 73 #[.val (.int k), .val (.long a), .second, .val (.long b), .second, .val (.int (6 : Int32)), .val (.ref u_GREATER), .val (.ref u_LESS), .val (.int (4 : Int32))] [])
      refine Go.st (fun _ => XS.aload X49.here hx rfl (hb hby at_73) rfl rfl) ?_
      show Go p e below s _ _ _ T49 (mkF m 75 #[.val (.int k), .val (.long a), .second, .val (.long b), .second, .val (.int (6 : Int32)), .val (.ref u_GREATER), .val (.ref u_LESS), .val (.int (4 : Int32))] [(.ref u_LESS)])
      obtain ⟨cq50, kq50, q50a, q50b, q50c⟩ := isOf hZ e49 E_u_LESS
      obtain ⟨_, _, ⟨T50, L50, kc50, nc50⟩, -, X50, ⟨Lc50, hQ50, l50, y50, z50⟩, st50⟩ := X49.virtualBack hx (y := (⟨"com/example/moat/moat/xpath/Operation$Operator", "flipped", "()Lcom/example/moat/moat/xpath/Operation$Operator;"⟩ : MethodName)) (z := (⟨"com/example/moat/moat/xpath/Operation$Operator", "flipped", "()Lcom/example/moat/moat/xpath/Operation$Operator;"⟩ : MethodName)) hown (mvT hZ (hw _ (List.mem_of_getElem? (i := 8) rfl))) (mvT hZ (hw _ (List.mem_of_getElem? (i := 9) rfl))) (notFace_of_selects (args := #[]) (mvT hZ (hw _ (List.mem_of_getElem? (i := 11) rfl)))) (mvT hZ (hw _ (List.mem_of_getElem? (i := 11) rfl))) (mvT hZ (hw _ (List.mem_of_getElem? (i := 10) rfl))) (by decide) (backOf (W := 0) (rmF4 l Z a0 hw [] u_LESS u_GREATER h0 n0 Z0 S_LESS S_GREATER) hZ (hw _ (List.mem_of_getElem? (i := 12) rfl)) (hw _ (List.mem_of_getElem? (i := 6) rfl)) (by decide) (by decide)) q50a q50c (g := (mkF m 75 #[.val (.int k), .val (.long a), .second, .val (.long b), .second, .val (.int (6 : Int32)), .val (.ref u_GREATER), .val (.ref u_LESS), .val (.int (4 : Int32))] [(.ref u_LESS)])) rfl (by rw [hml]; rfl) (Steps.refl _) (argsL := []) (rest := []) (lenOf pd_1 rfl) rfl (by show 2 * 0 + _ ≤ _; exact Nat.le_of_eq rfl) (hb hby at_75) (fun _ _ => ⟨rfl, e49, (by decide : 0 + 0 ≤ _), (by decide : 0 + 0 ≤ _)⟩)
      dsimp only [Pt.U, Pt.locs, Pt.cells, Pt.slots] at X50 l50 y50 z50 st50 hQ50
      subst l50 y50 z50
      obtain ⟨h50, e50⟩ : ∃ hh, T50.heap = hh := ⟨_, rfl⟩
      rw [e50] at hQ50
      obtain ⟨rfl, N50q, sm50⟩ := hQ50
      have N50 := Fr.app N49 N50q
      refine Go.st (fun _ kk => st50.trans kk) ?_
      rw [sm50] at e50
      show Go p e below s _ _ _ T50 (mkF m 78 #[.val (.int k), .val (.long a), .second, .val (.long b), .second, .val (.int (6 : Int32)), .val (.ref u_GREATER), .val (.ref u_LESS), .val (.int (4 : Int32))] [(.ref u_GREATER)])
      refine Go.st (fun _ => XS.aload X50.here hx rfl (hb hby at_78) rfl rfl) ?_
      show Go p e below s _ _ _ T50 (mkF m 80 #[.val (.int k), .val (.long a), .second, .val (.long b), .second, .val (.int (6 : Int32)), .val (.ref u_GREATER), .val (.ref u_LESS), .val (.int (4 : Int32))] [(.ref u_GREATER), (.ref u_GREATER)])
      refine Go.st (fun _ => Jvm.RoadKit.acmp (g := (mkF m 80 #[.val (.int k), .val (.long a), .second, .val (.long b), .second, .val (.int (6 : Int32)), .val (.ref u_GREATER), .val (.ref u_LESS), .val (.int (4 : Int32))] [(.ref u_GREATER), (.ref u_GREATER)])) X50 hx rfl rfl rfl (pc0 := 80) (pc' := 83) (same := true) rfl (hb hby at_80) rfl (decide_eq_true rfl) (by decide) (by decide)) ?_
      show Go p e below s _ _ _ T50 (mkF m 83 #[.val (.int k), .val (.long a), .second, .val (.long b), .second, .val (.int (6 : Int32)), .val (.ref u_GREATER), .val (.ref u_LESS), .val (.int (4 : Int32))] [])
      refine Go.st (fun _ => XS.iconst X50.here hx rfl (hb hby at_83)) ?_
      show Go p e below s _ _ _ T50 (mkF m 84 #[.val (.int k), .val (.long a), .second, .val (.long b), .second, .val (.int (6 : Int32)), .val (.ref u_GREATER), .val (.ref u_LESS), .val (.int (4 : Int32))] [(.int (1 : Int32))])
      refine Go.st (fun _ => XS.goto X50.here hx rfl (pc0 := 84) (pc' := 88) rfl (hb hby at_84) (by decide) (by decide)) ?_
      show Go p e below s _ _ _ T50 (mkF m 88 #[.val (.int k), .val (.long a), .second, .val (.long b), .second, .val (.int (6 : Int32)), .val (.ref u_GREATER), .val (.ref u_LESS), .val (.int (4 : Int32))] [(.int (1 : Int32))])
      exact Go.retZ X50 hx hlk Bd.returns (hb hby at_88) rfl (by rw [e50]; exact ⟨rfl, N50⟩) (by decide) (by decide)
    · rw [show (b2i (b < a)) = (0 : Int32) from b2i_neg hc48]
      show Go p e below s _ _ _ T47 (mkF m 63 #[.val (.int k), .val (.long a), .second, .val (.long b), .second, .val (.int (6 : Int32)), .val (.ref u_GREATER), .val (.ref u_LESS), .val (.int (4 : Int32))] [(.int (0 : Int32))])
      refine Go.st (fun _ => XS.iload X47.here hx rfl (hb hby at_63) rfl) ?_
      show Go p e below s _ _ _ T47 (mkF m 65 #[.val (.int k), .val (.long a), .second, .val (.long b), .second, .val (.int (6 : Int32)), .val (.ref u_GREATER), .val (.ref u_LESS), .val (.int (4 : Int32))] [(.int (4 : Int32)), (.int (0 : Int32))])
      refine Go.st (fun _ => XS.lloadN X47.here hx rfl (hb hby at_65) rfl) ?_
      show Go p e below s _ _ _ T47 (mkF m 66 #[.val (.int k), .val (.long a), .second, .val (.long b), .second, .val (.int (6 : Int32)), .val (.ref u_GREATER), .val (.ref u_LESS), .val (.int (4 : Int32))] [(.long b), (.int (4 : Int32)), (.int (0 : Int32))])
      refine Go.st (fun _ => XS.lloadN X47.here hx rfl (hb hby at_66) rfl) ?_
      show Go p e below s _ _ _ T47 (mkF m 67 #[.val (.int k), .val (.long a), .second, .val (.long b), .second, .val (.int (6 : Int32)), .val (.ref u_GREATER), .val (.ref u_LESS), .val (.int (4 : Int32))] [(.long a), (.long b), (.int (4 : Int32)), (.int (0 : Int32))])
      obtain ⟨_, _, ⟨T51, L51, kc51, nc51⟩, -, X51, ⟨Lc51, hQ51, l51, y51, z51⟩, st51⟩ := Jvm.LawKit.callS X47 hx (y := (⟨"com/example/moat/moat/xpath/OperatorFlippedPinLaw", "holds", "(IJJ)Z"⟩ : MethodName)) hown (mvT hZ (hw _ (List.mem_of_getElem? (i := 33) rfl))) (mvT hZ (hw _ (List.mem_of_getElem? (i := 34) rfl))) (mvT hZ (hw _ (List.mem_of_getElem? (i := 3) rfl))) (mvT hZ (hw _ (List.mem_of_getElem? (i := 35) rfl))) (by decide) (backOf (W := 1) (rmH4 l Z a0 hw [] b a h0 n0 Z0 ) hZ (hw _ (List.mem_of_getElem? (i := 35) rfl)) (hw _ (List.mem_of_getElem? (i := 3) rfl)) (by decide) (by decide)) (g := (mkF m 67 #[.val (.int k), .val (.long a), .second, .val (.long b), .second, .val (.int (6 : Int32)), .val (.ref u_GREATER), .val (.ref u_LESS), .val (.int (4 : Int32))] [(.long a), (.long b), (.int (4 : Int32)), (.int (0 : Int32))])) rfl (by rw [hml]; rfl) (argsL := [(.int (4 : Int32)), (.long b), (.long a)]) (rest := [(.int (0 : Int32))]) (lenOf pd_3 rfl) rfl (by show 2 * 0 + _ ≤ _; exact Nat.le_of_eq rfl) (hb hby at_67) (fun _ _ => ⟨rfl, e47, (by decide : 0 + 0 ≤ _), (by decide : 0 + 0 ≤ _)⟩)
      dsimp only [Pt.U, Pt.locs, Pt.cells, Pt.slots] at X51 l51 y51 z51 st51 hQ51
      subst l51 y51 z51
      obtain ⟨h51, e51⟩ : ∃ hh, T51.heap = hh := ⟨_, rfl⟩
      rw [e51] at hQ51
      obtain ⟨rfl, N51q, sm51⟩ := hQ51
      have N51 := Fr.app N47 N51q
      refine Go.st st51 ?_
      rw [sm51] at e51
      show Go p e below s _ _ _ T51 (mkF m 70 #[.val (.int k), .val (.long a), .second, .val (.long b), .second, .val (.int (6 : Int32)), .val (.ref u_GREATER), .val (.ref u_LESS), .val (.int (4 : Int32))] [(.int (b2i (b < a))), (.int (0 : Int32))])
      rw [show (b2i (b < a)) = (0 : Int32) from b2i_neg hc48]
      show Go p e below s _ _ _ T51 (mkF m 70 #[.val (.int k), .val (.long a), .second, .val (.long b), .second, .val (.int (6 : Int32)), .val (.ref u_GREATER), .val (.ref u_LESS), .val (.int (4 : Int32))] [(.int (0 : Int32)), (.int (0 : Int32))])
      refine Go.st (fun _ => XS.icmpNo X51.here hx rfl (hb hby at_70) rfl (teq (by decide : (0 : Int32) = (0 : Int32))).2) ?_
      show Go p e below s _ _ _ T51 (mkF m 73 #[.val (.int k), .val (.long a), .second, .val (.long b), .second, .val (.int (6 : Int32)), .val (.ref u_GREATER), .val (.ref u_LESS), .val (.int (4 : Int32))] [])
      refine Go.st (fun _ => XS.aload X51.here hx rfl (hb hby at_73) rfl rfl) ?_
      show Go p e below s _ _ _ T51 (mkF m 75 #[.val (.int k), .val (.long a), .second, .val (.long b), .second, .val (.int (6 : Int32)), .val (.ref u_GREATER), .val (.ref u_LESS), .val (.int (4 : Int32))] [(.ref u_LESS)])
      obtain ⟨cq52, kq52, q52a, q52b, q52c⟩ := isOf hZ e51 E_u_LESS
      obtain ⟨_, _, ⟨T52, L52, kc52, nc52⟩, -, X52, ⟨Lc52, hQ52, l52, y52, z52⟩, st52⟩ := X51.virtualBack hx (y := (⟨"com/example/moat/moat/xpath/Operation$Operator", "flipped", "()Lcom/example/moat/moat/xpath/Operation$Operator;"⟩ : MethodName)) (z := (⟨"com/example/moat/moat/xpath/Operation$Operator", "flipped", "()Lcom/example/moat/moat/xpath/Operation$Operator;"⟩ : MethodName)) hown (mvT hZ (hw _ (List.mem_of_getElem? (i := 8) rfl))) (mvT hZ (hw _ (List.mem_of_getElem? (i := 9) rfl))) (notFace_of_selects (args := #[]) (mvT hZ (hw _ (List.mem_of_getElem? (i := 11) rfl)))) (mvT hZ (hw _ (List.mem_of_getElem? (i := 11) rfl))) (mvT hZ (hw _ (List.mem_of_getElem? (i := 10) rfl))) (by decide) (backOf (W := 0) (rmF4 l Z a0 hw [] u_LESS u_GREATER h0 n0 Z0 S_LESS S_GREATER) hZ (hw _ (List.mem_of_getElem? (i := 12) rfl)) (hw _ (List.mem_of_getElem? (i := 6) rfl)) (by decide) (by decide)) q52a q52c (g := (mkF m 75 #[.val (.int k), .val (.long a), .second, .val (.long b), .second, .val (.int (6 : Int32)), .val (.ref u_GREATER), .val (.ref u_LESS), .val (.int (4 : Int32))] [(.ref u_LESS)])) rfl (by rw [hml]; rfl) (Steps.refl _) (argsL := []) (rest := []) (lenOf pd_1 rfl) rfl (by show 2 * 0 + _ ≤ _; exact Nat.le_of_eq rfl) (hb hby at_75) (fun _ _ => ⟨rfl, e51, (by decide : 0 + 0 ≤ _), (by decide : 0 + 0 ≤ _)⟩)
      dsimp only [Pt.U, Pt.locs, Pt.cells, Pt.slots] at X52 l52 y52 z52 st52 hQ52
      subst l52 y52 z52
      obtain ⟨h52, e52⟩ : ∃ hh, T52.heap = hh := ⟨_, rfl⟩
      rw [e52] at hQ52
      obtain ⟨rfl, N52q, sm52⟩ := hQ52
      have N52 := Fr.app N51 N52q
      refine Go.st (fun _ kk => st52.trans kk) ?_
      rw [sm52] at e52
      show Go p e below s _ _ _ T52 (mkF m 78 #[.val (.int k), .val (.long a), .second, .val (.long b), .second, .val (.int (6 : Int32)), .val (.ref u_GREATER), .val (.ref u_LESS), .val (.int (4 : Int32))] [(.ref u_GREATER)])
      refine Go.st (fun _ => XS.aload X52.here hx rfl (hb hby at_78) rfl rfl) ?_
      show Go p e below s _ _ _ T52 (mkF m 80 #[.val (.int k), .val (.long a), .second, .val (.long b), .second, .val (.int (6 : Int32)), .val (.ref u_GREATER), .val (.ref u_LESS), .val (.int (4 : Int32))] [(.ref u_GREATER), (.ref u_GREATER)])
      refine Go.st (fun _ => Jvm.RoadKit.acmp (g := (mkF m 80 #[.val (.int k), .val (.long a), .second, .val (.long b), .second, .val (.int (6 : Int32)), .val (.ref u_GREATER), .val (.ref u_LESS), .val (.int (4 : Int32))] [(.ref u_GREATER), (.ref u_GREATER)])) X52 hx rfl rfl rfl (pc0 := 80) (pc' := 83) (same := true) rfl (hb hby at_80) rfl (decide_eq_true rfl) (by decide) (by decide)) ?_
      show Go p e below s _ _ _ T52 (mkF m 83 #[.val (.int k), .val (.long a), .second, .val (.long b), .second, .val (.int (6 : Int32)), .val (.ref u_GREATER), .val (.ref u_LESS), .val (.int (4 : Int32))] [])
      refine Go.st (fun _ => XS.iconst X52.here hx rfl (hb hby at_83)) ?_
      show Go p e below s _ _ _ T52 (mkF m 84 #[.val (.int k), .val (.long a), .second, .val (.long b), .second, .val (.int (6 : Int32)), .val (.ref u_GREATER), .val (.ref u_LESS), .val (.int (4 : Int32))] [(.int (1 : Int32))])
      refine Go.st (fun _ => XS.goto X52.here hx rfl (pc0 := 84) (pc' := 88) rfl (hb hby at_84) (by decide) (by decide)) ?_
      show Go p e below s _ _ _ T52 (mkF m 88 #[.val (.int k), .val (.long a), .second, .val (.long b), .second, .val (.int (6 : Int32)), .val (.ref u_GREATER), .val (.ref u_LESS), .val (.int (4 : Int32))] [(.int (1 : Int32))])
      exact Go.retZ X52 hx hlk Bd.returns (hb hby at_88) rfl (by rw [e52]; exact ⟨rfl, N52⟩) (by decide) (by decide)
  · rw [show ((k &&& (2147483647 : Int32)) % (14 : Int32)) = (7 : Int32) from hd1]
    show Go p e below s _ _ _ s₁ (mkF m 7 #[.val (.int k), .val (.long a), .second, .val (.long b), .second, .unset, .unset, .unset, .unset] [(.int (7 : Int32))])
    refine Go.st (fun _ => XS.istore X0.here hx rfl (hb hby at_7) rfl (l' := #[.val (.int k), .val (.long a), .second, .val (.long b), .second, .val (.int (7 : Int32)), .unset, .unset, .unset]) rfl) ?_
    show Go p e below s _ _ _ s₁ (mkF m 9 #[.val (.int k), .val (.long a), .second, .val (.long b), .second, .val (.int (7 : Int32)), .unset, .unset, .unset] [])
    refine Go.st (fun _ => XS.iload X0.here hx rfl (hb hby at_9) rfl) ?_
    show Go p e below s _ _ _ s₁ (mkF m 11 #[.val (.int k), .val (.long a), .second, .val (.long b), .second, .val (.int (7 : Int32)), .unset, .unset, .unset] [(.int (7 : Int32))])
    obtain ⟨_, _, ⟨T53, L53, kc53, nc53⟩, -, X53, ⟨Lc53, hQ53, l53, y53, z53⟩, st53⟩ := Jvm.LawKit.callS X0 hx (y := (⟨"com/example/moat/moat/xpath/OperatorFlippedPinLaw", "pick", "(I)Lcom/example/moat/moat/xpath/Operation$Operator;"⟩ : MethodName)) hown (mvT hZ (hw _ (List.mem_of_getElem? (i := 1) rfl))) (mvT hZ (hw _ (List.mem_of_getElem? (i := 2) rfl))) (mvT hZ (hw _ (List.mem_of_getElem? (i := 3) rfl))) (mvT hZ (hw _ (List.mem_of_getElem? (i := 4) rfl))) (by decide) (backOf (W := 0) (rmP7 l Z a0 hw [] u_GREATER_OR_EQUAL h0 n0 Z0 S_GREATER_OR_EQUAL) hZ (hw _ (List.mem_of_getElem? (i := 4) rfl)) (hw _ (List.mem_of_getElem? (i := 3) rfl)) (by decide) (by decide)) (g := (mkF m 11 #[.val (.int k), .val (.long a), .second, .val (.long b), .second, .val (.int (7 : Int32)), .unset, .unset, .unset] [(.int (7 : Int32))])) rfl (by rw [hml]; rfl) (argsL := [(.int (7 : Int32))]) (rest := []) (lenOf pd_0 rfl) rfl (by show 2 * 0 + _ ≤ _; exact Nat.le_of_eq rfl) (hb hby at_11) (fun _ _ => ⟨rfl, e0, (by decide : 0 + 0 ≤ _), (by decide : 0 + 0 ≤ _)⟩)
    dsimp only [Pt.U, Pt.locs, Pt.cells, Pt.slots] at X53 l53 y53 z53 st53 hQ53
    subst l53 y53 z53
    obtain ⟨h53, e53⟩ : ∃ hh, T53.heap = hh := ⟨_, rfl⟩
    rw [e53] at hQ53
    obtain ⟨rfl, N53q, sm53⟩ := hQ53
    have N53 := Fr.app N0 N53q
    refine Go.st st53 ?_
    rw [sm53] at e53
    show Go p e below s _ _ _ T53 (mkF m 14 #[.val (.int k), .val (.long a), .second, .val (.long b), .second, .val (.int (7 : Int32)), .unset, .unset, .unset] [(.ref u_GREATER_OR_EQUAL)])
    refine Go.st (fun _ => XS.astore X53.here hx rfl (hb hby at_14) rfl rfl (l' := #[.val (.int k), .val (.long a), .second, .val (.long b), .second, .val (.int (7 : Int32)), .val (.ref u_GREATER_OR_EQUAL), .unset, .unset]) rfl) ?_
    show Go p e below s _ _ _ T53 (mkF m 16 #[.val (.int k), .val (.long a), .second, .val (.long b), .second, .val (.int (7 : Int32)), .val (.ref u_GREATER_OR_EQUAL), .unset, .unset] [])
    refine Go.st (fun _ => XS.aload X53.here hx rfl (hb hby at_16) rfl rfl) ?_
    show Go p e below s _ _ _ T53 (mkF m 18 #[.val (.int k), .val (.long a), .second, .val (.long b), .second, .val (.int (7 : Int32)), .val (.ref u_GREATER_OR_EQUAL), .unset, .unset] [(.ref u_GREATER_OR_EQUAL)])
    obtain ⟨cq54, kq54, q54a, q54b, q54c⟩ := isOf hZ e53 E_u_GREATER_OR_EQUAL
    obtain ⟨_, _, ⟨T54, L54, kc54, nc54⟩, -, X54, ⟨Lc54, hQ54, l54, y54, z54⟩, st54⟩ := X53.virtualBack hx (y := (⟨"com/example/moat/moat/xpath/Operation$Operator", "flipped", "()Lcom/example/moat/moat/xpath/Operation$Operator;"⟩ : MethodName)) (z := (⟨"com/example/moat/moat/xpath/Operation$Operator", "flipped", "()Lcom/example/moat/moat/xpath/Operation$Operator;"⟩ : MethodName)) hown (mvT hZ (hw _ (List.mem_of_getElem? (i := 8) rfl))) (mvT hZ (hw _ (List.mem_of_getElem? (i := 9) rfl))) (notFace_of_selects (args := #[]) (mvT hZ (hw _ (List.mem_of_getElem? (i := 11) rfl)))) (mvT hZ (hw _ (List.mem_of_getElem? (i := 11) rfl))) (mvT hZ (hw _ (List.mem_of_getElem? (i := 10) rfl))) (by decide) (backOf (W := 0) (rmF7 l Z a0 hw [] u_GREATER_OR_EQUAL u_LESS u_LESS_OR_EQUAL u_GREATER h0 n0 Z0 S_LESS S_LESS_OR_EQUAL S_GREATER S_GREATER_OR_EQUAL ne_u_LESS_u_GREATER_OR_EQUAL ne_u_LESS_OR_EQUAL_u_GREATER_OR_EQUAL ne_u_GREATER_u_GREATER_OR_EQUAL) hZ (hw _ (List.mem_of_getElem? (i := 12) rfl)) (hw _ (List.mem_of_getElem? (i := 6) rfl)) (by decide) (by decide)) q54a q54c (g := (mkF m 18 #[.val (.int k), .val (.long a), .second, .val (.long b), .second, .val (.int (7 : Int32)), .val (.ref u_GREATER_OR_EQUAL), .unset, .unset] [(.ref u_GREATER_OR_EQUAL)])) rfl (by rw [hml]; rfl) (Steps.refl _) (argsL := []) (rest := []) (lenOf pd_1 rfl) rfl (by show 2 * 0 + _ ≤ _; exact Nat.le_of_eq rfl) (hb hby at_18) (fun _ _ => ⟨rfl, e53, (by decide : 0 + 0 ≤ _), (by decide : 0 + 0 ≤ _)⟩)
    dsimp only [Pt.U, Pt.locs, Pt.cells, Pt.slots] at X54 l54 y54 z54 st54 hQ54
    subst l54 y54 z54
    obtain ⟨h54, e54⟩ : ∃ hh, T54.heap = hh := ⟨_, rfl⟩
    rw [e54] at hQ54
    obtain ⟨rfl, N54q, sm54⟩ := hQ54
    have N54 := Fr.app N53 N54q
    refine Go.st (fun _ kk => st54.trans kk) ?_
    rw [sm54] at e54
    show Go p e below s _ _ _ T54 (mkF m 21 #[.val (.int k), .val (.long a), .second, .val (.long b), .second, .val (.int (7 : Int32)), .val (.ref u_GREATER_OR_EQUAL), .unset, .unset] [(.ref u_LESS_OR_EQUAL)])
    refine Go.st (fun _ => XS.astore X54.here hx rfl (hb hby at_21) rfl rfl (l' := #[.val (.int k), .val (.long a), .second, .val (.long b), .second, .val (.int (7 : Int32)), .val (.ref u_GREATER_OR_EQUAL), .val (.ref u_LESS_OR_EQUAL), .unset]) rfl) ?_
    show Go p e below s _ _ _ T54 (mkF m 23 #[.val (.int k), .val (.long a), .second, .val (.long b), .second, .val (.int (7 : Int32)), .val (.ref u_GREATER_OR_EQUAL), .val (.ref u_LESS_OR_EQUAL), .unset] [])
    refine Go.st (fun _ => XS.aload X54.here hx rfl (hb hby at_23) rfl rfl) ?_
    show Go p e below s _ _ _ T54 (mkF m 25 #[.val (.int k), .val (.long a), .second, .val (.long b), .second, .val (.int (7 : Int32)), .val (.ref u_GREATER_OR_EQUAL), .val (.ref u_LESS_OR_EQUAL), .unset] [(.ref u_LESS_OR_EQUAL)])
    obtain ⟨_, _, ⟨T55, L55, kc55, nc55⟩, -, X55, ⟨Lc55, hQ55, l55, y55, z55⟩, st55⟩ := Jvm.LawKit.callS X54 hx (y := (⟨"com/example/moat/moat/xpath/OperatorFlippedPinLaw", "index", "(Lcom/example/moat/moat/xpath/Operation$Operator;)I"⟩ : MethodName)) hown (mvT hZ (hw _ (List.mem_of_getElem? (i := 21) rfl))) (mvT hZ (hw _ (List.mem_of_getElem? (i := 22) rfl))) (mvT hZ (hw _ (List.mem_of_getElem? (i := 3) rfl))) (mvT hZ (hw _ (List.mem_of_getElem? (i := 23) rfl))) (by decide) (backOf (W := 0) (rmX5 l Z a0 hw [] u_LESS_OR_EQUAL u_OR u_AND u_EQUAL u_NOT_EQUAL u_LESS h0 n0 Z0 S_OR S_AND S_EQUAL S_NOT_EQUAL S_LESS S_LESS_OR_EQUAL ne_u_OR_u_LESS_OR_EQUAL ne_u_AND_u_LESS_OR_EQUAL ne_u_EQUAL_u_LESS_OR_EQUAL ne_u_NOT_EQUAL_u_LESS_OR_EQUAL ne_u_LESS_u_LESS_OR_EQUAL) hZ (hw _ (List.mem_of_getElem? (i := 23) rfl)) (hw _ (List.mem_of_getElem? (i := 3) rfl)) (by decide) (by decide)) (g := (mkF m 25 #[.val (.int k), .val (.long a), .second, .val (.long b), .second, .val (.int (7 : Int32)), .val (.ref u_GREATER_OR_EQUAL), .val (.ref u_LESS_OR_EQUAL), .unset] [(.ref u_LESS_OR_EQUAL)])) rfl (by rw [hml]; rfl) (argsL := [(.ref u_LESS_OR_EQUAL)]) (rest := []) (lenOf pd_2 rfl) rfl (by show 2 * 0 + _ ≤ _; exact Nat.le_of_eq rfl) (hb hby at_25) (fun _ _ => ⟨rfl, e54, (by decide : 0 + 0 ≤ _), (by decide : 0 + 0 ≤ _)⟩)
    dsimp only [Pt.U, Pt.locs, Pt.cells, Pt.slots] at X55 l55 y55 z55 st55 hQ55
    subst l55 y55 z55
    obtain ⟨h55, e55⟩ : ∃ hh, T55.heap = hh := ⟨_, rfl⟩
    rw [e55] at hQ55
    obtain ⟨rfl, N55q, sm55⟩ := hQ55
    have N55 := Fr.app N54 N55q
    refine Go.st st55 ?_
    rw [sm55] at e55
    show Go p e below s _ _ _ T55 (mkF m 28 #[.val (.int k), .val (.long a), .second, .val (.long b), .second, .val (.int (7 : Int32)), .val (.ref u_GREATER_OR_EQUAL), .val (.ref u_LESS_OR_EQUAL), .unset] [(.int (5 : Int32))])
    refine Go.st (fun _ => XS.istore X55.here hx rfl (hb hby at_28) rfl (l' := #[.val (.int k), .val (.long a), .second, .val (.long b), .second, .val (.int (7 : Int32)), .val (.ref u_GREATER_OR_EQUAL), .val (.ref u_LESS_OR_EQUAL), .val (.int (5 : Int32))]) rfl) ?_
    show Go p e below s _ _ _ T55 (mkF m 30 #[.val (.int k), .val (.long a), .second, .val (.long b), .second, .val (.int (7 : Int32)), .val (.ref u_GREATER_OR_EQUAL), .val (.ref u_LESS_OR_EQUAL), .val (.int (5 : Int32))] [])
    refine Go.st (fun _ => XS.iload X55.here hx rfl (hb hby at_30) rfl) ?_
    show Go p e below s _ _ _ T55 (mkF m 32 #[.val (.int k), .val (.long a), .second, .val (.long b), .second, .val (.int (7 : Int32)), .val (.ref u_GREATER_OR_EQUAL), .val (.ref u_LESS_OR_EQUAL), .val (.int (5 : Int32))] [(.int (7 : Int32))])
    refine Go.st (fun _ => XS.iconst X55.here hx rfl (hb hby at_32)) ?_
    show Go p e below s _ _ _ T55 (mkF m 33 #[.val (.int k), .val (.long a), .second, .val (.long b), .second, .val (.int (7 : Int32)), .val (.ref u_GREATER_OR_EQUAL), .val (.ref u_LESS_OR_EQUAL), .val (.int (5 : Int32))] [(.int (2 : Int32)), (.int (7 : Int32))])
    refine Go.st (fun _ => XS.icmpNo X55.here hx rfl (hb hby at_33) rfl (flt (by decide : ¬ ((7 : Int32) < (2 : Int32)))).1) ?_
    show Go p e below s _ _ _ T55 (mkF m 36 #[.val (.int k), .val (.long a), .second, .val (.long b), .second, .val (.int (7 : Int32)), .val (.ref u_GREATER_OR_EQUAL), .val (.ref u_LESS_OR_EQUAL), .val (.int (5 : Int32))] [])
    refine Go.st (fun _ => XS.iload X55.here hx rfl (hb hby at_36) rfl) ?_
    show Go p e below s _ _ _ T55 (mkF m 38 #[.val (.int k), .val (.long a), .second, .val (.long b), .second, .val (.int (7 : Int32)), .val (.ref u_GREATER_OR_EQUAL), .val (.ref u_LESS_OR_EQUAL), .val (.int (5 : Int32))] [(.int (7 : Int32))])
    refine Go.st (fun _ => XS.bipush X55.here hx rfl (hb hby at_38)) ?_
    show Go p e below s _ _ _ T55 (mkF m 40 #[.val (.int k), .val (.long a), .second, .val (.long b), .second, .val (.int (7 : Int32)), .val (.ref u_GREATER_OR_EQUAL), .val (.ref u_LESS_OR_EQUAL), .val (.int (5 : Int32))] [(.int (7 : Int32)), (.int (7 : Int32))])
    refine Go.st (fun _ => XS.icmpNo X55.here hx rfl (hb hby at_40) rfl (flt (by decide : ¬ ((7 : Int32) < (7 : Int32)))).2.2.1) ?_
    show Go p e below s _ _ _ T55 (mkF m 43 #[.val (.int k), .val (.long a), .second, .val (.long b), .second, .val (.int (7 : Int32)), .val (.ref u_GREATER_OR_EQUAL), .val (.ref u_LESS_OR_EQUAL), .val (.int (5 : Int32))] [])
    refine Go.st (fun _ => XS.iload X55.here hx rfl (hb hby at_43) rfl) ?_
    show Go p e below s _ _ _ T55 (mkF m 45 #[.val (.int k), .val (.long a), .second, .val (.long b), .second, .val (.int (7 : Int32)), .val (.ref u_GREATER_OR_EQUAL), .val (.ref u_LESS_OR_EQUAL), .val (.int (5 : Int32))] [(.int (5 : Int32))])
    refine Go.st (fun _ => XS.iconst X55.here hx rfl (hb hby at_45)) ?_
    show Go p e below s _ _ _ T55 (mkF m 46 #[.val (.int k), .val (.long a), .second, .val (.long b), .second, .val (.int (7 : Int32)), .val (.ref u_GREATER_OR_EQUAL), .val (.ref u_LESS_OR_EQUAL), .val (.int (5 : Int32))] [(.int (2 : Int32)), (.int (5 : Int32))])
    refine Go.st (fun _ => XS.icmpNo X55.here hx rfl (hb hby at_46) rfl (flt (by decide : ¬ ((5 : Int32) < (2 : Int32)))).1) ?_
    show Go p e below s _ _ _ T55 (mkF m 49 #[.val (.int k), .val (.long a), .second, .val (.long b), .second, .val (.int (7 : Int32)), .val (.ref u_GREATER_OR_EQUAL), .val (.ref u_LESS_OR_EQUAL), .val (.int (5 : Int32))] [])
    refine Go.st (fun _ => XS.iload X55.here hx rfl (hb hby at_49) rfl) ?_
    show Go p e below s _ _ _ T55 (mkF m 51 #[.val (.int k), .val (.long a), .second, .val (.long b), .second, .val (.int (7 : Int32)), .val (.ref u_GREATER_OR_EQUAL), .val (.ref u_LESS_OR_EQUAL), .val (.int (5 : Int32))] [(.int (5 : Int32))])
    refine Go.st (fun _ => XS.bipush X55.here hx rfl (hb hby at_51)) ?_
    show Go p e below s _ _ _ T55 (mkF m 53 #[.val (.int k), .val (.long a), .second, .val (.long b), .second, .val (.int (7 : Int32)), .val (.ref u_GREATER_OR_EQUAL), .val (.ref u_LESS_OR_EQUAL), .val (.int (5 : Int32))] [(.int (7 : Int32)), (.int (5 : Int32))])
    refine Go.st (fun _ => XS.icmpNo X55.here hx rfl (hb hby at_53) rfl (flt (by decide : ¬ ((7 : Int32) < (5 : Int32)))).2.2.1) ?_
    show Go p e below s _ _ _ T55 (mkF m 56 #[.val (.int k), .val (.long a), .second, .val (.long b), .second, .val (.int (7 : Int32)), .val (.ref u_GREATER_OR_EQUAL), .val (.ref u_LESS_OR_EQUAL), .val (.int (5 : Int32))] [])
    refine Go.st (fun _ => XS.iload X55.here hx rfl (hb hby at_56) rfl) ?_
    show Go p e below s _ _ _ T55 (mkF m 58 #[.val (.int k), .val (.long a), .second, .val (.long b), .second, .val (.int (7 : Int32)), .val (.ref u_GREATER_OR_EQUAL), .val (.ref u_LESS_OR_EQUAL), .val (.int (5 : Int32))] [(.int (7 : Int32))])
    refine Go.st (fun _ => XS.lloadN X55.here hx rfl (hb hby at_58) rfl) ?_
    show Go p e below s _ _ _ T55 (mkF m 59 #[.val (.int k), .val (.long a), .second, .val (.long b), .second, .val (.int (7 : Int32)), .val (.ref u_GREATER_OR_EQUAL), .val (.ref u_LESS_OR_EQUAL), .val (.int (5 : Int32))] [(.long a), (.int (7 : Int32))])
    refine Go.st (fun _ => XS.lloadN X55.here hx rfl (hb hby at_59) rfl) ?_
    show Go p e below s _ _ _ T55 (mkF m 60 #[.val (.int k), .val (.long a), .second, .val (.long b), .second, .val (.int (7 : Int32)), .val (.ref u_GREATER_OR_EQUAL), .val (.ref u_LESS_OR_EQUAL), .val (.int (5 : Int32))] [(.long b), (.long a), (.int (7 : Int32))])
    obtain ⟨_, _, ⟨T56, L56, kc56, nc56⟩, -, X56, ⟨Lc56, hQ56, l56, y56, z56⟩, st56⟩ := Jvm.LawKit.callS X55 hx (y := (⟨"com/example/moat/moat/xpath/OperatorFlippedPinLaw", "holds", "(IJJ)Z"⟩ : MethodName)) hown (mvT hZ (hw _ (List.mem_of_getElem? (i := 33) rfl))) (mvT hZ (hw _ (List.mem_of_getElem? (i := 34) rfl))) (mvT hZ (hw _ (List.mem_of_getElem? (i := 3) rfl))) (mvT hZ (hw _ (List.mem_of_getElem? (i := 35) rfl))) (by decide) (backOf (W := 0) (rmH7 l Z a0 hw [] a b h0 n0 Z0 ) hZ (hw _ (List.mem_of_getElem? (i := 35) rfl)) (hw _ (List.mem_of_getElem? (i := 3) rfl)) (by decide) (by decide)) (g := (mkF m 60 #[.val (.int k), .val (.long a), .second, .val (.long b), .second, .val (.int (7 : Int32)), .val (.ref u_GREATER_OR_EQUAL), .val (.ref u_LESS_OR_EQUAL), .val (.int (5 : Int32))] [(.long b), (.long a), (.int (7 : Int32))])) rfl (by rw [hml]; rfl) (argsL := [(.int (7 : Int32)), (.long a), (.long b)]) (rest := []) (lenOf pd_3 rfl) rfl (by show 2 * 0 + _ ≤ _; exact Nat.le_of_eq rfl) (hb hby at_60) (fun _ _ => ⟨rfl, e55, (by decide : 0 + 0 ≤ _), (by decide : 0 + 0 ≤ _)⟩)
    dsimp only [Pt.U, Pt.locs, Pt.cells, Pt.slots] at X56 l56 y56 z56 st56 hQ56
    subst l56 y56 z56
    obtain ⟨h56, e56⟩ : ∃ hh, T56.heap = hh := ⟨_, rfl⟩
    rw [e56] at hQ56
    obtain ⟨rfl, N56q, sm56⟩ := hQ56
    have N56 := Fr.app N55 N56q
    refine Go.st st56 ?_
    rw [sm56] at e56
    show Go p e below s _ _ _ T56 (mkF m 63 #[.val (.int k), .val (.long a), .second, .val (.long b), .second, .val (.int (7 : Int32)), .val (.ref u_GREATER_OR_EQUAL), .val (.ref u_LESS_OR_EQUAL), .val (.int (5 : Int32))] [(.int (b2i (¬ (a < b))))])
    by_cases hc57 : a < b
    · rw [show (b2i (¬ (a < b))) = (0 : Int32) from b2i_neg (not_not_intro hc57)]
      show Go p e below s _ _ _ T56 (mkF m 63 #[.val (.int k), .val (.long a), .second, .val (.long b), .second, .val (.int (7 : Int32)), .val (.ref u_GREATER_OR_EQUAL), .val (.ref u_LESS_OR_EQUAL), .val (.int (5 : Int32))] [(.int (0 : Int32))])
      refine Go.st (fun _ => XS.iload X56.here hx rfl (hb hby at_63) rfl) ?_
      show Go p e below s _ _ _ T56 (mkF m 65 #[.val (.int k), .val (.long a), .second, .val (.long b), .second, .val (.int (7 : Int32)), .val (.ref u_GREATER_OR_EQUAL), .val (.ref u_LESS_OR_EQUAL), .val (.int (5 : Int32))] [(.int (5 : Int32)), (.int (0 : Int32))])
      refine Go.st (fun _ => XS.lloadN X56.here hx rfl (hb hby at_65) rfl) ?_
      show Go p e below s _ _ _ T56 (mkF m 66 #[.val (.int k), .val (.long a), .second, .val (.long b), .second, .val (.int (7 : Int32)), .val (.ref u_GREATER_OR_EQUAL), .val (.ref u_LESS_OR_EQUAL), .val (.int (5 : Int32))] [(.long b), (.int (5 : Int32)), (.int (0 : Int32))])
      refine Go.st (fun _ => XS.lloadN X56.here hx rfl (hb hby at_66) rfl) ?_
      show Go p e below s _ _ _ T56 (mkF m 67 #[.val (.int k), .val (.long a), .second, .val (.long b), .second, .val (.int (7 : Int32)), .val (.ref u_GREATER_OR_EQUAL), .val (.ref u_LESS_OR_EQUAL), .val (.int (5 : Int32))] [(.long a), (.long b), (.int (5 : Int32)), (.int (0 : Int32))])
      obtain ⟨_, _, ⟨T58, L58, kc58, nc58⟩, -, X58, ⟨Lc58, hQ58, l58, y58, z58⟩, st58⟩ := Jvm.LawKit.callS X56 hx (y := (⟨"com/example/moat/moat/xpath/OperatorFlippedPinLaw", "holds", "(IJJ)Z"⟩ : MethodName)) hown (mvT hZ (hw _ (List.mem_of_getElem? (i := 33) rfl))) (mvT hZ (hw _ (List.mem_of_getElem? (i := 34) rfl))) (mvT hZ (hw _ (List.mem_of_getElem? (i := 3) rfl))) (mvT hZ (hw _ (List.mem_of_getElem? (i := 35) rfl))) (by decide) (backOf (W := 1) (rmH5 l Z a0 hw [] b a h0 n0 Z0 ) hZ (hw _ (List.mem_of_getElem? (i := 35) rfl)) (hw _ (List.mem_of_getElem? (i := 3) rfl)) (by decide) (by decide)) (g := (mkF m 67 #[.val (.int k), .val (.long a), .second, .val (.long b), .second, .val (.int (7 : Int32)), .val (.ref u_GREATER_OR_EQUAL), .val (.ref u_LESS_OR_EQUAL), .val (.int (5 : Int32))] [(.long a), (.long b), (.int (5 : Int32)), (.int (0 : Int32))])) rfl (by rw [hml]; rfl) (argsL := [(.int (5 : Int32)), (.long b), (.long a)]) (rest := [(.int (0 : Int32))]) (lenOf pd_3 rfl) rfl (by show 2 * 0 + _ ≤ _; exact Nat.le_of_eq rfl) (hb hby at_67) (fun _ _ => ⟨rfl, e56, (by decide : 0 + 0 ≤ _), (by decide : 0 + 0 ≤ _)⟩)
      dsimp only [Pt.U, Pt.locs, Pt.cells, Pt.slots] at X58 l58 y58 z58 st58 hQ58
      subst l58 y58 z58
      obtain ⟨h58, e58⟩ : ∃ hh, T58.heap = hh := ⟨_, rfl⟩
      rw [e58] at hQ58
      obtain ⟨rfl, N58q, sm58⟩ := hQ58
      have N58 := Fr.app N56 N58q
      refine Go.st st58 ?_
      rw [sm58] at e58
      show Go p e below s _ _ _ T58 (mkF m 70 #[.val (.int k), .val (.long a), .second, .val (.long b), .second, .val (.int (7 : Int32)), .val (.ref u_GREATER_OR_EQUAL), .val (.ref u_LESS_OR_EQUAL), .val (.int (5 : Int32))] [(.int (b2i (¬ (a < b)))), (.int (0 : Int32))])
      rw [show (b2i (¬ (a < b))) = (0 : Int32) from b2i_neg (not_not_intro hc57)]
      show Go p e below s _ _ _ T58 (mkF m 70 #[.val (.int k), .val (.long a), .second, .val (.long b), .second, .val (.int (7 : Int32)), .val (.ref u_GREATER_OR_EQUAL), .val (.ref u_LESS_OR_EQUAL), .val (.int (5 : Int32))] [(.int (0 : Int32)), (.int (0 : Int32))])
      refine Go.st (fun _ => XS.icmpNo X58.here hx rfl (hb hby at_70) rfl (teq (by decide : (0 : Int32) = (0 : Int32))).2) ?_
      show Go p e below s _ _ _ T58 (mkF m 73 #[.val (.int k), .val (.long a), .second, .val (.long b), .second, .val (.int (7 : Int32)), .val (.ref u_GREATER_OR_EQUAL), .val (.ref u_LESS_OR_EQUAL), .val (.int (5 : Int32))] [])
      refine Go.st (fun _ => XS.aload X58.here hx rfl (hb hby at_73) rfl rfl) ?_
      show Go p e below s _ _ _ T58 (mkF m 75 #[.val (.int k), .val (.long a), .second, .val (.long b), .second, .val (.int (7 : Int32)), .val (.ref u_GREATER_OR_EQUAL), .val (.ref u_LESS_OR_EQUAL), .val (.int (5 : Int32))] [(.ref u_LESS_OR_EQUAL)])
      obtain ⟨cq59, kq59, q59a, q59b, q59c⟩ := isOf hZ e58 E_u_LESS_OR_EQUAL
      obtain ⟨_, _, ⟨T59, L59, kc59, nc59⟩, -, X59, ⟨Lc59, hQ59, l59, y59, z59⟩, st59⟩ := X58.virtualBack hx (y := (⟨"com/example/moat/moat/xpath/Operation$Operator", "flipped", "()Lcom/example/moat/moat/xpath/Operation$Operator;"⟩ : MethodName)) (z := (⟨"com/example/moat/moat/xpath/Operation$Operator", "flipped", "()Lcom/example/moat/moat/xpath/Operation$Operator;"⟩ : MethodName)) hown (mvT hZ (hw _ (List.mem_of_getElem? (i := 8) rfl))) (mvT hZ (hw _ (List.mem_of_getElem? (i := 9) rfl))) (notFace_of_selects (args := #[]) (mvT hZ (hw _ (List.mem_of_getElem? (i := 11) rfl)))) (mvT hZ (hw _ (List.mem_of_getElem? (i := 11) rfl))) (mvT hZ (hw _ (List.mem_of_getElem? (i := 10) rfl))) (by decide) (backOf (W := 0) (rmF5 l Z a0 hw [] u_LESS_OR_EQUAL u_LESS u_GREATER_OR_EQUAL h0 n0 Z0 S_LESS S_LESS_OR_EQUAL S_GREATER_OR_EQUAL ne_u_LESS_u_LESS_OR_EQUAL) hZ (hw _ (List.mem_of_getElem? (i := 12) rfl)) (hw _ (List.mem_of_getElem? (i := 6) rfl)) (by decide) (by decide)) q59a q59c (g := (mkF m 75 #[.val (.int k), .val (.long a), .second, .val (.long b), .second, .val (.int (7 : Int32)), .val (.ref u_GREATER_OR_EQUAL), .val (.ref u_LESS_OR_EQUAL), .val (.int (5 : Int32))] [(.ref u_LESS_OR_EQUAL)])) rfl (by rw [hml]; rfl) (Steps.refl _) (argsL := []) (rest := []) (lenOf pd_1 rfl) rfl (by show 2 * 0 + _ ≤ _; exact Nat.le_of_eq rfl) (hb hby at_75) (fun _ _ => ⟨rfl, e58, (by decide : 0 + 0 ≤ _), (by decide : 0 + 0 ≤ _)⟩)
      dsimp only [Pt.U, Pt.locs, Pt.cells, Pt.slots] at X59 l59 y59 z59 st59 hQ59
      subst l59 y59 z59
      obtain ⟨h59, e59⟩ : ∃ hh, T59.heap = hh := ⟨_, rfl⟩
      rw [e59] at hQ59
      obtain ⟨rfl, N59q, sm59⟩ := hQ59
      have N59 := Fr.app N58 N59q
      refine Go.st (fun _ kk => st59.trans kk) ?_
      rw [sm59] at e59
      show Go p e below s _ _ _ T59 (mkF m 78 #[.val (.int k), .val (.long a), .second, .val (.long b), .second, .val (.int (7 : Int32)), .val (.ref u_GREATER_OR_EQUAL), .val (.ref u_LESS_OR_EQUAL), .val (.int (5 : Int32))] [(.ref u_GREATER_OR_EQUAL)])
      refine Go.st (fun _ => XS.aload X59.here hx rfl (hb hby at_78) rfl rfl) ?_
      show Go p e below s _ _ _ T59 (mkF m 80 #[.val (.int k), .val (.long a), .second, .val (.long b), .second, .val (.int (7 : Int32)), .val (.ref u_GREATER_OR_EQUAL), .val (.ref u_LESS_OR_EQUAL), .val (.int (5 : Int32))] [(.ref u_GREATER_OR_EQUAL), (.ref u_GREATER_OR_EQUAL)])
      refine Go.st (fun _ => Jvm.RoadKit.acmp (g := (mkF m 80 #[.val (.int k), .val (.long a), .second, .val (.long b), .second, .val (.int (7 : Int32)), .val (.ref u_GREATER_OR_EQUAL), .val (.ref u_LESS_OR_EQUAL), .val (.int (5 : Int32))] [(.ref u_GREATER_OR_EQUAL), (.ref u_GREATER_OR_EQUAL)])) X59 hx rfl rfl rfl (pc0 := 80) (pc' := 83) (same := true) rfl (hb hby at_80) rfl (decide_eq_true rfl) (by decide) (by decide)) ?_
      show Go p e below s _ _ _ T59 (mkF m 83 #[.val (.int k), .val (.long a), .second, .val (.long b), .second, .val (.int (7 : Int32)), .val (.ref u_GREATER_OR_EQUAL), .val (.ref u_LESS_OR_EQUAL), .val (.int (5 : Int32))] [])
      refine Go.st (fun _ => XS.iconst X59.here hx rfl (hb hby at_83)) ?_
      show Go p e below s _ _ _ T59 (mkF m 84 #[.val (.int k), .val (.long a), .second, .val (.long b), .second, .val (.int (7 : Int32)), .val (.ref u_GREATER_OR_EQUAL), .val (.ref u_LESS_OR_EQUAL), .val (.int (5 : Int32))] [(.int (1 : Int32))])
      refine Go.st (fun _ => XS.goto X59.here hx rfl (pc0 := 84) (pc' := 88) rfl (hb hby at_84) (by decide) (by decide)) ?_
      show Go p e below s _ _ _ T59 (mkF m 88 #[.val (.int k), .val (.long a), .second, .val (.long b), .second, .val (.int (7 : Int32)), .val (.ref u_GREATER_OR_EQUAL), .val (.ref u_LESS_OR_EQUAL), .val (.int (5 : Int32))] [(.int (1 : Int32))])
      exact Go.retZ X59 hx hlk Bd.returns (hb hby at_88) rfl (by rw [e59]; exact ⟨rfl, N59⟩) (by decide) (by decide)
    · rw [show (b2i (¬ (a < b))) = (1 : Int32) from b2i_pos hc57]
      show Go p e below s _ _ _ T56 (mkF m 63 #[.val (.int k), .val (.long a), .second, .val (.long b), .second, .val (.int (7 : Int32)), .val (.ref u_GREATER_OR_EQUAL), .val (.ref u_LESS_OR_EQUAL), .val (.int (5 : Int32))] [(.int (1 : Int32))])
      refine Go.st (fun _ => XS.iload X56.here hx rfl (hb hby at_63) rfl) ?_
      show Go p e below s _ _ _ T56 (mkF m 65 #[.val (.int k), .val (.long a), .second, .val (.long b), .second, .val (.int (7 : Int32)), .val (.ref u_GREATER_OR_EQUAL), .val (.ref u_LESS_OR_EQUAL), .val (.int (5 : Int32))] [(.int (5 : Int32)), (.int (1 : Int32))])
      refine Go.st (fun _ => XS.lloadN X56.here hx rfl (hb hby at_65) rfl) ?_
      show Go p e below s _ _ _ T56 (mkF m 66 #[.val (.int k), .val (.long a), .second, .val (.long b), .second, .val (.int (7 : Int32)), .val (.ref u_GREATER_OR_EQUAL), .val (.ref u_LESS_OR_EQUAL), .val (.int (5 : Int32))] [(.long b), (.int (5 : Int32)), (.int (1 : Int32))])
      refine Go.st (fun _ => XS.lloadN X56.here hx rfl (hb hby at_66) rfl) ?_
      show Go p e below s _ _ _ T56 (mkF m 67 #[.val (.int k), .val (.long a), .second, .val (.long b), .second, .val (.int (7 : Int32)), .val (.ref u_GREATER_OR_EQUAL), .val (.ref u_LESS_OR_EQUAL), .val (.int (5 : Int32))] [(.long a), (.long b), (.int (5 : Int32)), (.int (1 : Int32))])
      obtain ⟨_, _, ⟨T60, L60, kc60, nc60⟩, -, X60, ⟨Lc60, hQ60, l60, y60, z60⟩, st60⟩ := Jvm.LawKit.callS X56 hx (y := (⟨"com/example/moat/moat/xpath/OperatorFlippedPinLaw", "holds", "(IJJ)Z"⟩ : MethodName)) hown (mvT hZ (hw _ (List.mem_of_getElem? (i := 33) rfl))) (mvT hZ (hw _ (List.mem_of_getElem? (i := 34) rfl))) (mvT hZ (hw _ (List.mem_of_getElem? (i := 3) rfl))) (mvT hZ (hw _ (List.mem_of_getElem? (i := 35) rfl))) (by decide) (backOf (W := 1) (rmH5 l Z a0 hw [] b a h0 n0 Z0 ) hZ (hw _ (List.mem_of_getElem? (i := 35) rfl)) (hw _ (List.mem_of_getElem? (i := 3) rfl)) (by decide) (by decide)) (g := (mkF m 67 #[.val (.int k), .val (.long a), .second, .val (.long b), .second, .val (.int (7 : Int32)), .val (.ref u_GREATER_OR_EQUAL), .val (.ref u_LESS_OR_EQUAL), .val (.int (5 : Int32))] [(.long a), (.long b), (.int (5 : Int32)), (.int (1 : Int32))])) rfl (by rw [hml]; rfl) (argsL := [(.int (5 : Int32)), (.long b), (.long a)]) (rest := [(.int (1 : Int32))]) (lenOf pd_3 rfl) rfl (by show 2 * 0 + _ ≤ _; exact Nat.le_of_eq rfl) (hb hby at_67) (fun _ _ => ⟨rfl, e56, (by decide : 0 + 0 ≤ _), (by decide : 0 + 0 ≤ _)⟩)
      dsimp only [Pt.U, Pt.locs, Pt.cells, Pt.slots] at X60 l60 y60 z60 st60 hQ60
      subst l60 y60 z60
      obtain ⟨h60, e60⟩ : ∃ hh, T60.heap = hh := ⟨_, rfl⟩
      rw [e60] at hQ60
      obtain ⟨rfl, N60q, sm60⟩ := hQ60
      have N60 := Fr.app N56 N60q
      refine Go.st st60 ?_
      rw [sm60] at e60
      show Go p e below s _ _ _ T60 (mkF m 70 #[.val (.int k), .val (.long a), .second, .val (.long b), .second, .val (.int (7 : Int32)), .val (.ref u_GREATER_OR_EQUAL), .val (.ref u_LESS_OR_EQUAL), .val (.int (5 : Int32))] [(.int (b2i (¬ (a < b)))), (.int (1 : Int32))])
      rw [show (b2i (¬ (a < b))) = (1 : Int32) from b2i_pos hc57]
      show Go p e below s _ _ _ T60 (mkF m 70 #[.val (.int k), .val (.long a), .second, .val (.long b), .second, .val (.int (7 : Int32)), .val (.ref u_GREATER_OR_EQUAL), .val (.ref u_LESS_OR_EQUAL), .val (.int (5 : Int32))] [(.int (1 : Int32)), (.int (1 : Int32))])
      refine Go.st (fun _ => XS.icmpNo X60.here hx rfl (hb hby at_70) rfl (teq (by decide : (1 : Int32) = (1 : Int32))).2) ?_
      show Go p e below s _ _ _ T60 (mkF m 73 #[.val (.int k), .val (.long a), .second, .val (.long b), .second, .val (.int (7 : Int32)), .val (.ref u_GREATER_OR_EQUAL), .val (.ref u_LESS_OR_EQUAL), .val (.int (5 : Int32))] [])
      refine Go.st (fun _ => XS.aload X60.here hx rfl (hb hby at_73) rfl rfl) ?_
      show Go p e below s _ _ _ T60 (mkF m 75 #[.val (.int k), .val (.long a), .second, .val (.long b), .second, .val (.int (7 : Int32)), .val (.ref u_GREATER_OR_EQUAL), .val (.ref u_LESS_OR_EQUAL), .val (.int (5 : Int32))] [(.ref u_LESS_OR_EQUAL)])
      obtain ⟨cq61, kq61, q61a, q61b, q61c⟩ := isOf hZ e60 E_u_LESS_OR_EQUAL
      obtain ⟨_, _, ⟨T61, L61, kc61, nc61⟩, -, X61, ⟨Lc61, hQ61, l61, y61, z61⟩, st61⟩ := X60.virtualBack hx (y := (⟨"com/example/moat/moat/xpath/Operation$Operator", "flipped", "()Lcom/example/moat/moat/xpath/Operation$Operator;"⟩ : MethodName)) (z := (⟨"com/example/moat/moat/xpath/Operation$Operator", "flipped", "()Lcom/example/moat/moat/xpath/Operation$Operator;"⟩ : MethodName)) hown (mvT hZ (hw _ (List.mem_of_getElem? (i := 8) rfl))) (mvT hZ (hw _ (List.mem_of_getElem? (i := 9) rfl))) (notFace_of_selects (args := #[]) (mvT hZ (hw _ (List.mem_of_getElem? (i := 11) rfl)))) (mvT hZ (hw _ (List.mem_of_getElem? (i := 11) rfl))) (mvT hZ (hw _ (List.mem_of_getElem? (i := 10) rfl))) (by decide) (backOf (W := 0) (rmF5 l Z a0 hw [] u_LESS_OR_EQUAL u_LESS u_GREATER_OR_EQUAL h0 n0 Z0 S_LESS S_LESS_OR_EQUAL S_GREATER_OR_EQUAL ne_u_LESS_u_LESS_OR_EQUAL) hZ (hw _ (List.mem_of_getElem? (i := 12) rfl)) (hw _ (List.mem_of_getElem? (i := 6) rfl)) (by decide) (by decide)) q61a q61c (g := (mkF m 75 #[.val (.int k), .val (.long a), .second, .val (.long b), .second, .val (.int (7 : Int32)), .val (.ref u_GREATER_OR_EQUAL), .val (.ref u_LESS_OR_EQUAL), .val (.int (5 : Int32))] [(.ref u_LESS_OR_EQUAL)])) rfl (by rw [hml]; rfl) (Steps.refl _) (argsL := []) (rest := []) (lenOf pd_1 rfl) rfl (by show 2 * 0 + _ ≤ _; exact Nat.le_of_eq rfl) (hb hby at_75) (fun _ _ => ⟨rfl, e60, (by decide : 0 + 0 ≤ _), (by decide : 0 + 0 ≤ _)⟩)
      dsimp only [Pt.U, Pt.locs, Pt.cells, Pt.slots] at X61 l61 y61 z61 st61 hQ61
      subst l61 y61 z61
      obtain ⟨h61, e61⟩ : ∃ hh, T61.heap = hh := ⟨_, rfl⟩
      rw [e61] at hQ61
      obtain ⟨rfl, N61q, sm61⟩ := hQ61
      have N61 := Fr.app N60 N61q
      refine Go.st (fun _ kk => st61.trans kk) ?_
      rw [sm61] at e61
      show Go p e below s _ _ _ T61 (mkF m 78 #[.val (.int k), .val (.long a), .second, .val (.long b), .second, .val (.int (7 : Int32)), .val (.ref u_GREATER_OR_EQUAL), .val (.ref u_LESS_OR_EQUAL), .val (.int (5 : Int32))] [(.ref u_GREATER_OR_EQUAL)])
      refine Go.st (fun _ => XS.aload X61.here hx rfl (hb hby at_78) rfl rfl) ?_
      show Go p e below s _ _ _ T61 (mkF m 80 #[.val (.int k), .val (.long a), .second, .val (.long b), .second, .val (.int (7 : Int32)), .val (.ref u_GREATER_OR_EQUAL), .val (.ref u_LESS_OR_EQUAL), .val (.int (5 : Int32))] [(.ref u_GREATER_OR_EQUAL), (.ref u_GREATER_OR_EQUAL)])
      refine Go.st (fun _ => Jvm.RoadKit.acmp (g := (mkF m 80 #[.val (.int k), .val (.long a), .second, .val (.long b), .second, .val (.int (7 : Int32)), .val (.ref u_GREATER_OR_EQUAL), .val (.ref u_LESS_OR_EQUAL), .val (.int (5 : Int32))] [(.ref u_GREATER_OR_EQUAL), (.ref u_GREATER_OR_EQUAL)])) X61 hx rfl rfl rfl (pc0 := 80) (pc' := 83) (same := true) rfl (hb hby at_80) rfl (decide_eq_true rfl) (by decide) (by decide)) ?_
      show Go p e below s _ _ _ T61 (mkF m 83 #[.val (.int k), .val (.long a), .second, .val (.long b), .second, .val (.int (7 : Int32)), .val (.ref u_GREATER_OR_EQUAL), .val (.ref u_LESS_OR_EQUAL), .val (.int (5 : Int32))] [])
      refine Go.st (fun _ => XS.iconst X61.here hx rfl (hb hby at_83)) ?_
      show Go p e below s _ _ _ T61 (mkF m 84 #[.val (.int k), .val (.long a), .second, .val (.long b), .second, .val (.int (7 : Int32)), .val (.ref u_GREATER_OR_EQUAL), .val (.ref u_LESS_OR_EQUAL), .val (.int (5 : Int32))] [(.int (1 : Int32))])
      refine Go.st (fun _ => XS.goto X61.here hx rfl (pc0 := 84) (pc' := 88) rfl (hb hby at_84) (by decide) (by decide)) ?_
      show Go p e below s _ _ _ T61 (mkF m 88 #[.val (.int k), .val (.long a), .second, .val (.long b), .second, .val (.int (7 : Int32)), .val (.ref u_GREATER_OR_EQUAL), .val (.ref u_LESS_OR_EQUAL), .val (.int (5 : Int32))] [(.int (1 : Int32))])
      exact Go.retZ X61 hx hlk Bd.returns (hb hby at_88) rfl (by rw [e61]; exact ⟨rfl, N61⟩) (by decide) (by decide)
  · rw [show ((k &&& (2147483647 : Int32)) % (14 : Int32)) = (8 : Int32) from hd1]
    show Go p e below s _ _ _ s₁ (mkF m 7 #[.val (.int k), .val (.long a), .second, .val (.long b), .second, .unset, .unset, .unset, .unset] [(.int (8 : Int32))])
    refine Go.st (fun _ => XS.istore X0.here hx rfl (hb hby at_7) rfl (l' := #[.val (.int k), .val (.long a), .second, .val (.long b), .second, .val (.int (8 : Int32)), .unset, .unset, .unset]) rfl) ?_
    show Go p e below s _ _ _ s₁ (mkF m 9 #[.val (.int k), .val (.long a), .second, .val (.long b), .second, .val (.int (8 : Int32)), .unset, .unset, .unset] [])
    refine Go.st (fun _ => XS.iload X0.here hx rfl (hb hby at_9) rfl) ?_
    show Go p e below s _ _ _ s₁ (mkF m 11 #[.val (.int k), .val (.long a), .second, .val (.long b), .second, .val (.int (8 : Int32)), .unset, .unset, .unset] [(.int (8 : Int32))])
    obtain ⟨_, _, ⟨T62, L62, kc62, nc62⟩, -, X62, ⟨Lc62, hQ62, l62, y62, z62⟩, st62⟩ := Jvm.LawKit.callS X0 hx (y := (⟨"com/example/moat/moat/xpath/OperatorFlippedPinLaw", "pick", "(I)Lcom/example/moat/moat/xpath/Operation$Operator;"⟩ : MethodName)) hown (mvT hZ (hw _ (List.mem_of_getElem? (i := 1) rfl))) (mvT hZ (hw _ (List.mem_of_getElem? (i := 2) rfl))) (mvT hZ (hw _ (List.mem_of_getElem? (i := 3) rfl))) (mvT hZ (hw _ (List.mem_of_getElem? (i := 4) rfl))) (by decide) (backOf (W := 0) (rmP8 l Z a0 hw [] u_PLUS h0 n0 Z0 S_PLUS) hZ (hw _ (List.mem_of_getElem? (i := 4) rfl)) (hw _ (List.mem_of_getElem? (i := 3) rfl)) (by decide) (by decide)) (g := (mkF m 11 #[.val (.int k), .val (.long a), .second, .val (.long b), .second, .val (.int (8 : Int32)), .unset, .unset, .unset] [(.int (8 : Int32))])) rfl (by rw [hml]; rfl) (argsL := [(.int (8 : Int32))]) (rest := []) (lenOf pd_0 rfl) rfl (by show 2 * 0 + _ ≤ _; exact Nat.le_of_eq rfl) (hb hby at_11) (fun _ _ => ⟨rfl, e0, (by decide : 0 + 0 ≤ _), (by decide : 0 + 0 ≤ _)⟩)
    dsimp only [Pt.U, Pt.locs, Pt.cells, Pt.slots] at X62 l62 y62 z62 st62 hQ62
    subst l62 y62 z62
    obtain ⟨h62, e62⟩ : ∃ hh, T62.heap = hh := ⟨_, rfl⟩
    rw [e62] at hQ62
    obtain ⟨rfl, N62q, sm62⟩ := hQ62
    have N62 := Fr.app N0 N62q
    refine Go.st st62 ?_
    rw [sm62] at e62
    show Go p e below s _ _ _ T62 (mkF m 14 #[.val (.int k), .val (.long a), .second, .val (.long b), .second, .val (.int (8 : Int32)), .unset, .unset, .unset] [(.ref u_PLUS)])
    refine Go.st (fun _ => XS.astore X62.here hx rfl (hb hby at_14) rfl rfl (l' := #[.val (.int k), .val (.long a), .second, .val (.long b), .second, .val (.int (8 : Int32)), .val (.ref u_PLUS), .unset, .unset]) rfl) ?_
    show Go p e below s _ _ _ T62 (mkF m 16 #[.val (.int k), .val (.long a), .second, .val (.long b), .second, .val (.int (8 : Int32)), .val (.ref u_PLUS), .unset, .unset] [])
    refine Go.st (fun _ => XS.aload X62.here hx rfl (hb hby at_16) rfl rfl) ?_
    show Go p e below s _ _ _ T62 (mkF m 18 #[.val (.int k), .val (.long a), .second, .val (.long b), .second, .val (.int (8 : Int32)), .val (.ref u_PLUS), .unset, .unset] [(.ref u_PLUS)])
    obtain ⟨cq63, kq63, q63a, q63b, q63c⟩ := isOf hZ e62 E_u_PLUS
    obtain ⟨_, _, ⟨T63, L63, kc63, nc63⟩, -, X63, ⟨Lc63, hQ63, l63, y63, z63⟩, st63⟩ := X62.virtualBack hx (y := (⟨"com/example/moat/moat/xpath/Operation$Operator", "flipped", "()Lcom/example/moat/moat/xpath/Operation$Operator;"⟩ : MethodName)) (z := (⟨"com/example/moat/moat/xpath/Operation$Operator", "flipped", "()Lcom/example/moat/moat/xpath/Operation$Operator;"⟩ : MethodName)) hown (mvT hZ (hw _ (List.mem_of_getElem? (i := 8) rfl))) (mvT hZ (hw _ (List.mem_of_getElem? (i := 9) rfl))) (notFace_of_selects (args := #[]) (mvT hZ (hw _ (List.mem_of_getElem? (i := 11) rfl)))) (mvT hZ (hw _ (List.mem_of_getElem? (i := 11) rfl))) (mvT hZ (hw _ (List.mem_of_getElem? (i := 10) rfl))) (by decide) (backOf (W := 0) (rmF8 l Z a0 hw [] u_PLUS u_LESS u_LESS_OR_EQUAL u_GREATER u_GREATER_OR_EQUAL h0 n0 Z0 S_LESS S_LESS_OR_EQUAL S_GREATER S_GREATER_OR_EQUAL ne_u_LESS_u_PLUS ne_u_LESS_OR_EQUAL_u_PLUS ne_u_GREATER_u_PLUS ne_u_GREATER_OR_EQUAL_u_PLUS) hZ (hw _ (List.mem_of_getElem? (i := 12) rfl)) (hw _ (List.mem_of_getElem? (i := 6) rfl)) (by decide) (by decide)) q63a q63c (g := (mkF m 18 #[.val (.int k), .val (.long a), .second, .val (.long b), .second, .val (.int (8 : Int32)), .val (.ref u_PLUS), .unset, .unset] [(.ref u_PLUS)])) rfl (by rw [hml]; rfl) (Steps.refl _) (argsL := []) (rest := []) (lenOf pd_1 rfl) rfl (by show 2 * 0 + _ ≤ _; exact Nat.le_of_eq rfl) (hb hby at_18) (fun _ _ => ⟨rfl, e62, (by decide : 0 + 0 ≤ _), (by decide : 0 + 0 ≤ _)⟩)
    dsimp only [Pt.U, Pt.locs, Pt.cells, Pt.slots] at X63 l63 y63 z63 st63 hQ63
    subst l63 y63 z63
    obtain ⟨h63, e63⟩ : ∃ hh, T63.heap = hh := ⟨_, rfl⟩
    rw [e63] at hQ63
    obtain ⟨rfl, N63q, sm63⟩ := hQ63
    have N63 := Fr.app N62 N63q
    refine Go.st (fun _ kk => st63.trans kk) ?_
    rw [sm63] at e63
    show Go p e below s _ _ _ T63 (mkF m 21 #[.val (.int k), .val (.long a), .second, .val (.long b), .second, .val (.int (8 : Int32)), .val (.ref u_PLUS), .unset, .unset] [(.ref u_PLUS)])
    refine Go.st (fun _ => XS.astore X63.here hx rfl (hb hby at_21) rfl rfl (l' := #[.val (.int k), .val (.long a), .second, .val (.long b), .second, .val (.int (8 : Int32)), .val (.ref u_PLUS), .val (.ref u_PLUS), .unset]) rfl) ?_
    show Go p e below s _ _ _ T63 (mkF m 23 #[.val (.int k), .val (.long a), .second, .val (.long b), .second, .val (.int (8 : Int32)), .val (.ref u_PLUS), .val (.ref u_PLUS), .unset] [])
    refine Go.st (fun _ => XS.aload X63.here hx rfl (hb hby at_23) rfl rfl) ?_
    show Go p e below s _ _ _ T63 (mkF m 25 #[.val (.int k), .val (.long a), .second, .val (.long b), .second, .val (.int (8 : Int32)), .val (.ref u_PLUS), .val (.ref u_PLUS), .unset] [(.ref u_PLUS)])
    obtain ⟨_, _, ⟨T64, L64, kc64, nc64⟩, -, X64, ⟨Lc64, hQ64, l64, y64, z64⟩, st64⟩ := Jvm.LawKit.callS X63 hx (y := (⟨"com/example/moat/moat/xpath/OperatorFlippedPinLaw", "index", "(Lcom/example/moat/moat/xpath/Operation$Operator;)I"⟩ : MethodName)) hown (mvT hZ (hw _ (List.mem_of_getElem? (i := 21) rfl))) (mvT hZ (hw _ (List.mem_of_getElem? (i := 22) rfl))) (mvT hZ (hw _ (List.mem_of_getElem? (i := 3) rfl))) (mvT hZ (hw _ (List.mem_of_getElem? (i := 23) rfl))) (by decide) (backOf (W := 0) (rmX8 l Z a0 hw [] u_PLUS u_OR u_AND u_EQUAL u_NOT_EQUAL u_LESS u_LESS_OR_EQUAL u_GREATER u_GREATER_OR_EQUAL h0 n0 Z0 S_OR S_AND S_EQUAL S_NOT_EQUAL S_LESS S_LESS_OR_EQUAL S_GREATER S_GREATER_OR_EQUAL S_PLUS ne_u_OR_u_PLUS ne_u_AND_u_PLUS ne_u_EQUAL_u_PLUS ne_u_NOT_EQUAL_u_PLUS ne_u_LESS_u_PLUS ne_u_LESS_OR_EQUAL_u_PLUS ne_u_GREATER_u_PLUS ne_u_GREATER_OR_EQUAL_u_PLUS) hZ (hw _ (List.mem_of_getElem? (i := 23) rfl)) (hw _ (List.mem_of_getElem? (i := 3) rfl)) (by decide) (by decide)) (g := (mkF m 25 #[.val (.int k), .val (.long a), .second, .val (.long b), .second, .val (.int (8 : Int32)), .val (.ref u_PLUS), .val (.ref u_PLUS), .unset] [(.ref u_PLUS)])) rfl (by rw [hml]; rfl) (argsL := [(.ref u_PLUS)]) (rest := []) (lenOf pd_2 rfl) rfl (by show 2 * 0 + _ ≤ _; exact Nat.le_of_eq rfl) (hb hby at_25) (fun _ _ => ⟨rfl, e63, (by decide : 0 + 0 ≤ _), (by decide : 0 + 0 ≤ _)⟩)
    dsimp only [Pt.U, Pt.locs, Pt.cells, Pt.slots] at X64 l64 y64 z64 st64 hQ64
    subst l64 y64 z64
    obtain ⟨h64, e64⟩ : ∃ hh, T64.heap = hh := ⟨_, rfl⟩
    rw [e64] at hQ64
    obtain ⟨rfl, N64q, sm64⟩ := hQ64
    have N64 := Fr.app N63 N64q
    refine Go.st st64 ?_
    rw [sm64] at e64
    show Go p e below s _ _ _ T64 (mkF m 28 #[.val (.int k), .val (.long a), .second, .val (.long b), .second, .val (.int (8 : Int32)), .val (.ref u_PLUS), .val (.ref u_PLUS), .unset] [(.int (8 : Int32))])
    refine Go.st (fun _ => XS.istore X64.here hx rfl (hb hby at_28) rfl (l' := #[.val (.int k), .val (.long a), .second, .val (.long b), .second, .val (.int (8 : Int32)), .val (.ref u_PLUS), .val (.ref u_PLUS), .val (.int (8 : Int32))]) rfl) ?_
    show Go p e below s _ _ _ T64 (mkF m 30 #[.val (.int k), .val (.long a), .second, .val (.long b), .second, .val (.int (8 : Int32)), .val (.ref u_PLUS), .val (.ref u_PLUS), .val (.int (8 : Int32))] [])
    refine Go.st (fun _ => XS.iload X64.here hx rfl (hb hby at_30) rfl) ?_
    show Go p e below s _ _ _ T64 (mkF m 32 #[.val (.int k), .val (.long a), .second, .val (.long b), .second, .val (.int (8 : Int32)), .val (.ref u_PLUS), .val (.ref u_PLUS), .val (.int (8 : Int32))] [(.int (8 : Int32))])
    refine Go.st (fun _ => XS.iconst X64.here hx rfl (hb hby at_32)) ?_
    show Go p e below s _ _ _ T64 (mkF m 33 #[.val (.int k), .val (.long a), .second, .val (.long b), .second, .val (.int (8 : Int32)), .val (.ref u_PLUS), .val (.ref u_PLUS), .val (.int (8 : Int32))] [(.int (2 : Int32)), (.int (8 : Int32))])
    refine Go.st (fun _ => XS.icmpNo X64.here hx rfl (hb hby at_33) rfl (flt (by decide : ¬ ((8 : Int32) < (2 : Int32)))).1) ?_
    show Go p e below s _ _ _ T64 (mkF m 36 #[.val (.int k), .val (.long a), .second, .val (.long b), .second, .val (.int (8 : Int32)), .val (.ref u_PLUS), .val (.ref u_PLUS), .val (.int (8 : Int32))] [])
    refine Go.st (fun _ => XS.iload X64.here hx rfl (hb hby at_36) rfl) ?_
    show Go p e below s _ _ _ T64 (mkF m 38 #[.val (.int k), .val (.long a), .second, .val (.long b), .second, .val (.int (8 : Int32)), .val (.ref u_PLUS), .val (.ref u_PLUS), .val (.int (8 : Int32))] [(.int (8 : Int32))])
    refine Go.st (fun _ => XS.bipush X64.here hx rfl (hb hby at_38)) ?_
    show Go p e below s _ _ _ T64 (mkF m 40 #[.val (.int k), .val (.long a), .second, .val (.long b), .second, .val (.int (8 : Int32)), .val (.ref u_PLUS), .val (.ref u_PLUS), .val (.int (8 : Int32))] [(.int (7 : Int32)), (.int (8 : Int32))])
    refine Go.st (fun _ => XS.icmpYes X64.here hx rfl (pc0 := 40) (pc' := 89) rfl (hb hby at_40) rfl (tlt (by decide : (7 : Int32) < (8 : Int32))).2.2.1 (by decide) (by decide)) ?_
    show Go p e below s _ _ _ T64 (mkF m 89 #[.val (.int k), .val (.long a), .second, .val (.long b), .second, .val (.int (8 : Int32)), .val (.ref u_PLUS), .val (.ref u_PLUS), .val (.int (8 : Int32))] [])
    refine Go.st (fun _ => XS.aload X64.here hx rfl (hb hby at_89) rfl rfl) ?_
    show Go p e below s _ _ _ T64 (mkF m 91 #[.val (.int k), .val (.long a), .second, .val (.long b), .second, .val (.int (8 : Int32)), .val (.ref u_PLUS), .val (.ref u_PLUS), .val (.int (8 : Int32))] [(.ref u_PLUS)])
    refine Go.st (fun _ => XS.aload X64.here hx rfl (hb hby at_91) rfl rfl) ?_
    show Go p e below s _ _ _ T64 (mkF m 93 #[.val (.int k), .val (.long a), .second, .val (.long b), .second, .val (.int (8 : Int32)), .val (.ref u_PLUS), .val (.ref u_PLUS), .val (.int (8 : Int32))] [(.ref u_PLUS), (.ref u_PLUS)])
    refine Go.st (fun _ => Jvm.RoadKit.acmp (g := (mkF m 93 #[.val (.int k), .val (.long a), .second, .val (.long b), .second, .val (.int (8 : Int32)), .val (.ref u_PLUS), .val (.ref u_PLUS), .val (.int (8 : Int32))] [(.ref u_PLUS), (.ref u_PLUS)])) X64 hx rfl rfl rfl (pc0 := 93) (pc' := 96) (same := true) rfl (hb hby at_93) rfl (decide_eq_true rfl) (by decide) (by decide)) ?_
    show Go p e below s _ _ _ T64 (mkF m 96 #[.val (.int k), .val (.long a), .second, .val (.long b), .second, .val (.int (8 : Int32)), .val (.ref u_PLUS), .val (.ref u_PLUS), .val (.int (8 : Int32))] [])
    refine Go.st (fun _ => XS.iconst X64.here hx rfl (hb hby at_96)) ?_
    show Go p e below s _ _ _ T64 (mkF m 97 #[.val (.int k), .val (.long a), .second, .val (.long b), .second, .val (.int (8 : Int32)), .val (.ref u_PLUS), .val (.ref u_PLUS), .val (.int (8 : Int32))] [(.int (1 : Int32))])
    refine Go.st (fun _ => XS.goto X64.here hx rfl (pc0 := 97) (pc' := 101) rfl (hb hby at_97) (by decide) (by decide)) ?_
    show Go p e below s _ _ _ T64 (mkF m 101 #[.val (.int k), .val (.long a), .second, .val (.long b), .second, .val (.int (8 : Int32)), .val (.ref u_PLUS), .val (.ref u_PLUS), .val (.int (8 : Int32))] [(.int (1 : Int32))])
    exact Go.retZ X64 hx hlk Bd.returns (hb hby at_101) rfl (by rw [e64]; exact ⟨rfl, N64⟩) (by decide) (by decide)
  · rw [show ((k &&& (2147483647 : Int32)) % (14 : Int32)) = (9 : Int32) from hd1]
    show Go p e below s _ _ _ s₁ (mkF m 7 #[.val (.int k), .val (.long a), .second, .val (.long b), .second, .unset, .unset, .unset, .unset] [(.int (9 : Int32))])
    refine Go.st (fun _ => XS.istore X0.here hx rfl (hb hby at_7) rfl (l' := #[.val (.int k), .val (.long a), .second, .val (.long b), .second, .val (.int (9 : Int32)), .unset, .unset, .unset]) rfl) ?_
    show Go p e below s _ _ _ s₁ (mkF m 9 #[.val (.int k), .val (.long a), .second, .val (.long b), .second, .val (.int (9 : Int32)), .unset, .unset, .unset] [])
    refine Go.st (fun _ => XS.iload X0.here hx rfl (hb hby at_9) rfl) ?_
    show Go p e below s _ _ _ s₁ (mkF m 11 #[.val (.int k), .val (.long a), .second, .val (.long b), .second, .val (.int (9 : Int32)), .unset, .unset, .unset] [(.int (9 : Int32))])
    obtain ⟨_, _, ⟨T65, L65, kc65, nc65⟩, -, X65, ⟨Lc65, hQ65, l65, y65, z65⟩, st65⟩ := Jvm.LawKit.callS X0 hx (y := (⟨"com/example/moat/moat/xpath/OperatorFlippedPinLaw", "pick", "(I)Lcom/example/moat/moat/xpath/Operation$Operator;"⟩ : MethodName)) hown (mvT hZ (hw _ (List.mem_of_getElem? (i := 1) rfl))) (mvT hZ (hw _ (List.mem_of_getElem? (i := 2) rfl))) (mvT hZ (hw _ (List.mem_of_getElem? (i := 3) rfl))) (mvT hZ (hw _ (List.mem_of_getElem? (i := 4) rfl))) (by decide) (backOf (W := 0) (rmP9 l Z a0 hw [] u_MINUS h0 n0 Z0 S_MINUS) hZ (hw _ (List.mem_of_getElem? (i := 4) rfl)) (hw _ (List.mem_of_getElem? (i := 3) rfl)) (by decide) (by decide)) (g := (mkF m 11 #[.val (.int k), .val (.long a), .second, .val (.long b), .second, .val (.int (9 : Int32)), .unset, .unset, .unset] [(.int (9 : Int32))])) rfl (by rw [hml]; rfl) (argsL := [(.int (9 : Int32))]) (rest := []) (lenOf pd_0 rfl) rfl (by show 2 * 0 + _ ≤ _; exact Nat.le_of_eq rfl) (hb hby at_11) (fun _ _ => ⟨rfl, e0, (by decide : 0 + 0 ≤ _), (by decide : 0 + 0 ≤ _)⟩)
    dsimp only [Pt.U, Pt.locs, Pt.cells, Pt.slots] at X65 l65 y65 z65 st65 hQ65
    subst l65 y65 z65
    obtain ⟨h65, e65⟩ : ∃ hh, T65.heap = hh := ⟨_, rfl⟩
    rw [e65] at hQ65
    obtain ⟨rfl, N65q, sm65⟩ := hQ65
    have N65 := Fr.app N0 N65q
    refine Go.st st65 ?_
    rw [sm65] at e65
    show Go p e below s _ _ _ T65 (mkF m 14 #[.val (.int k), .val (.long a), .second, .val (.long b), .second, .val (.int (9 : Int32)), .unset, .unset, .unset] [(.ref u_MINUS)])
    refine Go.st (fun _ => XS.astore X65.here hx rfl (hb hby at_14) rfl rfl (l' := #[.val (.int k), .val (.long a), .second, .val (.long b), .second, .val (.int (9 : Int32)), .val (.ref u_MINUS), .unset, .unset]) rfl) ?_
    show Go p e below s _ _ _ T65 (mkF m 16 #[.val (.int k), .val (.long a), .second, .val (.long b), .second, .val (.int (9 : Int32)), .val (.ref u_MINUS), .unset, .unset] [])
    refine Go.st (fun _ => XS.aload X65.here hx rfl (hb hby at_16) rfl rfl) ?_
    show Go p e below s _ _ _ T65 (mkF m 18 #[.val (.int k), .val (.long a), .second, .val (.long b), .second, .val (.int (9 : Int32)), .val (.ref u_MINUS), .unset, .unset] [(.ref u_MINUS)])
    obtain ⟨cq66, kq66, q66a, q66b, q66c⟩ := isOf hZ e65 E_u_MINUS
    obtain ⟨_, _, ⟨T66, L66, kc66, nc66⟩, -, X66, ⟨Lc66, hQ66, l66, y66, z66⟩, st66⟩ := X65.virtualBack hx (y := (⟨"com/example/moat/moat/xpath/Operation$Operator", "flipped", "()Lcom/example/moat/moat/xpath/Operation$Operator;"⟩ : MethodName)) (z := (⟨"com/example/moat/moat/xpath/Operation$Operator", "flipped", "()Lcom/example/moat/moat/xpath/Operation$Operator;"⟩ : MethodName)) hown (mvT hZ (hw _ (List.mem_of_getElem? (i := 8) rfl))) (mvT hZ (hw _ (List.mem_of_getElem? (i := 9) rfl))) (notFace_of_selects (args := #[]) (mvT hZ (hw _ (List.mem_of_getElem? (i := 11) rfl)))) (mvT hZ (hw _ (List.mem_of_getElem? (i := 11) rfl))) (mvT hZ (hw _ (List.mem_of_getElem? (i := 10) rfl))) (by decide) (backOf (W := 0) (rmF9 l Z a0 hw [] u_MINUS u_LESS u_LESS_OR_EQUAL u_GREATER u_GREATER_OR_EQUAL h0 n0 Z0 S_LESS S_LESS_OR_EQUAL S_GREATER S_GREATER_OR_EQUAL ne_u_LESS_u_MINUS ne_u_LESS_OR_EQUAL_u_MINUS ne_u_GREATER_u_MINUS ne_u_GREATER_OR_EQUAL_u_MINUS) hZ (hw _ (List.mem_of_getElem? (i := 12) rfl)) (hw _ (List.mem_of_getElem? (i := 6) rfl)) (by decide) (by decide)) q66a q66c (g := (mkF m 18 #[.val (.int k), .val (.long a), .second, .val (.long b), .second, .val (.int (9 : Int32)), .val (.ref u_MINUS), .unset, .unset] [(.ref u_MINUS)])) rfl (by rw [hml]; rfl) (Steps.refl _) (argsL := []) (rest := []) (lenOf pd_1 rfl) rfl (by show 2 * 0 + _ ≤ _; exact Nat.le_of_eq rfl) (hb hby at_18) (fun _ _ => ⟨rfl, e65, (by decide : 0 + 0 ≤ _), (by decide : 0 + 0 ≤ _)⟩)
    dsimp only [Pt.U, Pt.locs, Pt.cells, Pt.slots] at X66 l66 y66 z66 st66 hQ66
    subst l66 y66 z66
    obtain ⟨h66, e66⟩ : ∃ hh, T66.heap = hh := ⟨_, rfl⟩
    rw [e66] at hQ66
    obtain ⟨rfl, N66q, sm66⟩ := hQ66
    have N66 := Fr.app N65 N66q
    refine Go.st (fun _ kk => st66.trans kk) ?_
    rw [sm66] at e66
    show Go p e below s _ _ _ T66 (mkF m 21 #[.val (.int k), .val (.long a), .second, .val (.long b), .second, .val (.int (9 : Int32)), .val (.ref u_MINUS), .unset, .unset] [(.ref u_MINUS)])
    refine Go.st (fun _ => XS.astore X66.here hx rfl (hb hby at_21) rfl rfl (l' := #[.val (.int k), .val (.long a), .second, .val (.long b), .second, .val (.int (9 : Int32)), .val (.ref u_MINUS), .val (.ref u_MINUS), .unset]) rfl) ?_
    show Go p e below s _ _ _ T66 (mkF m 23 #[.val (.int k), .val (.long a), .second, .val (.long b), .second, .val (.int (9 : Int32)), .val (.ref u_MINUS), .val (.ref u_MINUS), .unset] [])
    refine Go.st (fun _ => XS.aload X66.here hx rfl (hb hby at_23) rfl rfl) ?_
    show Go p e below s _ _ _ T66 (mkF m 25 #[.val (.int k), .val (.long a), .second, .val (.long b), .second, .val (.int (9 : Int32)), .val (.ref u_MINUS), .val (.ref u_MINUS), .unset] [(.ref u_MINUS)])
    obtain ⟨_, _, ⟨T67, L67, kc67, nc67⟩, -, X67, ⟨Lc67, hQ67, l67, y67, z67⟩, st67⟩ := Jvm.LawKit.callS X66 hx (y := (⟨"com/example/moat/moat/xpath/OperatorFlippedPinLaw", "index", "(Lcom/example/moat/moat/xpath/Operation$Operator;)I"⟩ : MethodName)) hown (mvT hZ (hw _ (List.mem_of_getElem? (i := 21) rfl))) (mvT hZ (hw _ (List.mem_of_getElem? (i := 22) rfl))) (mvT hZ (hw _ (List.mem_of_getElem? (i := 3) rfl))) (mvT hZ (hw _ (List.mem_of_getElem? (i := 23) rfl))) (by decide) (backOf (W := 0) (rmX9 l Z a0 hw [] u_MINUS u_OR u_AND u_EQUAL u_NOT_EQUAL u_LESS u_LESS_OR_EQUAL u_GREATER u_GREATER_OR_EQUAL u_PLUS h0 n0 Z0 S_OR S_AND S_EQUAL S_NOT_EQUAL S_LESS S_LESS_OR_EQUAL S_GREATER S_GREATER_OR_EQUAL S_PLUS S_MINUS ne_u_OR_u_MINUS ne_u_AND_u_MINUS ne_u_EQUAL_u_MINUS ne_u_NOT_EQUAL_u_MINUS ne_u_LESS_u_MINUS ne_u_LESS_OR_EQUAL_u_MINUS ne_u_GREATER_u_MINUS ne_u_GREATER_OR_EQUAL_u_MINUS ne_u_PLUS_u_MINUS) hZ (hw _ (List.mem_of_getElem? (i := 23) rfl)) (hw _ (List.mem_of_getElem? (i := 3) rfl)) (by decide) (by decide)) (g := (mkF m 25 #[.val (.int k), .val (.long a), .second, .val (.long b), .second, .val (.int (9 : Int32)), .val (.ref u_MINUS), .val (.ref u_MINUS), .unset] [(.ref u_MINUS)])) rfl (by rw [hml]; rfl) (argsL := [(.ref u_MINUS)]) (rest := []) (lenOf pd_2 rfl) rfl (by show 2 * 0 + _ ≤ _; exact Nat.le_of_eq rfl) (hb hby at_25) (fun _ _ => ⟨rfl, e66, (by decide : 0 + 0 ≤ _), (by decide : 0 + 0 ≤ _)⟩)
    dsimp only [Pt.U, Pt.locs, Pt.cells, Pt.slots] at X67 l67 y67 z67 st67 hQ67
    subst l67 y67 z67
    obtain ⟨h67, e67⟩ : ∃ hh, T67.heap = hh := ⟨_, rfl⟩
    rw [e67] at hQ67
    obtain ⟨rfl, N67q, sm67⟩ := hQ67
    have N67 := Fr.app N66 N67q
    refine Go.st st67 ?_
    rw [sm67] at e67
    show Go p e below s _ _ _ T67 (mkF m 28 #[.val (.int k), .val (.long a), .second, .val (.long b), .second, .val (.int (9 : Int32)), .val (.ref u_MINUS), .val (.ref u_MINUS), .unset] [(.int (9 : Int32))])
    refine Go.st (fun _ => XS.istore X67.here hx rfl (hb hby at_28) rfl (l' := #[.val (.int k), .val (.long a), .second, .val (.long b), .second, .val (.int (9 : Int32)), .val (.ref u_MINUS), .val (.ref u_MINUS), .val (.int (9 : Int32))]) rfl) ?_
    show Go p e below s _ _ _ T67 (mkF m 30 #[.val (.int k), .val (.long a), .second, .val (.long b), .second, .val (.int (9 : Int32)), .val (.ref u_MINUS), .val (.ref u_MINUS), .val (.int (9 : Int32))] [])
    refine Go.st (fun _ => XS.iload X67.here hx rfl (hb hby at_30) rfl) ?_
    show Go p e below s _ _ _ T67 (mkF m 32 #[.val (.int k), .val (.long a), .second, .val (.long b), .second, .val (.int (9 : Int32)), .val (.ref u_MINUS), .val (.ref u_MINUS), .val (.int (9 : Int32))] [(.int (9 : Int32))])
    refine Go.st (fun _ => XS.iconst X67.here hx rfl (hb hby at_32)) ?_
    show Go p e below s _ _ _ T67 (mkF m 33 #[.val (.int k), .val (.long a), .second, .val (.long b), .second, .val (.int (9 : Int32)), .val (.ref u_MINUS), .val (.ref u_MINUS), .val (.int (9 : Int32))] [(.int (2 : Int32)), (.int (9 : Int32))])
    refine Go.st (fun _ => XS.icmpNo X67.here hx rfl (hb hby at_33) rfl (flt (by decide : ¬ ((9 : Int32) < (2 : Int32)))).1) ?_
    show Go p e below s _ _ _ T67 (mkF m 36 #[.val (.int k), .val (.long a), .second, .val (.long b), .second, .val (.int (9 : Int32)), .val (.ref u_MINUS), .val (.ref u_MINUS), .val (.int (9 : Int32))] [])
    refine Go.st (fun _ => XS.iload X67.here hx rfl (hb hby at_36) rfl) ?_
    show Go p e below s _ _ _ T67 (mkF m 38 #[.val (.int k), .val (.long a), .second, .val (.long b), .second, .val (.int (9 : Int32)), .val (.ref u_MINUS), .val (.ref u_MINUS), .val (.int (9 : Int32))] [(.int (9 : Int32))])
    refine Go.st (fun _ => XS.bipush X67.here hx rfl (hb hby at_38)) ?_
    show Go p e below s _ _ _ T67 (mkF m 40 #[.val (.int k), .val (.long a), .second, .val (.long b), .second, .val (.int (9 : Int32)), .val (.ref u_MINUS), .val (.ref u_MINUS), .val (.int (9 : Int32))] [(.int (7 : Int32)), (.int (9 : Int32))])
    refine Go.st (fun _ => XS.icmpYes X67.here hx rfl (pc0 := 40) (pc' := 89) rfl (hb hby at_40) rfl (tlt (by decide : (7 : Int32) < (9 : Int32))).2.2.1 (by decide) (by decide)) ?_
    show Go p e below s _ _ _ T67 (mkF m 89 #[.val (.int k), .val (.long a), .second, .val (.long b), .second, .val (.int (9 : Int32)), .val (.ref u_MINUS), .val (.ref u_MINUS), .val (.int (9 : Int32))] [])
    refine Go.st (fun _ => XS.aload X67.here hx rfl (hb hby at_89) rfl rfl) ?_
    show Go p e below s _ _ _ T67 (mkF m 91 #[.val (.int k), .val (.long a), .second, .val (.long b), .second, .val (.int (9 : Int32)), .val (.ref u_MINUS), .val (.ref u_MINUS), .val (.int (9 : Int32))] [(.ref u_MINUS)])
    refine Go.st (fun _ => XS.aload X67.here hx rfl (hb hby at_91) rfl rfl) ?_
    show Go p e below s _ _ _ T67 (mkF m 93 #[.val (.int k), .val (.long a), .second, .val (.long b), .second, .val (.int (9 : Int32)), .val (.ref u_MINUS), .val (.ref u_MINUS), .val (.int (9 : Int32))] [(.ref u_MINUS), (.ref u_MINUS)])
    refine Go.st (fun _ => Jvm.RoadKit.acmp (g := (mkF m 93 #[.val (.int k), .val (.long a), .second, .val (.long b), .second, .val (.int (9 : Int32)), .val (.ref u_MINUS), .val (.ref u_MINUS), .val (.int (9 : Int32))] [(.ref u_MINUS), (.ref u_MINUS)])) X67 hx rfl rfl rfl (pc0 := 93) (pc' := 96) (same := true) rfl (hb hby at_93) rfl (decide_eq_true rfl) (by decide) (by decide)) ?_
    show Go p e below s _ _ _ T67 (mkF m 96 #[.val (.int k), .val (.long a), .second, .val (.long b), .second, .val (.int (9 : Int32)), .val (.ref u_MINUS), .val (.ref u_MINUS), .val (.int (9 : Int32))] [])
    refine Go.st (fun _ => XS.iconst X67.here hx rfl (hb hby at_96)) ?_
    show Go p e below s _ _ _ T67 (mkF m 97 #[.val (.int k), .val (.long a), .second, .val (.long b), .second, .val (.int (9 : Int32)), .val (.ref u_MINUS), .val (.ref u_MINUS), .val (.int (9 : Int32))] [(.int (1 : Int32))])
    refine Go.st (fun _ => XS.goto X67.here hx rfl (pc0 := 97) (pc' := 101) rfl (hb hby at_97) (by decide) (by decide)) ?_
    show Go p e below s _ _ _ T67 (mkF m 101 #[.val (.int k), .val (.long a), .second, .val (.long b), .second, .val (.int (9 : Int32)), .val (.ref u_MINUS), .val (.ref u_MINUS), .val (.int (9 : Int32))] [(.int (1 : Int32))])
    exact Go.retZ X67 hx hlk Bd.returns (hb hby at_101) rfl (by rw [e67]; exact ⟨rfl, N67⟩) (by decide) (by decide)
  · rw [show ((k &&& (2147483647 : Int32)) % (14 : Int32)) = (10 : Int32) from hd1]
    show Go p e below s _ _ _ s₁ (mkF m 7 #[.val (.int k), .val (.long a), .second, .val (.long b), .second, .unset, .unset, .unset, .unset] [(.int (10 : Int32))])
    refine Go.st (fun _ => XS.istore X0.here hx rfl (hb hby at_7) rfl (l' := #[.val (.int k), .val (.long a), .second, .val (.long b), .second, .val (.int (10 : Int32)), .unset, .unset, .unset]) rfl) ?_
    show Go p e below s _ _ _ s₁ (mkF m 9 #[.val (.int k), .val (.long a), .second, .val (.long b), .second, .val (.int (10 : Int32)), .unset, .unset, .unset] [])
    refine Go.st (fun _ => XS.iload X0.here hx rfl (hb hby at_9) rfl) ?_
    show Go p e below s _ _ _ s₁ (mkF m 11 #[.val (.int k), .val (.long a), .second, .val (.long b), .second, .val (.int (10 : Int32)), .unset, .unset, .unset] [(.int (10 : Int32))])
    obtain ⟨_, _, ⟨T68, L68, kc68, nc68⟩, -, X68, ⟨Lc68, hQ68, l68, y68, z68⟩, st68⟩ := Jvm.LawKit.callS X0 hx (y := (⟨"com/example/moat/moat/xpath/OperatorFlippedPinLaw", "pick", "(I)Lcom/example/moat/moat/xpath/Operation$Operator;"⟩ : MethodName)) hown (mvT hZ (hw _ (List.mem_of_getElem? (i := 1) rfl))) (mvT hZ (hw _ (List.mem_of_getElem? (i := 2) rfl))) (mvT hZ (hw _ (List.mem_of_getElem? (i := 3) rfl))) (mvT hZ (hw _ (List.mem_of_getElem? (i := 4) rfl))) (by decide) (backOf (W := 0) (rmP10 l Z a0 hw [] u_MULTIPLY h0 n0 Z0 S_MULTIPLY) hZ (hw _ (List.mem_of_getElem? (i := 4) rfl)) (hw _ (List.mem_of_getElem? (i := 3) rfl)) (by decide) (by decide)) (g := (mkF m 11 #[.val (.int k), .val (.long a), .second, .val (.long b), .second, .val (.int (10 : Int32)), .unset, .unset, .unset] [(.int (10 : Int32))])) rfl (by rw [hml]; rfl) (argsL := [(.int (10 : Int32))]) (rest := []) (lenOf pd_0 rfl) rfl (by show 2 * 0 + _ ≤ _; exact Nat.le_of_eq rfl) (hb hby at_11) (fun _ _ => ⟨rfl, e0, (by decide : 0 + 0 ≤ _), (by decide : 0 + 0 ≤ _)⟩)
    dsimp only [Pt.U, Pt.locs, Pt.cells, Pt.slots] at X68 l68 y68 z68 st68 hQ68
    subst l68 y68 z68
    obtain ⟨h68, e68⟩ : ∃ hh, T68.heap = hh := ⟨_, rfl⟩
    rw [e68] at hQ68
    obtain ⟨rfl, N68q, sm68⟩ := hQ68
    have N68 := Fr.app N0 N68q
    refine Go.st st68 ?_
    rw [sm68] at e68
    show Go p e below s _ _ _ T68 (mkF m 14 #[.val (.int k), .val (.long a), .second, .val (.long b), .second, .val (.int (10 : Int32)), .unset, .unset, .unset] [(.ref u_MULTIPLY)])
    refine Go.st (fun _ => XS.astore X68.here hx rfl (hb hby at_14) rfl rfl (l' := #[.val (.int k), .val (.long a), .second, .val (.long b), .second, .val (.int (10 : Int32)), .val (.ref u_MULTIPLY), .unset, .unset]) rfl) ?_
    show Go p e below s _ _ _ T68 (mkF m 16 #[.val (.int k), .val (.long a), .second, .val (.long b), .second, .val (.int (10 : Int32)), .val (.ref u_MULTIPLY), .unset, .unset] [])
    refine Go.st (fun _ => XS.aload X68.here hx rfl (hb hby at_16) rfl rfl) ?_
    show Go p e below s _ _ _ T68 (mkF m 18 #[.val (.int k), .val (.long a), .second, .val (.long b), .second, .val (.int (10 : Int32)), .val (.ref u_MULTIPLY), .unset, .unset] [(.ref u_MULTIPLY)])
    obtain ⟨cq69, kq69, q69a, q69b, q69c⟩ := isOf hZ e68 E_u_MULTIPLY
    obtain ⟨_, _, ⟨T69, L69, kc69, nc69⟩, -, X69, ⟨Lc69, hQ69, l69, y69, z69⟩, st69⟩ := X68.virtualBack hx (y := (⟨"com/example/moat/moat/xpath/Operation$Operator", "flipped", "()Lcom/example/moat/moat/xpath/Operation$Operator;"⟩ : MethodName)) (z := (⟨"com/example/moat/moat/xpath/Operation$Operator", "flipped", "()Lcom/example/moat/moat/xpath/Operation$Operator;"⟩ : MethodName)) hown (mvT hZ (hw _ (List.mem_of_getElem? (i := 8) rfl))) (mvT hZ (hw _ (List.mem_of_getElem? (i := 9) rfl))) (notFace_of_selects (args := #[]) (mvT hZ (hw _ (List.mem_of_getElem? (i := 11) rfl)))) (mvT hZ (hw _ (List.mem_of_getElem? (i := 11) rfl))) (mvT hZ (hw _ (List.mem_of_getElem? (i := 10) rfl))) (by decide) (backOf (W := 0) (rmF10 l Z a0 hw [] u_MULTIPLY u_LESS u_LESS_OR_EQUAL u_GREATER u_GREATER_OR_EQUAL h0 n0 Z0 S_LESS S_LESS_OR_EQUAL S_GREATER S_GREATER_OR_EQUAL ne_u_LESS_u_MULTIPLY ne_u_LESS_OR_EQUAL_u_MULTIPLY ne_u_GREATER_u_MULTIPLY ne_u_GREATER_OR_EQUAL_u_MULTIPLY) hZ (hw _ (List.mem_of_getElem? (i := 12) rfl)) (hw _ (List.mem_of_getElem? (i := 6) rfl)) (by decide) (by decide)) q69a q69c (g := (mkF m 18 #[.val (.int k), .val (.long a), .second, .val (.long b), .second, .val (.int (10 : Int32)), .val (.ref u_MULTIPLY), .unset, .unset] [(.ref u_MULTIPLY)])) rfl (by rw [hml]; rfl) (Steps.refl _) (argsL := []) (rest := []) (lenOf pd_1 rfl) rfl (by show 2 * 0 + _ ≤ _; exact Nat.le_of_eq rfl) (hb hby at_18) (fun _ _ => ⟨rfl, e68, (by decide : 0 + 0 ≤ _), (by decide : 0 + 0 ≤ _)⟩)
    dsimp only [Pt.U, Pt.locs, Pt.cells, Pt.slots] at X69 l69 y69 z69 st69 hQ69
    subst l69 y69 z69
    obtain ⟨h69, e69⟩ : ∃ hh, T69.heap = hh := ⟨_, rfl⟩
    rw [e69] at hQ69
    obtain ⟨rfl, N69q, sm69⟩ := hQ69
    have N69 := Fr.app N68 N69q
    refine Go.st (fun _ kk => st69.trans kk) ?_
    rw [sm69] at e69
    show Go p e below s _ _ _ T69 (mkF m 21 #[.val (.int k), .val (.long a), .second, .val (.long b), .second, .val (.int (10 : Int32)), .val (.ref u_MULTIPLY), .unset, .unset] [(.ref u_MULTIPLY)])
    refine Go.st (fun _ => XS.astore X69.here hx rfl (hb hby at_21) rfl rfl (l' := #[.val (.int k), .val (.long a), .second, .val (.long b), .second, .val (.int (10 : Int32)), .val (.ref u_MULTIPLY), .val (.ref u_MULTIPLY), .unset]) rfl) ?_
    show Go p e below s _ _ _ T69 (mkF m 23 #[.val (.int k), .val (.long a), .second, .val (.long b), .second, .val (.int (10 : Int32)), .val (.ref u_MULTIPLY), .val (.ref u_MULTIPLY), .unset] [])
    refine Go.st (fun _ => XS.aload X69.here hx rfl (hb hby at_23) rfl rfl) ?_
    show Go p e below s _ _ _ T69 (mkF m 25 #[.val (.int k), .val (.long a), .second, .val (.long b), .second, .val (.int (10 : Int32)), .val (.ref u_MULTIPLY), .val (.ref u_MULTIPLY), .unset] [(.ref u_MULTIPLY)])
    obtain ⟨_, _, ⟨T70, L70, kc70, nc70⟩, -, X70, ⟨Lc70, hQ70, l70, y70, z70⟩, st70⟩ := Jvm.LawKit.callS X69 hx (y := (⟨"com/example/moat/moat/xpath/OperatorFlippedPinLaw", "index", "(Lcom/example/moat/moat/xpath/Operation$Operator;)I"⟩ : MethodName)) hown (mvT hZ (hw _ (List.mem_of_getElem? (i := 21) rfl))) (mvT hZ (hw _ (List.mem_of_getElem? (i := 22) rfl))) (mvT hZ (hw _ (List.mem_of_getElem? (i := 3) rfl))) (mvT hZ (hw _ (List.mem_of_getElem? (i := 23) rfl))) (by decide) (backOf (W := 0) (rmX10 l Z a0 hw [] u_MULTIPLY u_OR u_AND u_EQUAL u_NOT_EQUAL u_LESS u_LESS_OR_EQUAL u_GREATER u_GREATER_OR_EQUAL u_PLUS u_MINUS h0 n0 Z0 S_OR S_AND S_EQUAL S_NOT_EQUAL S_LESS S_LESS_OR_EQUAL S_GREATER S_GREATER_OR_EQUAL S_PLUS S_MINUS S_MULTIPLY ne_u_OR_u_MULTIPLY ne_u_AND_u_MULTIPLY ne_u_EQUAL_u_MULTIPLY ne_u_NOT_EQUAL_u_MULTIPLY ne_u_LESS_u_MULTIPLY ne_u_LESS_OR_EQUAL_u_MULTIPLY ne_u_GREATER_u_MULTIPLY ne_u_GREATER_OR_EQUAL_u_MULTIPLY ne_u_PLUS_u_MULTIPLY ne_u_MINUS_u_MULTIPLY) hZ (hw _ (List.mem_of_getElem? (i := 23) rfl)) (hw _ (List.mem_of_getElem? (i := 3) rfl)) (by decide) (by decide)) (g := (mkF m 25 #[.val (.int k), .val (.long a), .second, .val (.long b), .second, .val (.int (10 : Int32)), .val (.ref u_MULTIPLY), .val (.ref u_MULTIPLY), .unset] [(.ref u_MULTIPLY)])) rfl (by rw [hml]; rfl) (argsL := [(.ref u_MULTIPLY)]) (rest := []) (lenOf pd_2 rfl) rfl (by show 2 * 0 + _ ≤ _; exact Nat.le_of_eq rfl) (hb hby at_25) (fun _ _ => ⟨rfl, e69, (by decide : 0 + 0 ≤ _), (by decide : 0 + 0 ≤ _)⟩)
    dsimp only [Pt.U, Pt.locs, Pt.cells, Pt.slots] at X70 l70 y70 z70 st70 hQ70
    subst l70 y70 z70
    obtain ⟨h70, e70⟩ : ∃ hh, T70.heap = hh := ⟨_, rfl⟩
    rw [e70] at hQ70
    obtain ⟨rfl, N70q, sm70⟩ := hQ70
    have N70 := Fr.app N69 N70q
    refine Go.st st70 ?_
    rw [sm70] at e70
    show Go p e below s _ _ _ T70 (mkF m 28 #[.val (.int k), .val (.long a), .second, .val (.long b), .second, .val (.int (10 : Int32)), .val (.ref u_MULTIPLY), .val (.ref u_MULTIPLY), .unset] [(.int (10 : Int32))])
    refine Go.st (fun _ => XS.istore X70.here hx rfl (hb hby at_28) rfl (l' := #[.val (.int k), .val (.long a), .second, .val (.long b), .second, .val (.int (10 : Int32)), .val (.ref u_MULTIPLY), .val (.ref u_MULTIPLY), .val (.int (10 : Int32))]) rfl) ?_
    show Go p e below s _ _ _ T70 (mkF m 30 #[.val (.int k), .val (.long a), .second, .val (.long b), .second, .val (.int (10 : Int32)), .val (.ref u_MULTIPLY), .val (.ref u_MULTIPLY), .val (.int (10 : Int32))] [])
    refine Go.st (fun _ => XS.iload X70.here hx rfl (hb hby at_30) rfl) ?_
    show Go p e below s _ _ _ T70 (mkF m 32 #[.val (.int k), .val (.long a), .second, .val (.long b), .second, .val (.int (10 : Int32)), .val (.ref u_MULTIPLY), .val (.ref u_MULTIPLY), .val (.int (10 : Int32))] [(.int (10 : Int32))])
    refine Go.st (fun _ => XS.iconst X70.here hx rfl (hb hby at_32)) ?_
    show Go p e below s _ _ _ T70 (mkF m 33 #[.val (.int k), .val (.long a), .second, .val (.long b), .second, .val (.int (10 : Int32)), .val (.ref u_MULTIPLY), .val (.ref u_MULTIPLY), .val (.int (10 : Int32))] [(.int (2 : Int32)), (.int (10 : Int32))])
    refine Go.st (fun _ => XS.icmpNo X70.here hx rfl (hb hby at_33) rfl (flt (by decide : ¬ ((10 : Int32) < (2 : Int32)))).1) ?_
    show Go p e below s _ _ _ T70 (mkF m 36 #[.val (.int k), .val (.long a), .second, .val (.long b), .second, .val (.int (10 : Int32)), .val (.ref u_MULTIPLY), .val (.ref u_MULTIPLY), .val (.int (10 : Int32))] [])
    refine Go.st (fun _ => XS.iload X70.here hx rfl (hb hby at_36) rfl) ?_
    show Go p e below s _ _ _ T70 (mkF m 38 #[.val (.int k), .val (.long a), .second, .val (.long b), .second, .val (.int (10 : Int32)), .val (.ref u_MULTIPLY), .val (.ref u_MULTIPLY), .val (.int (10 : Int32))] [(.int (10 : Int32))])
    refine Go.st (fun _ => XS.bipush X70.here hx rfl (hb hby at_38)) ?_
    show Go p e below s _ _ _ T70 (mkF m 40 #[.val (.int k), .val (.long a), .second, .val (.long b), .second, .val (.int (10 : Int32)), .val (.ref u_MULTIPLY), .val (.ref u_MULTIPLY), .val (.int (10 : Int32))] [(.int (7 : Int32)), (.int (10 : Int32))])
    refine Go.st (fun _ => XS.icmpYes X70.here hx rfl (pc0 := 40) (pc' := 89) rfl (hb hby at_40) rfl (tlt (by decide : (7 : Int32) < (10 : Int32))).2.2.1 (by decide) (by decide)) ?_
    show Go p e below s _ _ _ T70 (mkF m 89 #[.val (.int k), .val (.long a), .second, .val (.long b), .second, .val (.int (10 : Int32)), .val (.ref u_MULTIPLY), .val (.ref u_MULTIPLY), .val (.int (10 : Int32))] [])
    refine Go.st (fun _ => XS.aload X70.here hx rfl (hb hby at_89) rfl rfl) ?_
    show Go p e below s _ _ _ T70 (mkF m 91 #[.val (.int k), .val (.long a), .second, .val (.long b), .second, .val (.int (10 : Int32)), .val (.ref u_MULTIPLY), .val (.ref u_MULTIPLY), .val (.int (10 : Int32))] [(.ref u_MULTIPLY)])
    refine Go.st (fun _ => XS.aload X70.here hx rfl (hb hby at_91) rfl rfl) ?_
    show Go p e below s _ _ _ T70 (mkF m 93 #[.val (.int k), .val (.long a), .second, .val (.long b), .second, .val (.int (10 : Int32)), .val (.ref u_MULTIPLY), .val (.ref u_MULTIPLY), .val (.int (10 : Int32))] [(.ref u_MULTIPLY), (.ref u_MULTIPLY)])
    refine Go.st (fun _ => Jvm.RoadKit.acmp (g := (mkF m 93 #[.val (.int k), .val (.long a), .second, .val (.long b), .second, .val (.int (10 : Int32)), .val (.ref u_MULTIPLY), .val (.ref u_MULTIPLY), .val (.int (10 : Int32))] [(.ref u_MULTIPLY), (.ref u_MULTIPLY)])) X70 hx rfl rfl rfl (pc0 := 93) (pc' := 96) (same := true) rfl (hb hby at_93) rfl (decide_eq_true rfl) (by decide) (by decide)) ?_
    show Go p e below s _ _ _ T70 (mkF m 96 #[.val (.int k), .val (.long a), .second, .val (.long b), .second, .val (.int (10 : Int32)), .val (.ref u_MULTIPLY), .val (.ref u_MULTIPLY), .val (.int (10 : Int32))] [])
    refine Go.st (fun _ => XS.iconst X70.here hx rfl (hb hby at_96)) ?_
    show Go p e below s _ _ _ T70 (mkF m 97 #[.val (.int k), .val (.long a), .second, .val (.long b), .second, .val (.int (10 : Int32)), .val (.ref u_MULTIPLY), .val (.ref u_MULTIPLY), .val (.int (10 : Int32))] [(.int (1 : Int32))])
    refine Go.st (fun _ => XS.goto X70.here hx rfl (pc0 := 97) (pc' := 101) rfl (hb hby at_97) (by decide) (by decide)) ?_
    show Go p e below s _ _ _ T70 (mkF m 101 #[.val (.int k), .val (.long a), .second, .val (.long b), .second, .val (.int (10 : Int32)), .val (.ref u_MULTIPLY), .val (.ref u_MULTIPLY), .val (.int (10 : Int32))] [(.int (1 : Int32))])
    exact Go.retZ X70 hx hlk Bd.returns (hb hby at_101) rfl (by rw [e70]; exact ⟨rfl, N70⟩) (by decide) (by decide)
  · rw [show ((k &&& (2147483647 : Int32)) % (14 : Int32)) = (11 : Int32) from hd1]
    show Go p e below s _ _ _ s₁ (mkF m 7 #[.val (.int k), .val (.long a), .second, .val (.long b), .second, .unset, .unset, .unset, .unset] [(.int (11 : Int32))])
    refine Go.st (fun _ => XS.istore X0.here hx rfl (hb hby at_7) rfl (l' := #[.val (.int k), .val (.long a), .second, .val (.long b), .second, .val (.int (11 : Int32)), .unset, .unset, .unset]) rfl) ?_
    show Go p e below s _ _ _ s₁ (mkF m 9 #[.val (.int k), .val (.long a), .second, .val (.long b), .second, .val (.int (11 : Int32)), .unset, .unset, .unset] [])
    refine Go.st (fun _ => XS.iload X0.here hx rfl (hb hby at_9) rfl) ?_
    show Go p e below s _ _ _ s₁ (mkF m 11 #[.val (.int k), .val (.long a), .second, .val (.long b), .second, .val (.int (11 : Int32)), .unset, .unset, .unset] [(.int (11 : Int32))])
    obtain ⟨_, _, ⟨T71, L71, kc71, nc71⟩, -, X71, ⟨Lc71, hQ71, l71, y71, z71⟩, st71⟩ := Jvm.LawKit.callS X0 hx (y := (⟨"com/example/moat/moat/xpath/OperatorFlippedPinLaw", "pick", "(I)Lcom/example/moat/moat/xpath/Operation$Operator;"⟩ : MethodName)) hown (mvT hZ (hw _ (List.mem_of_getElem? (i := 1) rfl))) (mvT hZ (hw _ (List.mem_of_getElem? (i := 2) rfl))) (mvT hZ (hw _ (List.mem_of_getElem? (i := 3) rfl))) (mvT hZ (hw _ (List.mem_of_getElem? (i := 4) rfl))) (by decide) (backOf (W := 0) (rmP11 l Z a0 hw [] u_DIVIDE h0 n0 Z0 S_DIVIDE) hZ (hw _ (List.mem_of_getElem? (i := 4) rfl)) (hw _ (List.mem_of_getElem? (i := 3) rfl)) (by decide) (by decide)) (g := (mkF m 11 #[.val (.int k), .val (.long a), .second, .val (.long b), .second, .val (.int (11 : Int32)), .unset, .unset, .unset] [(.int (11 : Int32))])) rfl (by rw [hml]; rfl) (argsL := [(.int (11 : Int32))]) (rest := []) (lenOf pd_0 rfl) rfl (by show 2 * 0 + _ ≤ _; exact Nat.le_of_eq rfl) (hb hby at_11) (fun _ _ => ⟨rfl, e0, (by decide : 0 + 0 ≤ _), (by decide : 0 + 0 ≤ _)⟩)
    dsimp only [Pt.U, Pt.locs, Pt.cells, Pt.slots] at X71 l71 y71 z71 st71 hQ71
    subst l71 y71 z71
    obtain ⟨h71, e71⟩ : ∃ hh, T71.heap = hh := ⟨_, rfl⟩
    rw [e71] at hQ71
    obtain ⟨rfl, N71q, sm71⟩ := hQ71
    have N71 := Fr.app N0 N71q
    refine Go.st st71 ?_
    rw [sm71] at e71
    show Go p e below s _ _ _ T71 (mkF m 14 #[.val (.int k), .val (.long a), .second, .val (.long b), .second, .val (.int (11 : Int32)), .unset, .unset, .unset] [(.ref u_DIVIDE)])
    refine Go.st (fun _ => XS.astore X71.here hx rfl (hb hby at_14) rfl rfl (l' := #[.val (.int k), .val (.long a), .second, .val (.long b), .second, .val (.int (11 : Int32)), .val (.ref u_DIVIDE), .unset, .unset]) rfl) ?_
    show Go p e below s _ _ _ T71 (mkF m 16 #[.val (.int k), .val (.long a), .second, .val (.long b), .second, .val (.int (11 : Int32)), .val (.ref u_DIVIDE), .unset, .unset] [])
    refine Go.st (fun _ => XS.aload X71.here hx rfl (hb hby at_16) rfl rfl) ?_
    show Go p e below s _ _ _ T71 (mkF m 18 #[.val (.int k), .val (.long a), .second, .val (.long b), .second, .val (.int (11 : Int32)), .val (.ref u_DIVIDE), .unset, .unset] [(.ref u_DIVIDE)])
    obtain ⟨cq72, kq72, q72a, q72b, q72c⟩ := isOf hZ e71 E_u_DIVIDE
    obtain ⟨_, _, ⟨T72, L72, kc72, nc72⟩, -, X72, ⟨Lc72, hQ72, l72, y72, z72⟩, st72⟩ := X71.virtualBack hx (y := (⟨"com/example/moat/moat/xpath/Operation$Operator", "flipped", "()Lcom/example/moat/moat/xpath/Operation$Operator;"⟩ : MethodName)) (z := (⟨"com/example/moat/moat/xpath/Operation$Operator", "flipped", "()Lcom/example/moat/moat/xpath/Operation$Operator;"⟩ : MethodName)) hown (mvT hZ (hw _ (List.mem_of_getElem? (i := 8) rfl))) (mvT hZ (hw _ (List.mem_of_getElem? (i := 9) rfl))) (notFace_of_selects (args := #[]) (mvT hZ (hw _ (List.mem_of_getElem? (i := 11) rfl)))) (mvT hZ (hw _ (List.mem_of_getElem? (i := 11) rfl))) (mvT hZ (hw _ (List.mem_of_getElem? (i := 10) rfl))) (by decide) (backOf (W := 0) (rmF11 l Z a0 hw [] u_DIVIDE u_LESS u_LESS_OR_EQUAL u_GREATER u_GREATER_OR_EQUAL h0 n0 Z0 S_LESS S_LESS_OR_EQUAL S_GREATER S_GREATER_OR_EQUAL ne_u_LESS_u_DIVIDE ne_u_LESS_OR_EQUAL_u_DIVIDE ne_u_GREATER_u_DIVIDE ne_u_GREATER_OR_EQUAL_u_DIVIDE) hZ (hw _ (List.mem_of_getElem? (i := 12) rfl)) (hw _ (List.mem_of_getElem? (i := 6) rfl)) (by decide) (by decide)) q72a q72c (g := (mkF m 18 #[.val (.int k), .val (.long a), .second, .val (.long b), .second, .val (.int (11 : Int32)), .val (.ref u_DIVIDE), .unset, .unset] [(.ref u_DIVIDE)])) rfl (by rw [hml]; rfl) (Steps.refl _) (argsL := []) (rest := []) (lenOf pd_1 rfl) rfl (by show 2 * 0 + _ ≤ _; exact Nat.le_of_eq rfl) (hb hby at_18) (fun _ _ => ⟨rfl, e71, (by decide : 0 + 0 ≤ _), (by decide : 0 + 0 ≤ _)⟩)
    dsimp only [Pt.U, Pt.locs, Pt.cells, Pt.slots] at X72 l72 y72 z72 st72 hQ72
    subst l72 y72 z72
    obtain ⟨h72, e72⟩ : ∃ hh, T72.heap = hh := ⟨_, rfl⟩
    rw [e72] at hQ72
    obtain ⟨rfl, N72q, sm72⟩ := hQ72
    have N72 := Fr.app N71 N72q
    refine Go.st (fun _ kk => st72.trans kk) ?_
    rw [sm72] at e72
    show Go p e below s _ _ _ T72 (mkF m 21 #[.val (.int k), .val (.long a), .second, .val (.long b), .second, .val (.int (11 : Int32)), .val (.ref u_DIVIDE), .unset, .unset] [(.ref u_DIVIDE)])
    refine Go.st (fun _ => XS.astore X72.here hx rfl (hb hby at_21) rfl rfl (l' := #[.val (.int k), .val (.long a), .second, .val (.long b), .second, .val (.int (11 : Int32)), .val (.ref u_DIVIDE), .val (.ref u_DIVIDE), .unset]) rfl) ?_
    show Go p e below s _ _ _ T72 (mkF m 23 #[.val (.int k), .val (.long a), .second, .val (.long b), .second, .val (.int (11 : Int32)), .val (.ref u_DIVIDE), .val (.ref u_DIVIDE), .unset] [])
    refine Go.st (fun _ => XS.aload X72.here hx rfl (hb hby at_23) rfl rfl) ?_
    show Go p e below s _ _ _ T72 (mkF m 25 #[.val (.int k), .val (.long a), .second, .val (.long b), .second, .val (.int (11 : Int32)), .val (.ref u_DIVIDE), .val (.ref u_DIVIDE), .unset] [(.ref u_DIVIDE)])
    obtain ⟨_, _, ⟨T73, L73, kc73, nc73⟩, -, X73, ⟨Lc73, hQ73, l73, y73, z73⟩, st73⟩ := Jvm.LawKit.callS X72 hx (y := (⟨"com/example/moat/moat/xpath/OperatorFlippedPinLaw", "index", "(Lcom/example/moat/moat/xpath/Operation$Operator;)I"⟩ : MethodName)) hown (mvT hZ (hw _ (List.mem_of_getElem? (i := 21) rfl))) (mvT hZ (hw _ (List.mem_of_getElem? (i := 22) rfl))) (mvT hZ (hw _ (List.mem_of_getElem? (i := 3) rfl))) (mvT hZ (hw _ (List.mem_of_getElem? (i := 23) rfl))) (by decide) (backOf (W := 0) (rmX11 l Z a0 hw [] u_DIVIDE u_OR u_AND u_EQUAL u_NOT_EQUAL u_LESS u_LESS_OR_EQUAL u_GREATER u_GREATER_OR_EQUAL u_PLUS u_MINUS u_MULTIPLY h0 n0 Z0 S_OR S_AND S_EQUAL S_NOT_EQUAL S_LESS S_LESS_OR_EQUAL S_GREATER S_GREATER_OR_EQUAL S_PLUS S_MINUS S_MULTIPLY S_DIVIDE ne_u_OR_u_DIVIDE ne_u_AND_u_DIVIDE ne_u_EQUAL_u_DIVIDE ne_u_NOT_EQUAL_u_DIVIDE ne_u_LESS_u_DIVIDE ne_u_LESS_OR_EQUAL_u_DIVIDE ne_u_GREATER_u_DIVIDE ne_u_GREATER_OR_EQUAL_u_DIVIDE ne_u_PLUS_u_DIVIDE ne_u_MINUS_u_DIVIDE ne_u_MULTIPLY_u_DIVIDE) hZ (hw _ (List.mem_of_getElem? (i := 23) rfl)) (hw _ (List.mem_of_getElem? (i := 3) rfl)) (by decide) (by decide)) (g := (mkF m 25 #[.val (.int k), .val (.long a), .second, .val (.long b), .second, .val (.int (11 : Int32)), .val (.ref u_DIVIDE), .val (.ref u_DIVIDE), .unset] [(.ref u_DIVIDE)])) rfl (by rw [hml]; rfl) (argsL := [(.ref u_DIVIDE)]) (rest := []) (lenOf pd_2 rfl) rfl (by show 2 * 0 + _ ≤ _; exact Nat.le_of_eq rfl) (hb hby at_25) (fun _ _ => ⟨rfl, e72, (by decide : 0 + 0 ≤ _), (by decide : 0 + 0 ≤ _)⟩)
    dsimp only [Pt.U, Pt.locs, Pt.cells, Pt.slots] at X73 l73 y73 z73 st73 hQ73
    subst l73 y73 z73
    obtain ⟨h73, e73⟩ : ∃ hh, T73.heap = hh := ⟨_, rfl⟩
    rw [e73] at hQ73
    obtain ⟨rfl, N73q, sm73⟩ := hQ73
    have N73 := Fr.app N72 N73q
    refine Go.st st73 ?_
    rw [sm73] at e73
    show Go p e below s _ _ _ T73 (mkF m 28 #[.val (.int k), .val (.long a), .second, .val (.long b), .second, .val (.int (11 : Int32)), .val (.ref u_DIVIDE), .val (.ref u_DIVIDE), .unset] [(.int (11 : Int32))])
    refine Go.st (fun _ => XS.istore X73.here hx rfl (hb hby at_28) rfl (l' := #[.val (.int k), .val (.long a), .second, .val (.long b), .second, .val (.int (11 : Int32)), .val (.ref u_DIVIDE), .val (.ref u_DIVIDE), .val (.int (11 : Int32))]) rfl) ?_
    show Go p e below s _ _ _ T73 (mkF m 30 #[.val (.int k), .val (.long a), .second, .val (.long b), .second, .val (.int (11 : Int32)), .val (.ref u_DIVIDE), .val (.ref u_DIVIDE), .val (.int (11 : Int32))] [])
    refine Go.st (fun _ => XS.iload X73.here hx rfl (hb hby at_30) rfl) ?_
    show Go p e below s _ _ _ T73 (mkF m 32 #[.val (.int k), .val (.long a), .second, .val (.long b), .second, .val (.int (11 : Int32)), .val (.ref u_DIVIDE), .val (.ref u_DIVIDE), .val (.int (11 : Int32))] [(.int (11 : Int32))])
    refine Go.st (fun _ => XS.iconst X73.here hx rfl (hb hby at_32)) ?_
    show Go p e below s _ _ _ T73 (mkF m 33 #[.val (.int k), .val (.long a), .second, .val (.long b), .second, .val (.int (11 : Int32)), .val (.ref u_DIVIDE), .val (.ref u_DIVIDE), .val (.int (11 : Int32))] [(.int (2 : Int32)), (.int (11 : Int32))])
    refine Go.st (fun _ => XS.icmpNo X73.here hx rfl (hb hby at_33) rfl (flt (by decide : ¬ ((11 : Int32) < (2 : Int32)))).1) ?_
    show Go p e below s _ _ _ T73 (mkF m 36 #[.val (.int k), .val (.long a), .second, .val (.long b), .second, .val (.int (11 : Int32)), .val (.ref u_DIVIDE), .val (.ref u_DIVIDE), .val (.int (11 : Int32))] [])
    refine Go.st (fun _ => XS.iload X73.here hx rfl (hb hby at_36) rfl) ?_
    show Go p e below s _ _ _ T73 (mkF m 38 #[.val (.int k), .val (.long a), .second, .val (.long b), .second, .val (.int (11 : Int32)), .val (.ref u_DIVIDE), .val (.ref u_DIVIDE), .val (.int (11 : Int32))] [(.int (11 : Int32))])
    refine Go.st (fun _ => XS.bipush X73.here hx rfl (hb hby at_38)) ?_
    show Go p e below s _ _ _ T73 (mkF m 40 #[.val (.int k), .val (.long a), .second, .val (.long b), .second, .val (.int (11 : Int32)), .val (.ref u_DIVIDE), .val (.ref u_DIVIDE), .val (.int (11 : Int32))] [(.int (7 : Int32)), (.int (11 : Int32))])
    refine Go.st (fun _ => XS.icmpYes X73.here hx rfl (pc0 := 40) (pc' := 89) rfl (hb hby at_40) rfl (tlt (by decide : (7 : Int32) < (11 : Int32))).2.2.1 (by decide) (by decide)) ?_
    show Go p e below s _ _ _ T73 (mkF m 89 #[.val (.int k), .val (.long a), .second, .val (.long b), .second, .val (.int (11 : Int32)), .val (.ref u_DIVIDE), .val (.ref u_DIVIDE), .val (.int (11 : Int32))] [])
    refine Go.st (fun _ => XS.aload X73.here hx rfl (hb hby at_89) rfl rfl) ?_
    show Go p e below s _ _ _ T73 (mkF m 91 #[.val (.int k), .val (.long a), .second, .val (.long b), .second, .val (.int (11 : Int32)), .val (.ref u_DIVIDE), .val (.ref u_DIVIDE), .val (.int (11 : Int32))] [(.ref u_DIVIDE)])
    refine Go.st (fun _ => XS.aload X73.here hx rfl (hb hby at_91) rfl rfl) ?_
    show Go p e below s _ _ _ T73 (mkF m 93 #[.val (.int k), .val (.long a), .second, .val (.long b), .second, .val (.int (11 : Int32)), .val (.ref u_DIVIDE), .val (.ref u_DIVIDE), .val (.int (11 : Int32))] [(.ref u_DIVIDE), (.ref u_DIVIDE)])
    refine Go.st (fun _ => Jvm.RoadKit.acmp (g := (mkF m 93 #[.val (.int k), .val (.long a), .second, .val (.long b), .second, .val (.int (11 : Int32)), .val (.ref u_DIVIDE), .val (.ref u_DIVIDE), .val (.int (11 : Int32))] [(.ref u_DIVIDE), (.ref u_DIVIDE)])) X73 hx rfl rfl rfl (pc0 := 93) (pc' := 96) (same := true) rfl (hb hby at_93) rfl (decide_eq_true rfl) (by decide) (by decide)) ?_
    show Go p e below s _ _ _ T73 (mkF m 96 #[.val (.int k), .val (.long a), .second, .val (.long b), .second, .val (.int (11 : Int32)), .val (.ref u_DIVIDE), .val (.ref u_DIVIDE), .val (.int (11 : Int32))] [])
    refine Go.st (fun _ => XS.iconst X73.here hx rfl (hb hby at_96)) ?_
    show Go p e below s _ _ _ T73 (mkF m 97 #[.val (.int k), .val (.long a), .second, .val (.long b), .second, .val (.int (11 : Int32)), .val (.ref u_DIVIDE), .val (.ref u_DIVIDE), .val (.int (11 : Int32))] [(.int (1 : Int32))])
    refine Go.st (fun _ => XS.goto X73.here hx rfl (pc0 := 97) (pc' := 101) rfl (hb hby at_97) (by decide) (by decide)) ?_
    show Go p e below s _ _ _ T73 (mkF m 101 #[.val (.int k), .val (.long a), .second, .val (.long b), .second, .val (.int (11 : Int32)), .val (.ref u_DIVIDE), .val (.ref u_DIVIDE), .val (.int (11 : Int32))] [(.int (1 : Int32))])
    exact Go.retZ X73 hx hlk Bd.returns (hb hby at_101) rfl (by rw [e73]; exact ⟨rfl, N73⟩) (by decide) (by decide)
  · rw [show ((k &&& (2147483647 : Int32)) % (14 : Int32)) = (12 : Int32) from hd1]
    show Go p e below s _ _ _ s₁ (mkF m 7 #[.val (.int k), .val (.long a), .second, .val (.long b), .second, .unset, .unset, .unset, .unset] [(.int (12 : Int32))])
    refine Go.st (fun _ => XS.istore X0.here hx rfl (hb hby at_7) rfl (l' := #[.val (.int k), .val (.long a), .second, .val (.long b), .second, .val (.int (12 : Int32)), .unset, .unset, .unset]) rfl) ?_
    show Go p e below s _ _ _ s₁ (mkF m 9 #[.val (.int k), .val (.long a), .second, .val (.long b), .second, .val (.int (12 : Int32)), .unset, .unset, .unset] [])
    refine Go.st (fun _ => XS.iload X0.here hx rfl (hb hby at_9) rfl) ?_
    show Go p e below s _ _ _ s₁ (mkF m 11 #[.val (.int k), .val (.long a), .second, .val (.long b), .second, .val (.int (12 : Int32)), .unset, .unset, .unset] [(.int (12 : Int32))])
    obtain ⟨_, _, ⟨T74, L74, kc74, nc74⟩, -, X74, ⟨Lc74, hQ74, l74, y74, z74⟩, st74⟩ := Jvm.LawKit.callS X0 hx (y := (⟨"com/example/moat/moat/xpath/OperatorFlippedPinLaw", "pick", "(I)Lcom/example/moat/moat/xpath/Operation$Operator;"⟩ : MethodName)) hown (mvT hZ (hw _ (List.mem_of_getElem? (i := 1) rfl))) (mvT hZ (hw _ (List.mem_of_getElem? (i := 2) rfl))) (mvT hZ (hw _ (List.mem_of_getElem? (i := 3) rfl))) (mvT hZ (hw _ (List.mem_of_getElem? (i := 4) rfl))) (by decide) (backOf (W := 0) (rmP12 l Z a0 hw [] u_MODULO h0 n0 Z0 S_MODULO) hZ (hw _ (List.mem_of_getElem? (i := 4) rfl)) (hw _ (List.mem_of_getElem? (i := 3) rfl)) (by decide) (by decide)) (g := (mkF m 11 #[.val (.int k), .val (.long a), .second, .val (.long b), .second, .val (.int (12 : Int32)), .unset, .unset, .unset] [(.int (12 : Int32))])) rfl (by rw [hml]; rfl) (argsL := [(.int (12 : Int32))]) (rest := []) (lenOf pd_0 rfl) rfl (by show 2 * 0 + _ ≤ _; exact Nat.le_of_eq rfl) (hb hby at_11) (fun _ _ => ⟨rfl, e0, (by decide : 0 + 0 ≤ _), (by decide : 0 + 0 ≤ _)⟩)
    dsimp only [Pt.U, Pt.locs, Pt.cells, Pt.slots] at X74 l74 y74 z74 st74 hQ74
    subst l74 y74 z74
    obtain ⟨h74, e74⟩ : ∃ hh, T74.heap = hh := ⟨_, rfl⟩
    rw [e74] at hQ74
    obtain ⟨rfl, N74q, sm74⟩ := hQ74
    have N74 := Fr.app N0 N74q
    refine Go.st st74 ?_
    rw [sm74] at e74
    show Go p e below s _ _ _ T74 (mkF m 14 #[.val (.int k), .val (.long a), .second, .val (.long b), .second, .val (.int (12 : Int32)), .unset, .unset, .unset] [(.ref u_MODULO)])
    refine Go.st (fun _ => XS.astore X74.here hx rfl (hb hby at_14) rfl rfl (l' := #[.val (.int k), .val (.long a), .second, .val (.long b), .second, .val (.int (12 : Int32)), .val (.ref u_MODULO), .unset, .unset]) rfl) ?_
    show Go p e below s _ _ _ T74 (mkF m 16 #[.val (.int k), .val (.long a), .second, .val (.long b), .second, .val (.int (12 : Int32)), .val (.ref u_MODULO), .unset, .unset] [])
    refine Go.st (fun _ => XS.aload X74.here hx rfl (hb hby at_16) rfl rfl) ?_
    show Go p e below s _ _ _ T74 (mkF m 18 #[.val (.int k), .val (.long a), .second, .val (.long b), .second, .val (.int (12 : Int32)), .val (.ref u_MODULO), .unset, .unset] [(.ref u_MODULO)])
    obtain ⟨cq75, kq75, q75a, q75b, q75c⟩ := isOf hZ e74 E_u_MODULO
    obtain ⟨_, _, ⟨T75, L75, kc75, nc75⟩, -, X75, ⟨Lc75, hQ75, l75, y75, z75⟩, st75⟩ := X74.virtualBack hx (y := (⟨"com/example/moat/moat/xpath/Operation$Operator", "flipped", "()Lcom/example/moat/moat/xpath/Operation$Operator;"⟩ : MethodName)) (z := (⟨"com/example/moat/moat/xpath/Operation$Operator", "flipped", "()Lcom/example/moat/moat/xpath/Operation$Operator;"⟩ : MethodName)) hown (mvT hZ (hw _ (List.mem_of_getElem? (i := 8) rfl))) (mvT hZ (hw _ (List.mem_of_getElem? (i := 9) rfl))) (notFace_of_selects (args := #[]) (mvT hZ (hw _ (List.mem_of_getElem? (i := 11) rfl)))) (mvT hZ (hw _ (List.mem_of_getElem? (i := 11) rfl))) (mvT hZ (hw _ (List.mem_of_getElem? (i := 10) rfl))) (by decide) (backOf (W := 0) (rmF12 l Z a0 hw [] u_MODULO u_LESS u_LESS_OR_EQUAL u_GREATER u_GREATER_OR_EQUAL h0 n0 Z0 S_LESS S_LESS_OR_EQUAL S_GREATER S_GREATER_OR_EQUAL ne_u_LESS_u_MODULO ne_u_LESS_OR_EQUAL_u_MODULO ne_u_GREATER_u_MODULO ne_u_GREATER_OR_EQUAL_u_MODULO) hZ (hw _ (List.mem_of_getElem? (i := 12) rfl)) (hw _ (List.mem_of_getElem? (i := 6) rfl)) (by decide) (by decide)) q75a q75c (g := (mkF m 18 #[.val (.int k), .val (.long a), .second, .val (.long b), .second, .val (.int (12 : Int32)), .val (.ref u_MODULO), .unset, .unset] [(.ref u_MODULO)])) rfl (by rw [hml]; rfl) (Steps.refl _) (argsL := []) (rest := []) (lenOf pd_1 rfl) rfl (by show 2 * 0 + _ ≤ _; exact Nat.le_of_eq rfl) (hb hby at_18) (fun _ _ => ⟨rfl, e74, (by decide : 0 + 0 ≤ _), (by decide : 0 + 0 ≤ _)⟩)
    dsimp only [Pt.U, Pt.locs, Pt.cells, Pt.slots] at X75 l75 y75 z75 st75 hQ75
    subst l75 y75 z75
    obtain ⟨h75, e75⟩ : ∃ hh, T75.heap = hh := ⟨_, rfl⟩
    rw [e75] at hQ75
    obtain ⟨rfl, N75q, sm75⟩ := hQ75
    have N75 := Fr.app N74 N75q
    refine Go.st (fun _ kk => st75.trans kk) ?_
    rw [sm75] at e75
    show Go p e below s _ _ _ T75 (mkF m 21 #[.val (.int k), .val (.long a), .second, .val (.long b), .second, .val (.int (12 : Int32)), .val (.ref u_MODULO), .unset, .unset] [(.ref u_MODULO)])
    refine Go.st (fun _ => XS.astore X75.here hx rfl (hb hby at_21) rfl rfl (l' := #[.val (.int k), .val (.long a), .second, .val (.long b), .second, .val (.int (12 : Int32)), .val (.ref u_MODULO), .val (.ref u_MODULO), .unset]) rfl) ?_
    show Go p e below s _ _ _ T75 (mkF m 23 #[.val (.int k), .val (.long a), .second, .val (.long b), .second, .val (.int (12 : Int32)), .val (.ref u_MODULO), .val (.ref u_MODULO), .unset] [])
    refine Go.st (fun _ => XS.aload X75.here hx rfl (hb hby at_23) rfl rfl) ?_
    show Go p e below s _ _ _ T75 (mkF m 25 #[.val (.int k), .val (.long a), .second, .val (.long b), .second, .val (.int (12 : Int32)), .val (.ref u_MODULO), .val (.ref u_MODULO), .unset] [(.ref u_MODULO)])
    obtain ⟨_, _, ⟨T76, L76, kc76, nc76⟩, -, X76, ⟨Lc76, hQ76, l76, y76, z76⟩, st76⟩ := Jvm.LawKit.callS X75 hx (y := (⟨"com/example/moat/moat/xpath/OperatorFlippedPinLaw", "index", "(Lcom/example/moat/moat/xpath/Operation$Operator;)I"⟩ : MethodName)) hown (mvT hZ (hw _ (List.mem_of_getElem? (i := 21) rfl))) (mvT hZ (hw _ (List.mem_of_getElem? (i := 22) rfl))) (mvT hZ (hw _ (List.mem_of_getElem? (i := 3) rfl))) (mvT hZ (hw _ (List.mem_of_getElem? (i := 23) rfl))) (by decide) (backOf (W := 0) (rmX12 l Z a0 hw [] u_MODULO u_OR u_AND u_EQUAL u_NOT_EQUAL u_LESS u_LESS_OR_EQUAL u_GREATER u_GREATER_OR_EQUAL u_PLUS u_MINUS u_MULTIPLY u_DIVIDE h0 n0 Z0 S_OR S_AND S_EQUAL S_NOT_EQUAL S_LESS S_LESS_OR_EQUAL S_GREATER S_GREATER_OR_EQUAL S_PLUS S_MINUS S_MULTIPLY S_DIVIDE S_MODULO ne_u_OR_u_MODULO ne_u_AND_u_MODULO ne_u_EQUAL_u_MODULO ne_u_NOT_EQUAL_u_MODULO ne_u_LESS_u_MODULO ne_u_LESS_OR_EQUAL_u_MODULO ne_u_GREATER_u_MODULO ne_u_GREATER_OR_EQUAL_u_MODULO ne_u_PLUS_u_MODULO ne_u_MINUS_u_MODULO ne_u_MULTIPLY_u_MODULO ne_u_DIVIDE_u_MODULO) hZ (hw _ (List.mem_of_getElem? (i := 23) rfl)) (hw _ (List.mem_of_getElem? (i := 3) rfl)) (by decide) (by decide)) (g := (mkF m 25 #[.val (.int k), .val (.long a), .second, .val (.long b), .second, .val (.int (12 : Int32)), .val (.ref u_MODULO), .val (.ref u_MODULO), .unset] [(.ref u_MODULO)])) rfl (by rw [hml]; rfl) (argsL := [(.ref u_MODULO)]) (rest := []) (lenOf pd_2 rfl) rfl (by show 2 * 0 + _ ≤ _; exact Nat.le_of_eq rfl) (hb hby at_25) (fun _ _ => ⟨rfl, e75, (by decide : 0 + 0 ≤ _), (by decide : 0 + 0 ≤ _)⟩)
    dsimp only [Pt.U, Pt.locs, Pt.cells, Pt.slots] at X76 l76 y76 z76 st76 hQ76
    subst l76 y76 z76
    obtain ⟨h76, e76⟩ : ∃ hh, T76.heap = hh := ⟨_, rfl⟩
    rw [e76] at hQ76
    obtain ⟨rfl, N76q, sm76⟩ := hQ76
    have N76 := Fr.app N75 N76q
    refine Go.st st76 ?_
    rw [sm76] at e76
    show Go p e below s _ _ _ T76 (mkF m 28 #[.val (.int k), .val (.long a), .second, .val (.long b), .second, .val (.int (12 : Int32)), .val (.ref u_MODULO), .val (.ref u_MODULO), .unset] [(.int (12 : Int32))])
    refine Go.st (fun _ => XS.istore X76.here hx rfl (hb hby at_28) rfl (l' := #[.val (.int k), .val (.long a), .second, .val (.long b), .second, .val (.int (12 : Int32)), .val (.ref u_MODULO), .val (.ref u_MODULO), .val (.int (12 : Int32))]) rfl) ?_
    show Go p e below s _ _ _ T76 (mkF m 30 #[.val (.int k), .val (.long a), .second, .val (.long b), .second, .val (.int (12 : Int32)), .val (.ref u_MODULO), .val (.ref u_MODULO), .val (.int (12 : Int32))] [])
    refine Go.st (fun _ => XS.iload X76.here hx rfl (hb hby at_30) rfl) ?_
    show Go p e below s _ _ _ T76 (mkF m 32 #[.val (.int k), .val (.long a), .second, .val (.long b), .second, .val (.int (12 : Int32)), .val (.ref u_MODULO), .val (.ref u_MODULO), .val (.int (12 : Int32))] [(.int (12 : Int32))])
    refine Go.st (fun _ => XS.iconst X76.here hx rfl (hb hby at_32)) ?_
    show Go p e below s _ _ _ T76 (mkF m 33 #[.val (.int k), .val (.long a), .second, .val (.long b), .second, .val (.int (12 : Int32)), .val (.ref u_MODULO), .val (.ref u_MODULO), .val (.int (12 : Int32))] [(.int (2 : Int32)), (.int (12 : Int32))])
    refine Go.st (fun _ => XS.icmpNo X76.here hx rfl (hb hby at_33) rfl (flt (by decide : ¬ ((12 : Int32) < (2 : Int32)))).1) ?_
    show Go p e below s _ _ _ T76 (mkF m 36 #[.val (.int k), .val (.long a), .second, .val (.long b), .second, .val (.int (12 : Int32)), .val (.ref u_MODULO), .val (.ref u_MODULO), .val (.int (12 : Int32))] [])
    refine Go.st (fun _ => XS.iload X76.here hx rfl (hb hby at_36) rfl) ?_
    show Go p e below s _ _ _ T76 (mkF m 38 #[.val (.int k), .val (.long a), .second, .val (.long b), .second, .val (.int (12 : Int32)), .val (.ref u_MODULO), .val (.ref u_MODULO), .val (.int (12 : Int32))] [(.int (12 : Int32))])
    refine Go.st (fun _ => XS.bipush X76.here hx rfl (hb hby at_38)) ?_
    show Go p e below s _ _ _ T76 (mkF m 40 #[.val (.int k), .val (.long a), .second, .val (.long b), .second, .val (.int (12 : Int32)), .val (.ref u_MODULO), .val (.ref u_MODULO), .val (.int (12 : Int32))] [(.int (7 : Int32)), (.int (12 : Int32))])
    refine Go.st (fun _ => XS.icmpYes X76.here hx rfl (pc0 := 40) (pc' := 89) rfl (hb hby at_40) rfl (tlt (by decide : (7 : Int32) < (12 : Int32))).2.2.1 (by decide) (by decide)) ?_
    show Go p e below s _ _ _ T76 (mkF m 89 #[.val (.int k), .val (.long a), .second, .val (.long b), .second, .val (.int (12 : Int32)), .val (.ref u_MODULO), .val (.ref u_MODULO), .val (.int (12 : Int32))] [])
    refine Go.st (fun _ => XS.aload X76.here hx rfl (hb hby at_89) rfl rfl) ?_
    show Go p e below s _ _ _ T76 (mkF m 91 #[.val (.int k), .val (.long a), .second, .val (.long b), .second, .val (.int (12 : Int32)), .val (.ref u_MODULO), .val (.ref u_MODULO), .val (.int (12 : Int32))] [(.ref u_MODULO)])
    refine Go.st (fun _ => XS.aload X76.here hx rfl (hb hby at_91) rfl rfl) ?_
    show Go p e below s _ _ _ T76 (mkF m 93 #[.val (.int k), .val (.long a), .second, .val (.long b), .second, .val (.int (12 : Int32)), .val (.ref u_MODULO), .val (.ref u_MODULO), .val (.int (12 : Int32))] [(.ref u_MODULO), (.ref u_MODULO)])
    refine Go.st (fun _ => Jvm.RoadKit.acmp (g := (mkF m 93 #[.val (.int k), .val (.long a), .second, .val (.long b), .second, .val (.int (12 : Int32)), .val (.ref u_MODULO), .val (.ref u_MODULO), .val (.int (12 : Int32))] [(.ref u_MODULO), (.ref u_MODULO)])) X76 hx rfl rfl rfl (pc0 := 93) (pc' := 96) (same := true) rfl (hb hby at_93) rfl (decide_eq_true rfl) (by decide) (by decide)) ?_
    show Go p e below s _ _ _ T76 (mkF m 96 #[.val (.int k), .val (.long a), .second, .val (.long b), .second, .val (.int (12 : Int32)), .val (.ref u_MODULO), .val (.ref u_MODULO), .val (.int (12 : Int32))] [])
    refine Go.st (fun _ => XS.iconst X76.here hx rfl (hb hby at_96)) ?_
    show Go p e below s _ _ _ T76 (mkF m 97 #[.val (.int k), .val (.long a), .second, .val (.long b), .second, .val (.int (12 : Int32)), .val (.ref u_MODULO), .val (.ref u_MODULO), .val (.int (12 : Int32))] [(.int (1 : Int32))])
    refine Go.st (fun _ => XS.goto X76.here hx rfl (pc0 := 97) (pc' := 101) rfl (hb hby at_97) (by decide) (by decide)) ?_
    show Go p e below s _ _ _ T76 (mkF m 101 #[.val (.int k), .val (.long a), .second, .val (.long b), .second, .val (.int (12 : Int32)), .val (.ref u_MODULO), .val (.ref u_MODULO), .val (.int (12 : Int32))] [(.int (1 : Int32))])
    exact Go.retZ X76 hx hlk Bd.returns (hb hby at_101) rfl (by rw [e76]; exact ⟨rfl, N76⟩) (by decide) (by decide)
  · rw [show ((k &&& (2147483647 : Int32)) % (14 : Int32)) = (13 : Int32) from hd1]
    show Go p e below s _ _ _ s₁ (mkF m 7 #[.val (.int k), .val (.long a), .second, .val (.long b), .second, .unset, .unset, .unset, .unset] [(.int (13 : Int32))])
    refine Go.st (fun _ => XS.istore X0.here hx rfl (hb hby at_7) rfl (l' := #[.val (.int k), .val (.long a), .second, .val (.long b), .second, .val (.int (13 : Int32)), .unset, .unset, .unset]) rfl) ?_
    show Go p e below s _ _ _ s₁ (mkF m 9 #[.val (.int k), .val (.long a), .second, .val (.long b), .second, .val (.int (13 : Int32)), .unset, .unset, .unset] [])
    refine Go.st (fun _ => XS.iload X0.here hx rfl (hb hby at_9) rfl) ?_
    show Go p e below s _ _ _ s₁ (mkF m 11 #[.val (.int k), .val (.long a), .second, .val (.long b), .second, .val (.int (13 : Int32)), .unset, .unset, .unset] [(.int (13 : Int32))])
    obtain ⟨_, _, ⟨T77, L77, kc77, nc77⟩, -, X77, ⟨Lc77, hQ77, l77, y77, z77⟩, st77⟩ := Jvm.LawKit.callS X0 hx (y := (⟨"com/example/moat/moat/xpath/OperatorFlippedPinLaw", "pick", "(I)Lcom/example/moat/moat/xpath/Operation$Operator;"⟩ : MethodName)) hown (mvT hZ (hw _ (List.mem_of_getElem? (i := 1) rfl))) (mvT hZ (hw _ (List.mem_of_getElem? (i := 2) rfl))) (mvT hZ (hw _ (List.mem_of_getElem? (i := 3) rfl))) (mvT hZ (hw _ (List.mem_of_getElem? (i := 4) rfl))) (by decide) (backOf (W := 0) (rmP13 l Z a0 hw [] u_NEGATE h0 n0 Z0 S_NEGATE) hZ (hw _ (List.mem_of_getElem? (i := 4) rfl)) (hw _ (List.mem_of_getElem? (i := 3) rfl)) (by decide) (by decide)) (g := (mkF m 11 #[.val (.int k), .val (.long a), .second, .val (.long b), .second, .val (.int (13 : Int32)), .unset, .unset, .unset] [(.int (13 : Int32))])) rfl (by rw [hml]; rfl) (argsL := [(.int (13 : Int32))]) (rest := []) (lenOf pd_0 rfl) rfl (by show 2 * 0 + _ ≤ _; exact Nat.le_of_eq rfl) (hb hby at_11) (fun _ _ => ⟨rfl, e0, (by decide : 0 + 0 ≤ _), (by decide : 0 + 0 ≤ _)⟩)
    dsimp only [Pt.U, Pt.locs, Pt.cells, Pt.slots] at X77 l77 y77 z77 st77 hQ77
    subst l77 y77 z77
    obtain ⟨h77, e77⟩ : ∃ hh, T77.heap = hh := ⟨_, rfl⟩
    rw [e77] at hQ77
    obtain ⟨rfl, N77q, sm77⟩ := hQ77
    have N77 := Fr.app N0 N77q
    refine Go.st st77 ?_
    rw [sm77] at e77
    show Go p e below s _ _ _ T77 (mkF m 14 #[.val (.int k), .val (.long a), .second, .val (.long b), .second, .val (.int (13 : Int32)), .unset, .unset, .unset] [(.ref u_NEGATE)])
    refine Go.st (fun _ => XS.astore X77.here hx rfl (hb hby at_14) rfl rfl (l' := #[.val (.int k), .val (.long a), .second, .val (.long b), .second, .val (.int (13 : Int32)), .val (.ref u_NEGATE), .unset, .unset]) rfl) ?_
    show Go p e below s _ _ _ T77 (mkF m 16 #[.val (.int k), .val (.long a), .second, .val (.long b), .second, .val (.int (13 : Int32)), .val (.ref u_NEGATE), .unset, .unset] [])
    refine Go.st (fun _ => XS.aload X77.here hx rfl (hb hby at_16) rfl rfl) ?_
    show Go p e below s _ _ _ T77 (mkF m 18 #[.val (.int k), .val (.long a), .second, .val (.long b), .second, .val (.int (13 : Int32)), .val (.ref u_NEGATE), .unset, .unset] [(.ref u_NEGATE)])
    obtain ⟨cq78, kq78, q78a, q78b, q78c⟩ := isOf hZ e77 E_u_NEGATE
    obtain ⟨_, _, ⟨T78, L78, kc78, nc78⟩, -, X78, ⟨Lc78, hQ78, l78, y78, z78⟩, st78⟩ := X77.virtualBack hx (y := (⟨"com/example/moat/moat/xpath/Operation$Operator", "flipped", "()Lcom/example/moat/moat/xpath/Operation$Operator;"⟩ : MethodName)) (z := (⟨"com/example/moat/moat/xpath/Operation$Operator", "flipped", "()Lcom/example/moat/moat/xpath/Operation$Operator;"⟩ : MethodName)) hown (mvT hZ (hw _ (List.mem_of_getElem? (i := 8) rfl))) (mvT hZ (hw _ (List.mem_of_getElem? (i := 9) rfl))) (notFace_of_selects (args := #[]) (mvT hZ (hw _ (List.mem_of_getElem? (i := 11) rfl)))) (mvT hZ (hw _ (List.mem_of_getElem? (i := 11) rfl))) (mvT hZ (hw _ (List.mem_of_getElem? (i := 10) rfl))) (by decide) (backOf (W := 0) (rmF13 l Z a0 hw [] u_NEGATE u_LESS u_LESS_OR_EQUAL u_GREATER u_GREATER_OR_EQUAL h0 n0 Z0 S_LESS S_LESS_OR_EQUAL S_GREATER S_GREATER_OR_EQUAL ne_u_LESS_u_NEGATE ne_u_LESS_OR_EQUAL_u_NEGATE ne_u_GREATER_u_NEGATE ne_u_GREATER_OR_EQUAL_u_NEGATE) hZ (hw _ (List.mem_of_getElem? (i := 12) rfl)) (hw _ (List.mem_of_getElem? (i := 6) rfl)) (by decide) (by decide)) q78a q78c (g := (mkF m 18 #[.val (.int k), .val (.long a), .second, .val (.long b), .second, .val (.int (13 : Int32)), .val (.ref u_NEGATE), .unset, .unset] [(.ref u_NEGATE)])) rfl (by rw [hml]; rfl) (Steps.refl _) (argsL := []) (rest := []) (lenOf pd_1 rfl) rfl (by show 2 * 0 + _ ≤ _; exact Nat.le_of_eq rfl) (hb hby at_18) (fun _ _ => ⟨rfl, e77, (by decide : 0 + 0 ≤ _), (by decide : 0 + 0 ≤ _)⟩)
    dsimp only [Pt.U, Pt.locs, Pt.cells, Pt.slots] at X78 l78 y78 z78 st78 hQ78
    subst l78 y78 z78
    obtain ⟨h78, e78⟩ : ∃ hh, T78.heap = hh := ⟨_, rfl⟩
    rw [e78] at hQ78
    obtain ⟨rfl, N78q, sm78⟩ := hQ78
    have N78 := Fr.app N77 N78q
    refine Go.st (fun _ kk => st78.trans kk) ?_
    rw [sm78] at e78
    show Go p e below s _ _ _ T78 (mkF m 21 #[.val (.int k), .val (.long a), .second, .val (.long b), .second, .val (.int (13 : Int32)), .val (.ref u_NEGATE), .unset, .unset] [(.ref u_NEGATE)])
    refine Go.st (fun _ => XS.astore X78.here hx rfl (hb hby at_21) rfl rfl (l' := #[.val (.int k), .val (.long a), .second, .val (.long b), .second, .val (.int (13 : Int32)), .val (.ref u_NEGATE), .val (.ref u_NEGATE), .unset]) rfl) ?_
    show Go p e below s _ _ _ T78 (mkF m 23 #[.val (.int k), .val (.long a), .second, .val (.long b), .second, .val (.int (13 : Int32)), .val (.ref u_NEGATE), .val (.ref u_NEGATE), .unset] [])
    refine Go.st (fun _ => XS.aload X78.here hx rfl (hb hby at_23) rfl rfl) ?_
    show Go p e below s _ _ _ T78 (mkF m 25 #[.val (.int k), .val (.long a), .second, .val (.long b), .second, .val (.int (13 : Int32)), .val (.ref u_NEGATE), .val (.ref u_NEGATE), .unset] [(.ref u_NEGATE)])
    obtain ⟨_, _, ⟨T79, L79, kc79, nc79⟩, -, X79, ⟨Lc79, hQ79, l79, y79, z79⟩, st79⟩ := Jvm.LawKit.callS X78 hx (y := (⟨"com/example/moat/moat/xpath/OperatorFlippedPinLaw", "index", "(Lcom/example/moat/moat/xpath/Operation$Operator;)I"⟩ : MethodName)) hown (mvT hZ (hw _ (List.mem_of_getElem? (i := 21) rfl))) (mvT hZ (hw _ (List.mem_of_getElem? (i := 22) rfl))) (mvT hZ (hw _ (List.mem_of_getElem? (i := 3) rfl))) (mvT hZ (hw _ (List.mem_of_getElem? (i := 23) rfl))) (by decide) (backOf (W := 0) (rmX13 l Z a0 hw [] u_NEGATE u_OR u_AND u_EQUAL u_NOT_EQUAL u_LESS u_LESS_OR_EQUAL u_GREATER u_GREATER_OR_EQUAL u_PLUS u_MINUS u_MULTIPLY u_DIVIDE u_MODULO h0 n0 Z0 S_OR S_AND S_EQUAL S_NOT_EQUAL S_LESS S_LESS_OR_EQUAL S_GREATER S_GREATER_OR_EQUAL S_PLUS S_MINUS S_MULTIPLY S_DIVIDE S_MODULO S_NEGATE ne_u_OR_u_NEGATE ne_u_AND_u_NEGATE ne_u_EQUAL_u_NEGATE ne_u_NOT_EQUAL_u_NEGATE ne_u_LESS_u_NEGATE ne_u_LESS_OR_EQUAL_u_NEGATE ne_u_GREATER_u_NEGATE ne_u_GREATER_OR_EQUAL_u_NEGATE ne_u_PLUS_u_NEGATE ne_u_MINUS_u_NEGATE ne_u_MULTIPLY_u_NEGATE ne_u_DIVIDE_u_NEGATE ne_u_MODULO_u_NEGATE) hZ (hw _ (List.mem_of_getElem? (i := 23) rfl)) (hw _ (List.mem_of_getElem? (i := 3) rfl)) (by decide) (by decide)) (g := (mkF m 25 #[.val (.int k), .val (.long a), .second, .val (.long b), .second, .val (.int (13 : Int32)), .val (.ref u_NEGATE), .val (.ref u_NEGATE), .unset] [(.ref u_NEGATE)])) rfl (by rw [hml]; rfl) (argsL := [(.ref u_NEGATE)]) (rest := []) (lenOf pd_2 rfl) rfl (by show 2 * 0 + _ ≤ _; exact Nat.le_of_eq rfl) (hb hby at_25) (fun _ _ => ⟨rfl, e78, (by decide : 0 + 0 ≤ _), (by decide : 0 + 0 ≤ _)⟩)
    dsimp only [Pt.U, Pt.locs, Pt.cells, Pt.slots] at X79 l79 y79 z79 st79 hQ79
    subst l79 y79 z79
    obtain ⟨h79, e79⟩ : ∃ hh, T79.heap = hh := ⟨_, rfl⟩
    rw [e79] at hQ79
    obtain ⟨rfl, N79q, sm79⟩ := hQ79
    have N79 := Fr.app N78 N79q
    refine Go.st st79 ?_
    rw [sm79] at e79
    show Go p e below s _ _ _ T79 (mkF m 28 #[.val (.int k), .val (.long a), .second, .val (.long b), .second, .val (.int (13 : Int32)), .val (.ref u_NEGATE), .val (.ref u_NEGATE), .unset] [(.int (13 : Int32))])
    refine Go.st (fun _ => XS.istore X79.here hx rfl (hb hby at_28) rfl (l' := #[.val (.int k), .val (.long a), .second, .val (.long b), .second, .val (.int (13 : Int32)), .val (.ref u_NEGATE), .val (.ref u_NEGATE), .val (.int (13 : Int32))]) rfl) ?_
    show Go p e below s _ _ _ T79 (mkF m 30 #[.val (.int k), .val (.long a), .second, .val (.long b), .second, .val (.int (13 : Int32)), .val (.ref u_NEGATE), .val (.ref u_NEGATE), .val (.int (13 : Int32))] [])
    refine Go.st (fun _ => XS.iload X79.here hx rfl (hb hby at_30) rfl) ?_
    show Go p e below s _ _ _ T79 (mkF m 32 #[.val (.int k), .val (.long a), .second, .val (.long b), .second, .val (.int (13 : Int32)), .val (.ref u_NEGATE), .val (.ref u_NEGATE), .val (.int (13 : Int32))] [(.int (13 : Int32))])
    refine Go.st (fun _ => XS.iconst X79.here hx rfl (hb hby at_32)) ?_
    show Go p e below s _ _ _ T79 (mkF m 33 #[.val (.int k), .val (.long a), .second, .val (.long b), .second, .val (.int (13 : Int32)), .val (.ref u_NEGATE), .val (.ref u_NEGATE), .val (.int (13 : Int32))] [(.int (2 : Int32)), (.int (13 : Int32))])
    refine Go.st (fun _ => XS.icmpNo X79.here hx rfl (hb hby at_33) rfl (flt (by decide : ¬ ((13 : Int32) < (2 : Int32)))).1) ?_
    show Go p e below s _ _ _ T79 (mkF m 36 #[.val (.int k), .val (.long a), .second, .val (.long b), .second, .val (.int (13 : Int32)), .val (.ref u_NEGATE), .val (.ref u_NEGATE), .val (.int (13 : Int32))] [])
    refine Go.st (fun _ => XS.iload X79.here hx rfl (hb hby at_36) rfl) ?_
    show Go p e below s _ _ _ T79 (mkF m 38 #[.val (.int k), .val (.long a), .second, .val (.long b), .second, .val (.int (13 : Int32)), .val (.ref u_NEGATE), .val (.ref u_NEGATE), .val (.int (13 : Int32))] [(.int (13 : Int32))])
    refine Go.st (fun _ => XS.bipush X79.here hx rfl (hb hby at_38)) ?_
    show Go p e below s _ _ _ T79 (mkF m 40 #[.val (.int k), .val (.long a), .second, .val (.long b), .second, .val (.int (13 : Int32)), .val (.ref u_NEGATE), .val (.ref u_NEGATE), .val (.int (13 : Int32))] [(.int (7 : Int32)), (.int (13 : Int32))])
    refine Go.st (fun _ => XS.icmpYes X79.here hx rfl (pc0 := 40) (pc' := 89) rfl (hb hby at_40) rfl (tlt (by decide : (7 : Int32) < (13 : Int32))).2.2.1 (by decide) (by decide)) ?_
    show Go p e below s _ _ _ T79 (mkF m 89 #[.val (.int k), .val (.long a), .second, .val (.long b), .second, .val (.int (13 : Int32)), .val (.ref u_NEGATE), .val (.ref u_NEGATE), .val (.int (13 : Int32))] [])
    refine Go.st (fun _ => XS.aload X79.here hx rfl (hb hby at_89) rfl rfl) ?_
    show Go p e below s _ _ _ T79 (mkF m 91 #[.val (.int k), .val (.long a), .second, .val (.long b), .second, .val (.int (13 : Int32)), .val (.ref u_NEGATE), .val (.ref u_NEGATE), .val (.int (13 : Int32))] [(.ref u_NEGATE)])
    refine Go.st (fun _ => XS.aload X79.here hx rfl (hb hby at_91) rfl rfl) ?_
    show Go p e below s _ _ _ T79 (mkF m 93 #[.val (.int k), .val (.long a), .second, .val (.long b), .second, .val (.int (13 : Int32)), .val (.ref u_NEGATE), .val (.ref u_NEGATE), .val (.int (13 : Int32))] [(.ref u_NEGATE), (.ref u_NEGATE)])
    refine Go.st (fun _ => Jvm.RoadKit.acmp (g := (mkF m 93 #[.val (.int k), .val (.long a), .second, .val (.long b), .second, .val (.int (13 : Int32)), .val (.ref u_NEGATE), .val (.ref u_NEGATE), .val (.int (13 : Int32))] [(.ref u_NEGATE), (.ref u_NEGATE)])) X79 hx rfl rfl rfl (pc0 := 93) (pc' := 96) (same := true) rfl (hb hby at_93) rfl (decide_eq_true rfl) (by decide) (by decide)) ?_
    show Go p e below s _ _ _ T79 (mkF m 96 #[.val (.int k), .val (.long a), .second, .val (.long b), .second, .val (.int (13 : Int32)), .val (.ref u_NEGATE), .val (.ref u_NEGATE), .val (.int (13 : Int32))] [])
    refine Go.st (fun _ => XS.iconst X79.here hx rfl (hb hby at_96)) ?_
    show Go p e below s _ _ _ T79 (mkF m 97 #[.val (.int k), .val (.long a), .second, .val (.long b), .second, .val (.int (13 : Int32)), .val (.ref u_NEGATE), .val (.ref u_NEGATE), .val (.int (13 : Int32))] [(.int (1 : Int32))])
    refine Go.st (fun _ => XS.goto X79.here hx rfl (pc0 := 97) (pc' := 101) rfl (hb hby at_97) (by decide) (by decide)) ?_
    show Go p e below s _ _ _ T79 (mkF m 101 #[.val (.int k), .val (.long a), .second, .val (.long b), .second, .val (.int (13 : Int32)), .val (.ref u_NEGATE), .val (.ref u_NEGATE), .val (.int (13 : Int32))] [(.int (1 : Int32))])
    exact Go.retZ X79 hx hlk Bd.returns (hb hby at_101) rfl (by rw [e79]; exact ⟨rfl, N79⟩) (by decide) (by decide)
set_option maxRecDepth 65536 in
set_option maxHeartbeats 40000000 in
theorem comes_1 {Post : Tables → Env → Array Value → State → Outcome → State → Prop} (hpost : ∀ tb e args s v u, (limb_1_1.after args s (.returned v) u = true ∧ limb_1_2.after args s (.returned v) u = true ∧ True) → FrameEnd s (.returned v) u (Jvm.fieldLocs frame_1_writes args s ++ Jvm.arrayLocs frame_1_arrays args s ++ Jvm.staticLocs frame_1_statics s) 0 0 → Post tb e args s (.returned v) u) :
    ArmFor flags0 classFile x code maxLocals ret World_1 tables_1 room_1 Calls_1 rest_1 Pre_1 Post := by
  intro l hfl _ _ p e ha hc hk s m args below hf hA hF happ hP
  obtain ⟨hcalls, hrest, hpre⟩ := hP
  obtain ⟨-, -, -, hnamed, -, -, -, hat⟩ := (Spec.applies_iff hf).mp happ
  obtain ⟨hg, hn⟩ := and_e (Cond.before_iff.mp (show (Jvm.Cond.and given_1 narrow_1).before args s = true from hpre))
  obtain ⟨g1, g2⟩ := and_e hg
  obtain ⟨g3, g4⟩ := and_e g2
  obtain ⟨g5, g6⟩ := and_e g4
  obtain ⟨w0, w1, w2, rfl⟩ : ∃ w0 w1 w2 : Value, args = #[w0, w1, w2] := by
    have hs : args.size = 3 := by simpa [Cond.value, given_1] using g1
    obtain ⟨L⟩ := args
    match L, hs with
    | [w0, w1, w2], _ => exact ⟨w0, w1, w2, rfl⟩
  have hw := fun d (hd : d ∈ tables_1) => atoms_spec (ws := Jvm.Cond.code x code maxLocals ret :: tables_1) hat d (List.mem_cons_of_mem _ hd)
  have hfit : Fit s := fun {y c} hc i hi => by
    obtain ⟨ha, rfl⟩ := Array.getElem?_eq_some_iff.mp hc
    have q := List.all_eq_true.mp ((Array.all_eq_true_iff_forall_mem.mp hF) _ (Array.getElem_mem ha)) i (List.mem_range.mpr hi)
    simpa [Array.getElem?_eq_getElem hi] using q
  obtain ⟨i0, ei0⟩ := is_v g3
  obtain rfl : w0 = (.int i0) := Option.some.inj ei0
  obtain ⟨i1, ei1⟩ := isL_v g5
  obtain rfl : w1 = (.long i1) := Option.some.inj ei1
  obtain ⟨i2, ei2⟩ := isL_v g6
  obtain rfl : w2 = (.long i2) := Option.some.inj ei2
  obtain ⟨m1, m2⟩ := and_e hn
  obtain ⟨m3, m4⟩ := and_e m2
  obtain ⟨m5, m6⟩ := and_e m4
  obtain ⟨m7, m8⟩ := and_e m6
  obtain ⟨m9, m10⟩ := and_e m8
  obtain ⟨m11, m12⟩ := and_e m10
  obtain ⟨m13, m14⟩ := and_e m12
  obtain ⟨m15, m16⟩ := and_e m14
  obtain ⟨m17, m18⟩ := and_e m16
  obtain ⟨m19, m20⟩ := and_e m18
  obtain ⟨m21, m22⟩ := and_e m20
  obtain ⟨m23, m24⟩ := and_e m22
  obtain ⟨m25, m26⟩ := and_e m24
  obtain ⟨m27, m28⟩ := and_e m26
  obtain ⟨m29, m30⟩ := and_e m28
  obtain ⟨m31, m32⟩ := and_e m30
  obtain ⟨m33, m34⟩ := and_e m32
  obtain ⟨m35, m36⟩ := and_e m34
  obtain ⟨m37, m38⟩ := and_e m36
  obtain ⟨m39, m40⟩ := and_e m38
  obtain ⟨m41, m42⟩ := and_e m40
  obtain ⟨m43, m44⟩ := and_e m42
  obtain ⟨m45, m46⟩ := and_e m44
  obtain ⟨m47, m48⟩ := and_e m46
  obtain ⟨m49, m50⟩ := and_e m48
  obtain ⟨m51, m52⟩ := and_e m50
  obtain ⟨m53, m54⟩ := and_e m52
  obtain ⟨u_OR, ev_OR⟩ := exa_v m1
  have E_OR := Exa.start ev_OR m1
  have S_OR := Sta.start ev_OR (Or.inr ⟨(hw _ (List.mem_of_getElem? (i := 6) rfl)), (hw _ (List.mem_of_getElem? (i := 7) rfl))⟩)
  have F_OR := own_ord ev_OR m5
  obtain ⟨u_LESS, ev_LESS⟩ := exa_v m3
  have E_LESS := Exa.start ev_LESS m3
  have S_LESS := Sta.start ev_LESS (Or.inr ⟨(hw _ (List.mem_of_getElem? (i := 6) rfl)), (hw _ (List.mem_of_getElem? (i := 14) rfl))⟩)
  have F_LESS := own_ord ev_LESS m7
  obtain ⟨u_LESS_OR_EQUAL, ev_LESS_OR_EQUAL⟩ := exa_v m9
  have E_LESS_OR_EQUAL := Exa.start ev_LESS_OR_EQUAL m9
  have S_LESS_OR_EQUAL := Sta.start ev_LESS_OR_EQUAL (Or.inr ⟨(hw _ (List.mem_of_getElem? (i := 6) rfl)), (hw _ (List.mem_of_getElem? (i := 16) rfl))⟩)
  have F_LESS_OR_EQUAL := own_ord ev_LESS_OR_EQUAL m11
  obtain ⟨u_GREATER, ev_GREATER⟩ := exa_v m13
  have E_GREATER := Exa.start ev_GREATER m13
  have S_GREATER := Sta.start ev_GREATER (Or.inr ⟨(hw _ (List.mem_of_getElem? (i := 6) rfl)), (hw _ (List.mem_of_getElem? (i := 18) rfl))⟩)
  have F_GREATER := own_ord ev_GREATER m15
  obtain ⟨u_GREATER_OR_EQUAL, ev_GREATER_OR_EQUAL⟩ := exa_v m17
  have E_GREATER_OR_EQUAL := Exa.start ev_GREATER_OR_EQUAL m17
  have S_GREATER_OR_EQUAL := Sta.start ev_GREATER_OR_EQUAL (Or.inr ⟨(hw _ (List.mem_of_getElem? (i := 6) rfl)), (hw _ (List.mem_of_getElem? (i := 20) rfl))⟩)
  have F_GREATER_OR_EQUAL := own_ord ev_GREATER_OR_EQUAL m19
  obtain ⟨u_AND, ev_AND⟩ := exa_v m21
  have E_AND := Exa.start ev_AND m21
  have S_AND := Sta.start ev_AND (Or.inr ⟨(hw _ (List.mem_of_getElem? (i := 6) rfl)), (hw _ (List.mem_of_getElem? (i := 26) rfl))⟩)
  have F_AND := own_ord ev_AND m23
  obtain ⟨u_EQUAL, ev_EQUAL⟩ := exa_v m25
  have E_EQUAL := Exa.start ev_EQUAL m25
  have S_EQUAL := Sta.start ev_EQUAL (Or.inr ⟨(hw _ (List.mem_of_getElem? (i := 6) rfl)), (hw _ (List.mem_of_getElem? (i := 28) rfl))⟩)
  have F_EQUAL := own_ord ev_EQUAL m27
  obtain ⟨u_NOT_EQUAL, ev_NOT_EQUAL⟩ := exa_v m29
  have E_NOT_EQUAL := Exa.start ev_NOT_EQUAL m29
  have S_NOT_EQUAL := Sta.start ev_NOT_EQUAL (Or.inr ⟨(hw _ (List.mem_of_getElem? (i := 6) rfl)), (hw _ (List.mem_of_getElem? (i := 30) rfl))⟩)
  have F_NOT_EQUAL := own_ord ev_NOT_EQUAL m31
  obtain ⟨u_MULTIPLY, ev_MULTIPLY⟩ := exa_v m33
  have E_MULTIPLY := Exa.start ev_MULTIPLY m33
  have S_MULTIPLY := Sta.start ev_MULTIPLY (Or.inr ⟨(hw _ (List.mem_of_getElem? (i := 6) rfl)), (hw _ (List.mem_of_getElem? (i := 38) rfl))⟩)
  have F_MULTIPLY := own_ord ev_MULTIPLY m35
  obtain ⟨u_PLUS, ev_PLUS⟩ := exa_v m37
  have E_PLUS := Exa.start ev_PLUS m37
  have S_PLUS := Sta.start ev_PLUS (Or.inr ⟨(hw _ (List.mem_of_getElem? (i := 6) rfl)), (hw _ (List.mem_of_getElem? (i := 40) rfl))⟩)
  have F_PLUS := own_ord ev_PLUS m39
  obtain ⟨u_MINUS, ev_MINUS⟩ := exa_v m41
  have E_MINUS := Exa.start ev_MINUS m41
  have S_MINUS := Sta.start ev_MINUS (Or.inr ⟨(hw _ (List.mem_of_getElem? (i := 6) rfl)), (hw _ (List.mem_of_getElem? (i := 42) rfl))⟩)
  have F_MINUS := own_ord ev_MINUS m43
  obtain ⟨u_NEGATE, ev_NEGATE⟩ := exa_v m45
  have E_NEGATE := Exa.start ev_NEGATE m45
  have S_NEGATE := Sta.start ev_NEGATE (Or.inr ⟨(hw _ (List.mem_of_getElem? (i := 6) rfl)), (hw _ (List.mem_of_getElem? (i := 44) rfl))⟩)
  have F_NEGATE := own_ord ev_NEGATE m47
  obtain ⟨u_DIVIDE, ev_DIVIDE⟩ := exa_v m49
  have E_DIVIDE := Exa.start ev_DIVIDE m49
  have S_DIVIDE := Sta.start ev_DIVIDE (Or.inr ⟨(hw _ (List.mem_of_getElem? (i := 6) rfl)), (hw _ (List.mem_of_getElem? (i := 46) rfl))⟩)
  have F_DIVIDE := own_ord ev_DIVIDE m51
  obtain ⟨u_MODULO, ev_MODULO⟩ := exa_v m53
  have E_MODULO := Exa.start ev_MODULO m53
  have S_MODULO := Sta.start ev_MODULO (Or.inr ⟨(hw _ (List.mem_of_getElem? (i := 6) rfl)), (hw _ (List.mem_of_getElem? (i := 48) rfl))⟩)
  have F_MODULO := own_ord ev_MODULO m54
  obtain ⟨n, o, h1, h2, h3, _, L, rfl, ⟨rfl, N⟩, hq⟩ := rm0 l s _ hw tables_1 i0 i1 i2 u_OR u_AND u_EQUAL u_NOT_EQUAL u_LESS u_LESS_OR_EQUAL u_GREATER u_GREATER_OR_EQUAL u_PLUS u_MINUS u_MULTIPLY u_DIVIDE u_MODULO u_NEGATE s.heap s.heap.size (Nat.le_refl _) S_OR S_AND S_EQUAL S_NOT_EQUAL S_LESS S_LESS_OR_EQUAL S_GREATER S_GREATER_OR_EQUAL S_PLUS S_MINUS S_MULTIPLY S_DIVIDE S_MODULO S_NEGATE E_OR E_AND E_EQUAL E_NOT_EQUAL E_LESS E_LESS_OR_EQUAL E_GREATER E_GREATER_OR_EQUAL E_PLUS E_MINUS E_MULTIPLY E_DIVIDE E_MODULO E_NEGATE (F_OR.ne F_AND (by decide)) (F_OR.ne F_EQUAL (by decide)) (F_OR.ne F_NOT_EQUAL (by decide)) (F_OR.ne F_LESS (by decide)) (F_OR.ne F_LESS_OR_EQUAL (by decide)) (F_OR.ne F_GREATER (by decide)) (F_OR.ne F_GREATER_OR_EQUAL (by decide)) (F_OR.ne F_PLUS (by decide)) (F_OR.ne F_MINUS (by decide)) (F_OR.ne F_MULTIPLY (by decide)) (F_OR.ne F_DIVIDE (by decide)) (F_OR.ne F_MODULO (by decide)) (F_OR.ne F_NEGATE (by decide)) (F_AND.ne F_EQUAL (by decide)) (F_AND.ne F_NOT_EQUAL (by decide)) (F_AND.ne F_LESS (by decide)) (F_AND.ne F_LESS_OR_EQUAL (by decide)) (F_AND.ne F_GREATER (by decide)) (F_AND.ne F_GREATER_OR_EQUAL (by decide)) (F_AND.ne F_PLUS (by decide)) (F_AND.ne F_MINUS (by decide)) (F_AND.ne F_MULTIPLY (by decide)) (F_AND.ne F_DIVIDE (by decide)) (F_AND.ne F_MODULO (by decide)) (F_AND.ne F_NEGATE (by decide)) (F_EQUAL.ne F_NOT_EQUAL (by decide)) (F_EQUAL.ne F_LESS (by decide)) (F_EQUAL.ne F_LESS_OR_EQUAL (by decide)) (F_EQUAL.ne F_GREATER (by decide)) (F_EQUAL.ne F_GREATER_OR_EQUAL (by decide)) (F_EQUAL.ne F_PLUS (by decide)) (F_EQUAL.ne F_MINUS (by decide)) (F_EQUAL.ne F_MULTIPLY (by decide)) (F_EQUAL.ne F_DIVIDE (by decide)) (F_EQUAL.ne F_MODULO (by decide)) (F_EQUAL.ne F_NEGATE (by decide)) (F_NOT_EQUAL.ne F_LESS (by decide)) (F_NOT_EQUAL.ne F_LESS_OR_EQUAL (by decide)) (F_NOT_EQUAL.ne F_GREATER (by decide)) (F_NOT_EQUAL.ne F_GREATER_OR_EQUAL (by decide)) (F_NOT_EQUAL.ne F_PLUS (by decide)) (F_NOT_EQUAL.ne F_MINUS (by decide)) (F_NOT_EQUAL.ne F_MULTIPLY (by decide)) (F_NOT_EQUAL.ne F_DIVIDE (by decide)) (F_NOT_EQUAL.ne F_MODULO (by decide)) (F_NOT_EQUAL.ne F_NEGATE (by decide)) (F_LESS.ne F_LESS_OR_EQUAL (by decide)) (F_LESS.ne F_GREATER (by decide)) (F_LESS.ne F_GREATER_OR_EQUAL (by decide)) (F_LESS.ne F_PLUS (by decide)) (F_LESS.ne F_MINUS (by decide)) (F_LESS.ne F_MULTIPLY (by decide)) (F_LESS.ne F_DIVIDE (by decide)) (F_LESS.ne F_MODULO (by decide)) (F_LESS.ne F_NEGATE (by decide)) (F_LESS_OR_EQUAL.ne F_GREATER (by decide)) (F_LESS_OR_EQUAL.ne F_GREATER_OR_EQUAL (by decide)) (F_LESS_OR_EQUAL.ne F_PLUS (by decide)) (F_LESS_OR_EQUAL.ne F_MINUS (by decide)) (F_LESS_OR_EQUAL.ne F_MULTIPLY (by decide)) (F_LESS_OR_EQUAL.ne F_DIVIDE (by decide)) (F_LESS_OR_EQUAL.ne F_MODULO (by decide)) (F_LESS_OR_EQUAL.ne F_NEGATE (by decide)) (F_GREATER.ne F_GREATER_OR_EQUAL (by decide)) (F_GREATER.ne F_PLUS (by decide)) (F_GREATER.ne F_MINUS (by decide)) (F_GREATER.ne F_MULTIPLY (by decide)) (F_GREATER.ne F_DIVIDE (by decide)) (F_GREATER.ne F_MODULO (by decide)) (F_GREATER.ne F_NEGATE (by decide)) (F_GREATER_OR_EQUAL.ne F_PLUS (by decide)) (F_GREATER_OR_EQUAL.ne F_MINUS (by decide)) (F_GREATER_OR_EQUAL.ne F_MULTIPLY (by decide)) (F_GREATER_OR_EQUAL.ne F_DIVIDE (by decide)) (F_GREATER_OR_EQUAL.ne F_MODULO (by decide)) (F_GREATER_OR_EQUAL.ne F_NEGATE (by decide)) (F_PLUS.ne F_MINUS (by decide)) (F_PLUS.ne F_MULTIPLY (by decide)) (F_PLUS.ne F_DIVIDE (by decide)) (F_PLUS.ne F_MODULO (by decide)) (F_PLUS.ne F_NEGATE (by decide)) (F_MINUS.ne F_MULTIPLY (by decide)) (F_MINUS.ne F_DIVIDE (by decide)) (F_MINUS.ne F_MODULO (by decide)) (F_MINUS.ne F_NEGATE (by decide)) (F_MULTIPLY.ne F_DIVIDE (by decide)) (F_MULTIPLY.ne F_MODULO (by decide)) (F_MULTIPLY.ne F_NEGATE (by decide)) (F_DIVIDE.ne F_MODULO (by decide)) (F_DIVIDE.ne F_NEGATE (by decide)) (F_MODULO.ne F_NEGATE (by decide)) p e ha hc hk s m _ below hf ((Spec.applies_iff_loose hf).mp happ).1 ⟨rfl, State.Warmed39.refl s, rfl⟩ trivial
  refine ⟨n, _, h1, h2, h3, hpost _ _ _ _ _ _ ⟨Cond.after_iff.mpr rfl, Cond.after_iff.mpr (eq_i res_at (Term.int_eval (1)) rfl), trivial⟩ ⟨hq.1, hq.2.1, (hq.2.2.sift fun y hy => Or.inr (N y hy)).mono (by decide) (by decide)⟩⟩
theorem main_1_1 : Claimed_1_1 := comes_1 fun _ _ _ _ _ _ h hF => ⟨h.1, hF⟩
theorem main_1_2 : Claimed_1_2 := comes_1 fun _ _ _ _ _ _ h hF => ⟨h.2.1, hF⟩
end Jvm.Pilot.@@N@@
namespace Jvm.Pilot.@@N@@
open Jvm Jvm.ClassFile Sem Op Lib Jvm.Free Jvm.Stand Jvm.Pilot.@@N@@.Jvm.D
/-! MADE BY PROGRAM (witnessworld.py) out of the Statement's table words and the real class files: 12 classes; the members and pool entries that the words name. The judged class is class 1, her method 1. -/
namespace start1
open Jvm.ClassFile
def u (s : String) : CpInfo := .utf8 (stringToUtf16 s)
/-- a pool by its gaps: so many unusable entries, then the entry; so many at the end -/
def gap : Nat → List CpInfo → List CpInfo
  | 0, r => r
  | n + 1, r => .unusable :: gap n r
def poolList (es : List (Nat × CpInfo)) (last : Nat) : List CpInfo := es.foldr (fun e r => gap e.1 (e.2 :: r)) (gap last [])
def pool (es : List (Nat × CpInfo)) (last : Nat) : Array CpInfo := ⟨poolList es last⟩
def fileOf (pool : Array CpInfo) (this : Nat) (attrs : Array Attribute := #[]) (ms : Array MethodInfo := #[]) (fl : Nat := 33) (sup : Nat := 0) (ifs : Array Nat := #[]) (fds : Array FieldInfo := #[]) : ClassFile where
  minorVersion := 0
  majorVersion := 65
  constantPool := pool
  accessFlags := fl
  thisClass := this
  superClass := sup
  interfaces := ifs
  fields := fds
  methods := ms
  attributes := attrs
def plain (name : String) (sup : Option ClassId) : Class where
  name := name
  kind := .ordinary
  loader := none
  accessFlags := 33
  super := sup
  interfaces := #[]
  cf := none
  fields := #[]
  methods := #[]
  instanceTypes := #[]
  staticTypes := #[]
  resolved := #[]
  callSites := []
  init := .initialized
  statics := none
  mirror := none

def pool0 : Array CpInfo := pool [(5, u "<init>"), (0, u "()V"), (1, .class_ 10), (1, u "java/lang/Object")] 113

def k0m0 : Method := { name := "<init>", desc := "()V", sig := { parameters := [], returnType := none }, accessFlags := 1, code := none }
/-- java/lang/Object -/
def k0 : Class := { plain "java/lang/Object" none with
  accessFlags := 33
  interfaces := #[]
  cf := some (fileOf pool0 8 #[] #[{ accessFlags := 1, nameIndex := 5, descriptorIndex := 6, attributes := #[] }] 33 0 #[] #[])
  fields := #[]
  methods := #[k0m0]
  instanceTypes := #[]
  staticTypes := #[]
  resolved := Array.replicate 124 none
  statics := none }

def pool1 : Array CpInfo := pool [(2, .class_ 4), (1, u "java/lang/Object"), (0, u "<init>"), (0, u "()V"), (0, .integer 2147483647), (0, .methodref 9 10), (0, .class_ 11), (0, .nameAndType 12 13), (0, u "com/example/moat/moat/xpath/OperatorFlippedPinLaw"), (0, u "pick"), (0, u "(I)Lcom/example/moat/moat/xpath/Operation$Operator;"), (0, .methodref 15 16), (0, .class_ 17), (0, .nameAndType 18 19), (0, u "com/example/moat/moat/xpath/Operation$Operator"), (0, u "flipped"), (0, u "()Lcom/example/moat/moat/xpath/Operation$Operator;"), (0, .methodref 9 21), (0, .nameAndType 22 23), (0, u "index"), (0, u "(Lcom/example/moat/moat/xpath/Operation$Operator;)I"), (0, .methodref 9 25), (0, .nameAndType 26 27), (0, u "holds"), (0, u "(IJJ)Z"), (0, .fieldref 15 29), (0, .nameAndType 30 31), (0, u "OR"), (0, u "Lcom/example/moat/moat/xpath/Operation$Operator;"), (0, .fieldref 15 33), (0, .nameAndType 34 31), (0, u "AND"), (0, .fieldref 15 36), (0, .nameAndType 37 31), (0, u "EQUAL"), (0, .fieldref 15 39), (0, .nameAndType 40 31), (0, u "NOT_EQUAL"), (0, .fieldref 15 42), (0, .nameAndType 43 31), (0, u "LESS"), (0, .fieldref 15 45), (0, .nameAndType 46 31), (0, u "LESS_OR_EQUAL"), (0, .fieldref 15 48), (0, .nameAndType 49 31), (0, u "GREATER"), (0, .fieldref 15 51), (0, .nameAndType 52 31), (0, u "GREATER_OR_EQUAL"), (0, .fieldref 15 54), (0, .nameAndType 55 31), (0, u "PLUS"), (0, .fieldref 15 57), (0, .nameAndType 58 31), (0, u "MINUS"), (0, .fieldref 15 60), (0, .nameAndType 61 31), (0, u "MULTIPLY"), (0, .fieldref 15 63), (0, .nameAndType 64 31), (0, u "DIVIDE"), (0, .fieldref 15 66), (0, .nameAndType 67 31), (0, u "MODULO"), (0, .fieldref 15 69), (0, .nameAndType 70 31), (0, u "NEGATE"), (2, u "law")] 7

def k1m0 : Method := { name := "<init>", desc := "()V", sig := { parameters := [], returnType := none }, accessFlags := 1, code := none }
def k1c1 : Code := { maxStack := 6, maxLocals := 9, code := code, exceptionTable := #[], attributes := #[] }
def k1m1 : Method := { name := "law", desc := "(IJJ)Z", sig := { parameters := [.int, .long, .long], returnType := some .boolean }, accessFlags := 9, code := some k1c1 }
def k1c2 : Code := { maxStack := 2, maxLocals := 1, code := method_3_code, exceptionTable := #[], attributes := #[] }
def k1m2 : Method := { name := "pick", desc := "(I)Lcom/example/moat/moat/xpath/Operation$Operator;", sig := { parameters := [.int], returnType := some (.object "com/example/moat/moat/xpath/Operation$Operator") }, accessFlags := 10, code := some k1c2 }
def k1c3 : Code := { maxStack := 2, maxLocals := 1, code := method_4_code, exceptionTable := #[], attributes := #[] }
def k1m3 : Method := { name := "index", desc := "(Lcom/example/moat/moat/xpath/Operation$Operator;)I", sig := { parameters := [(.object "com/example/moat/moat/xpath/Operation$Operator")], returnType := some .int }, accessFlags := 10, code := some k1c3 }
def k1c4 : Code := { maxStack := 4, maxLocals := 5, code := method_5_code, exceptionTable := #[], attributes := #[] }
def k1m4 : Method := { name := "holds", desc := "(IJJ)Z", sig := { parameters := [.int, .long, .long], returnType := some .boolean }, accessFlags := 10, code := some k1c4 }
/-- com/example/moat/moat/xpath/OperatorFlippedPinLaw -/
def k1 : Class := { plain "com/example/moat/moat/xpath/OperatorFlippedPinLaw" (some 0) with
  accessFlags := 49
  interfaces := #[]
  cf := some (fileOf pool1 9 #[] #[{ accessFlags := 1, nameIndex := 5, descriptorIndex := 6, attributes := #[] }, { accessFlags := 9, nameIndex := 73, descriptorIndex := 27, attributes := #[] }, { accessFlags := 10, nameIndex := 12, descriptorIndex := 13, attributes := #[] }, { accessFlags := 10, nameIndex := 22, descriptorIndex := 23, attributes := #[] }, { accessFlags := 10, nameIndex := 26, descriptorIndex := 27, attributes := #[] }] 49 2 #[] #[])
  fields := #[]
  methods := #[k1m0, k1m1, k1m2, k1m3, k1m4]
  instanceTypes := #[]
  staticTypes := #[]
  resolved := Array.replicate 81 none
  statics := none }

def pool2 : Array CpInfo := pool [(1, .class_ 2), (0, u "java/lang/constant/Constable"), (0, .class_ 4), (0, u "java/lang/Object")] 6

/-- java/lang/constant/Constable -/
def k2 : Class := { plain "java/lang/constant/Constable" (some 0) with
  accessFlags := 1537
  interfaces := #[]
  cf := some (fileOf pool2 1 #[] #[] 1537 3 #[] #[])
  fields := #[]
  methods := #[]
  instanceTypes := #[]
  staticTypes := #[]
  resolved := Array.replicate 11 none
  statics := none }

def pool3 : Array CpInfo := pool [(1, .class_ 2), (0, u "java/lang/Comparable"), (0, .class_ 4), (0, u "java/lang/Object")] 7

/-- java/lang/Comparable -/
def k3 : Class := { plain "java/lang/Comparable" (some 0) with
  accessFlags := 1537
  interfaces := #[]
  cf := some (fileOf pool3 1 #[] #[] 1537 3 #[] #[])
  fields := #[]
  methods := #[]
  instanceTypes := #[]
  staticTypes := #[]
  resolved := Array.replicate 12 none
  statics := none }

def pool4 : Array CpInfo := pool [(1, .class_ 2), (0, u "java/io/Serializable"), (0, .class_ 4), (0, u "java/lang/Object")] 2

/-- java/io/Serializable -/
def k4 : Class := { plain "java/io/Serializable" (some 0) with
  accessFlags := 1537
  interfaces := #[]
  cf := some (fileOf pool4 1 #[] #[] 1537 3 #[] #[])
  fields := #[]
  methods := #[]
  instanceTypes := #[]
  staticTypes := #[]
  resolved := Array.replicate 7 none
  statics := none }

def pool5 : Array CpInfo := pool [(2, .class_ 4), (1, u "java/lang/Enum"), (0, u "name"), (0, u "Ljava/lang/String;"), (2, u "ordinal"), (0, u "I"), (1, .class_ 14), (1, u "java/lang/Object"), (4, u "hash"), (86, .class_ 108), (1, u "java/lang/Enum$EnumDesc"), (2, .class_ 112), (0, u "java/lang/constant/Constable"), (0, .class_ 114), (0, u "java/lang/Comparable"), (0, .class_ 116), (0, u "java/io/Serializable")] 87

/-- java/lang/Enum -/
def k5 : Class := { plain "java/lang/Enum" (some 0) with
  accessFlags := 1057
  interfaces := #[2, 3, 4]
  cf := some (fileOf pool5 2 #[.nestMembers #[106]] #[] 1057 12 #[111, 113, 115] #[{ accessFlags := 18, nameIndex := 5, descriptorIndex := 6, attributes := #[] }, { accessFlags := 18, nameIndex := 9, descriptorIndex := 10, attributes := #[] }, { accessFlags := 2, nameIndex := 19, descriptorIndex := 10, attributes := #[] }])
  fields := #[{ name := "name", type := (.object "java/lang/String"), accessFlags := 18, slot := 0, constantValue := 0 }, { name := "ordinal", type := .int, accessFlags := 18, slot := 1, constantValue := 0 }, { name := "hash", type := .int, accessFlags := 2, slot := 2, constantValue := 0 }]
  methods := #[]
  instanceTypes := #[(.object "java/lang/String"), .int, .int]
  staticTypes := #[]
  resolved := Array.replicate 204 none
  statics := none }

def pool6 : Array CpInfo := pool [(1, .class_ 2), (0, u "com/example/moat/moat/xpath/Operation$Operator"), (2, u "OR"), (0, u "Lcom/example/moat/moat/xpath/Operation$Operator;"), (2, u "AND"), (2, u "EQUAL"), (2, u "NOT_EQUAL"), (0, .fieldref 1 17), (0, .nameAndType 18 6), (0, u "LESS"), (0, .fieldref 1 20), (0, .nameAndType 21 6), (0, u "LESS_OR_EQUAL"), (0, .fieldref 1 23), (0, .nameAndType 24 6), (0, u "GREATER"), (0, .fieldref 1 26), (0, .nameAndType 27 6), (0, u "GREATER_OR_EQUAL"), (2, u "PLUS"), (2, u "MINUS"), (2, u "MULTIPLY"), (2, u "DIVIDE"), (2, u "MODULO"), (2, u "NEGATE"), (2, u "$VALUES"), (0, u "[Lcom/example/moat/moat/xpath/Operation$Operator;"), (6, .class_ 58), (1, u "java/lang/Enum"), (8, u "text"), (0, u "Ljava/lang/String;"), (71, u "flipped"), (0, u "()Lcom/example/moat/moat/xpath/Operation$Operator;"), (6, .class_ 149), (0, u "com/example/moat/moat/xpath/Operation")] 2

def k6c0 : Code := { maxStack := 2, maxLocals := 2, code := prog_61_method_7_code, exceptionTable := #[], attributes := #[] }
def k6m0 : Method := { name := "flipped", desc := "()Lcom/example/moat/moat/xpath/Operation$Operator;", sig := { parameters := [], returnType := some (.object "com/example/moat/moat/xpath/Operation$Operator") }, accessFlags := 0, code := some k6c0 }
/-- com/example/moat/moat/xpath/Operation$Operator -/
def k6 : Class := { plain "com/example/moat/moat/xpath/Operation$Operator" (some 5) with
  accessFlags := 16432
  interfaces := #[]
  cf := some (fileOf pool6 1 #[.nestHost 148] #[{ accessFlags := 0, nameIndex := 140, descriptorIndex := 141, attributes := #[] }] 16432 56 #[] #[{ accessFlags := 16409, nameIndex := 5, descriptorIndex := 6, attributes := #[] }, { accessFlags := 16409, nameIndex := 9, descriptorIndex := 6, attributes := #[] }, { accessFlags := 16409, nameIndex := 12, descriptorIndex := 6, attributes := #[] }, { accessFlags := 16409, nameIndex := 15, descriptorIndex := 6, attributes := #[] }, { accessFlags := 16409, nameIndex := 18, descriptorIndex := 6, attributes := #[] }, { accessFlags := 16409, nameIndex := 21, descriptorIndex := 6, attributes := #[] }, { accessFlags := 16409, nameIndex := 24, descriptorIndex := 6, attributes := #[] }, { accessFlags := 16409, nameIndex := 27, descriptorIndex := 6, attributes := #[] }, { accessFlags := 16409, nameIndex := 30, descriptorIndex := 6, attributes := #[] }, { accessFlags := 16409, nameIndex := 33, descriptorIndex := 6, attributes := #[] }, { accessFlags := 16409, nameIndex := 36, descriptorIndex := 6, attributes := #[] }, { accessFlags := 16409, nameIndex := 39, descriptorIndex := 6, attributes := #[] }, { accessFlags := 16409, nameIndex := 42, descriptorIndex := 6, attributes := #[] }, { accessFlags := 16409, nameIndex := 45, descriptorIndex := 6, attributes := #[] }, { accessFlags := 18, nameIndex := 67, descriptorIndex := 68, attributes := #[] }, { accessFlags := 4122, nameIndex := 48, descriptorIndex := 49, attributes := #[] }])
  fields := #[{ name := "OR", type := (.object "com/example/moat/moat/xpath/Operation$Operator"), accessFlags := 16409, slot := 0, constantValue := 0 }, { name := "AND", type := (.object "com/example/moat/moat/xpath/Operation$Operator"), accessFlags := 16409, slot := 1, constantValue := 0 }, { name := "EQUAL", type := (.object "com/example/moat/moat/xpath/Operation$Operator"), accessFlags := 16409, slot := 2, constantValue := 0 }, { name := "NOT_EQUAL", type := (.object "com/example/moat/moat/xpath/Operation$Operator"), accessFlags := 16409, slot := 3, constantValue := 0 }, { name := "LESS", type := (.object "com/example/moat/moat/xpath/Operation$Operator"), accessFlags := 16409, slot := 4, constantValue := 0 }, { name := "LESS_OR_EQUAL", type := (.object "com/example/moat/moat/xpath/Operation$Operator"), accessFlags := 16409, slot := 5, constantValue := 0 }, { name := "GREATER", type := (.object "com/example/moat/moat/xpath/Operation$Operator"), accessFlags := 16409, slot := 6, constantValue := 0 }, { name := "GREATER_OR_EQUAL", type := (.object "com/example/moat/moat/xpath/Operation$Operator"), accessFlags := 16409, slot := 7, constantValue := 0 }, { name := "PLUS", type := (.object "com/example/moat/moat/xpath/Operation$Operator"), accessFlags := 16409, slot := 8, constantValue := 0 }, { name := "MINUS", type := (.object "com/example/moat/moat/xpath/Operation$Operator"), accessFlags := 16409, slot := 9, constantValue := 0 }, { name := "MULTIPLY", type := (.object "com/example/moat/moat/xpath/Operation$Operator"), accessFlags := 16409, slot := 10, constantValue := 0 }, { name := "DIVIDE", type := (.object "com/example/moat/moat/xpath/Operation$Operator"), accessFlags := 16409, slot := 11, constantValue := 0 }, { name := "MODULO", type := (.object "com/example/moat/moat/xpath/Operation$Operator"), accessFlags := 16409, slot := 12, constantValue := 0 }, { name := "NEGATE", type := (.object "com/example/moat/moat/xpath/Operation$Operator"), accessFlags := 16409, slot := 13, constantValue := 0 }, { name := "text", type := (.object "java/lang/String"), accessFlags := 18, slot := 3, constantValue := 0 }, { name := "$VALUES", type := (.array (.object "com/example/moat/moat/xpath/Operation$Operator")), accessFlags := 4122, slot := 14, constantValue := 0 }]
  methods := #[k6m0]
  instanceTypes := #[(.object "java/lang/String"), .int, .int, (.object "java/lang/String")]
  staticTypes := #[(.object "com/example/moat/moat/xpath/Operation$Operator"), (.object "com/example/moat/moat/xpath/Operation$Operator"), (.object "com/example/moat/moat/xpath/Operation$Operator"), (.object "com/example/moat/moat/xpath/Operation$Operator"), (.object "com/example/moat/moat/xpath/Operation$Operator"), (.object "com/example/moat/moat/xpath/Operation$Operator"), (.object "com/example/moat/moat/xpath/Operation$Operator"), (.object "com/example/moat/moat/xpath/Operation$Operator"), (.object "com/example/moat/moat/xpath/Operation$Operator"), (.object "com/example/moat/moat/xpath/Operation$Operator"), (.object "com/example/moat/moat/xpath/Operation$Operator"), (.object "com/example/moat/moat/xpath/Operation$Operator"), (.object "com/example/moat/moat/xpath/Operation$Operator"), (.object "com/example/moat/moat/xpath/Operation$Operator"), (.array (.object "com/example/moat/moat/xpath/Operation$Operator"))]
  resolved := Array.replicate 152 none
  statics := some 0 }

def pool7 : Array CpInfo := pool [(1, u "java/lang/Cloneable"), (0, .class_ 1), (0, u "java/lang/Object"), (0, .class_ 3)] 3

/-- java/lang/Cloneable -/
def k7 : Class := { plain "java/lang/Cloneable" (some 0) with
  accessFlags := 1537
  interfaces := #[]
  cf := some (fileOf pool7 2 #[] #[] 1537 4 #[] #[])
  fields := #[]
  methods := #[]
  instanceTypes := #[]
  staticTypes := #[]
  resolved := Array.replicate 8 none
  statics := none }

/-- the primitive byte -/
def k8 : Class := { plain "byte" none with kind := .primitive 'B', accessFlags := 0x411 }
/-- [B -/
def k9 : Class := { plain "[B" (some 0) with kind := .array 8 .byte, interfaces := #[7, 4], accessFlags := 1041 }

/-- the primitive int -/
def k10 : Class := { plain "int" none with kind := .primitive 'I', accessFlags := 0x411 }
/-- [I -/
def k11 : Class := { plain "[I" (some 0) with kind := .array 10 .int, interfaces := #[7, 4], accessFlags := 1041 }

def heap : Heap := #[{ cls := 6, slots := #[.ref 1, .ref 2, .ref 3, .ref 4, .ref 5, .ref 6, .ref 7, .ref 8, .ref 9, .ref 10, .ref 11, .ref 12, .ref 13, .ref 14, .null], vm := .statics 6 },
  { cls := 6, slots := #[.null, .int 0, .int 0, .null], vm := .none },
  { cls := 6, slots := #[.null, .int 1, .int 0, .null], vm := .none },
  { cls := 6, slots := #[.null, .int 2, .int 0, .null], vm := .none },
  { cls := 6, slots := #[.null, .int 3, .int 0, .null], vm := .none },
  { cls := 6, slots := #[.null, .int 4, .int 0, .null], vm := .none },
  { cls := 6, slots := #[.null, .int 5, .int 0, .null], vm := .none },
  { cls := 6, slots := #[.null, .int 6, .int 0, .null], vm := .none },
  { cls := 6, slots := #[.null, .int 7, .int 0, .null], vm := .none },
  { cls := 6, slots := #[.null, .int 8, .int 0, .null], vm := .none },
  { cls := 6, slots := #[.null, .int 9, .int 0, .null], vm := .none },
  { cls := 6, slots := #[.null, .int 10, .int 0, .null], vm := .none },
  { cls := 6, slots := #[.null, .int 11, .int 0, .null], vm := .none },
  { cls := 6, slots := #[.null, .int 12, .int 0, .null], vm := .none },
  { cls := 6, slots := #[.null, .int 13, .int 0, .null], vm := .none }]
def classes : Array Class := #[k0, k1, k2, k3, k4, k5, k6, k7, k8, k9, k10, k11]
def interned : List (Array UInt16 × Addr) := []
def slotsUsed : Nat := 71
def theMethod : MethodId := ⟨1, 1⟩
def args0 : Array Value := #[.int 5, .long 6, .long 7]
def aboutOver (below : List Frame) : State where
  vm := { classes := classes, interned := interned.toArray }
  heap := heap
  slotsUsed := slotsUsed
  threads := #[{ frames := .invoking theMethod args0 :: below }]
def below0 : List Frame := [.native { method := ⟨0, 0⟩, args := #[] }]
def about1 : State := aboutOver below0
def p0 : Program := .bare "" "" ""
def e0 : Env := launch0.env 0 0 0
theorem w_frames : about1.frames = Frame.invoking theMethod args0 :: below0 := rfl
set_option maxRecDepth 65536 in
theorem w_args : argsFit about1.vm theMethod args0 = true := by decide +kernel
set_option maxRecDepth 65536 in
theorem w_heap : heapFits about1 = true := by decide +kernel
set_option maxRecDepth 65536 in
theorem w_runnable : about1.curStatus? = some .runnable := by decide +kernel
set_option maxRecDepth 65536 in
theorem w_alone : about1.alone = true := by decide +kernel
set_option maxRecDepth 65536 in
theorem w_named : about1.methodNamed? x = some theMethod := by decide +kernel
set_option maxRecDepth 65536 in
theorem w_hears : about1.hears theMethod below0 = true := by decide +kernel
set_option maxRecDepth 65536 in
theorem w_ripe : about1.ripe theMethod args0 below0 = true := by decide +kernel
theorem w_running : about1.status = .running := rfl
set_option maxRecDepth 65536 in
theorem w_room : about1.hasRoom e0.platform room_1 = true :=
  launch0.hasRoom_least _ room_1 (by decide +kernel) (by decide +kernel) (by decide +kernel) (by decide +kernel) (by decide +kernel) (by decide +kernel)
theorem allAtoms_all (ts : List Jvm.Cond) (a : Array Jvm.Value) (st : Jvm.State) : (allAtoms ts).before a st = ts.all (fun c => c.before a st) := by
  induction ts with
  | nil => rfl
  | cons c t ih =>
    show (Jvm.Cond.and c (allAtoms t)).before a st = _
    rw [Jvm.Cond.before_and, ih, List.all_cons]
def words1 : List Jvm.Cond := Jvm.Cond.code x code maxLocals ret :: tables_1
/-- a 'code' word, met by the world's own term for the bytes: nothing is compared byte by byte -/
theorem code_word {y : MethodName} {bytes : ByteArray} {mx : Nat} {rt : Option FieldType} {a : Array Value} {s : State} {m : MethodId} {meth : Method} {c : Code} (h1 : s.methodNamed? y = some m) (h2 : s.vm.method? m = some meth) (h3 : meth.code = some c) (h4 : c.code = bytes)
    (h5 : (c.maxLocals == mx && c.exceptionTable.isEmpty && decide (c.maxStack ≤ mostOperands) && decide (meth.sig.returnType = rt) && !meth.locks && decide (parseMethodDescriptor y.desc = some meth.sig)) = true) : (Jvm.Cond.code y bytes mx rt).before a s = true := by
  simp only [Bool.and_eq_true, beq_iff_eq, Bool.not_eq_true', decide_eq_true_eq] at h5
  obtain ⟨⟨⟨⟨⟨g1, g2⟩, g3⟩, g4⟩, g5⟩, g6⟩ := h5
  simp [Cond.before, Cond.holds, Cond.value, h1, h2, h3, h4, g1, g2, g3, g4, g5, g6]
def isCode : Jvm.Cond → Bool
  | .code _ _ _ _ => true
  | _ => false
theorem all_split {L : List Jvm.Cond} {P : Jvm.Cond → Bool} (h1 : L.all (fun c => isCode c || P c) = true) (h2 : ∀ c ∈ L.filter isCode, P c = true) : L.all P = true := by
  refine List.all_eq_true.mpr fun c hc => ?_
  have h := List.all_eq_true.mp h1 c hc
  rcases Bool.eq_false_or_eq_true (isCode c) with hi | hi
  · exact h2 c (List.mem_filter.mpr ⟨hc, hi⟩)
  · simpa [hi] using h
set_option maxRecDepth 65536 in
theorem w_c0 : (Jvm.Cond.code x code maxLocals ret).before args0 about1 = true := code_word (m := ⟨1, 1⟩) (meth := k1m1) (c := k1c1) (by decide +kernel) rfl rfl rfl (by decide +kernel)
set_option maxRecDepth 65536 in
theorem w_c1 : (Jvm.Cond.code ({ cls := "com/example/moat/moat/xpath/OperatorFlippedPinLaw", name := "pick", desc := "(I)Lcom/example/moat/moat/xpath/Operation$Operator;" } : Jvm.MethodName) method_3_code (1 : Nat) (Option.some (Jvm.ClassFile.FieldType.object "com/example/moat/moat/xpath/Operation$Operator"))).before args0 about1 = true := code_word (m := ⟨1, 2⟩) (meth := k1m2) (c := k1c2) (by decide +kernel) rfl rfl rfl (by decide +kernel)
set_option maxRecDepth 65536 in
theorem w_c2 : (Jvm.Cond.code ({ cls := "com/example/moat/moat/xpath/Operation$Operator", name := "flipped", desc := "()Lcom/example/moat/moat/xpath/Operation$Operator;" } : Jvm.MethodName) prog_61_method_7_code (2 : Nat) (Option.some (Jvm.ClassFile.FieldType.object "com/example/moat/moat/xpath/Operation$Operator"))).before args0 about1 = true := code_word (m := ⟨6, 0⟩) (meth := k6m0) (c := k6c0) (by decide +kernel) rfl rfl rfl (by decide +kernel)
set_option maxRecDepth 65536 in
theorem w_c3 : (Jvm.Cond.code ({ cls := "com/example/moat/moat/xpath/OperatorFlippedPinLaw", name := "index", desc := "(Lcom/example/moat/moat/xpath/Operation$Operator;)I" } : Jvm.MethodName) method_4_code (1 : Nat) (Option.some Jvm.ClassFile.FieldType.int)).before args0 about1 = true := code_word (m := ⟨1, 3⟩) (meth := k1m3) (c := k1c3) (by decide +kernel) rfl rfl rfl (by decide +kernel)
set_option maxRecDepth 65536 in
theorem w_c4 : (Jvm.Cond.code ({ cls := "com/example/moat/moat/xpath/OperatorFlippedPinLaw", name := "holds", desc := "(IJJ)Z" } : Jvm.MethodName) method_5_code (5 : Nat) (Option.some Jvm.ClassFile.FieldType.boolean)).before args0 about1 = true := code_word (m := ⟨1, 4⟩) (meth := k1m4) (c := k1c4) (by decide +kernel) rfl rfl rfl (by decide +kernel)
def codes1 : List Jvm.Cond := [Jvm.Cond.code x code maxLocals ret, Jvm.Cond.code ({ cls := "com/example/moat/moat/xpath/OperatorFlippedPinLaw", name := "pick", desc := "(I)Lcom/example/moat/moat/xpath/Operation$Operator;" } : Jvm.MethodName) method_3_code (1 : Nat) (Option.some (Jvm.ClassFile.FieldType.object "com/example/moat/moat/xpath/Operation$Operator")), Jvm.Cond.code ({ cls := "com/example/moat/moat/xpath/Operation$Operator", name := "flipped", desc := "()Lcom/example/moat/moat/xpath/Operation$Operator;" } : Jvm.MethodName) prog_61_method_7_code (2 : Nat) (Option.some (Jvm.ClassFile.FieldType.object "com/example/moat/moat/xpath/Operation$Operator")), Jvm.Cond.code ({ cls := "com/example/moat/moat/xpath/OperatorFlippedPinLaw", name := "index", desc := "(Lcom/example/moat/moat/xpath/Operation$Operator;)I" } : Jvm.MethodName) method_4_code (1 : Nat) (Option.some Jvm.ClassFile.FieldType.int), Jvm.Cond.code ({ cls := "com/example/moat/moat/xpath/OperatorFlippedPinLaw", name := "holds", desc := "(IJJ)Z" } : Jvm.MethodName) method_5_code (5 : Nat) (Option.some Jvm.ClassFile.FieldType.boolean)]
set_option maxRecDepth 65536 in
theorem codes_eq : words1.filter isCode = codes1 := rfl
theorem w_codes : ∀ c ∈ words1.filter isCode, c.before args0 about1 = true := by
  rw [codes_eq]
  intro c hc
  simp only [codes1, List.mem_cons, List.not_mem_nil, or_false] at hc
  rcases hc with rfl | rfl | rfl | rfl | rfl
  · exact w_c0
  · exact w_c1
  · exact w_c2
  · exact w_c3
  · exact w_c4
set_option maxRecDepth 65536 in
theorem w_t1 : (words1.take 24).all (fun c => isCode c || c.before args0 about1) = true := by decide +kernel
set_option maxRecDepth 65536 in
theorem w_t2 : ((words1.drop 24).take 24).all (fun c => isCode c || c.before args0 about1) = true := by decide +kernel
set_option maxRecDepth 65536 in
theorem w_t3 : ((words1.drop 24).drop 24).all (fun c => isCode c || c.before args0 about1) = true := by decide +kernel
theorem w_tables : (allAtoms (Jvm.Cond.code x code maxLocals ret :: tables_1)).before args0 about1 = true := by
  rw [allAtoms_all]
  show words1.all (fun c => c.before args0 about1) = true
  refine all_split ?_ w_codes
  rw [← List.take_append_drop 24 words1, List.all_append, w_t1, ← List.take_append_drop 24 (words1.drop 24), List.all_append, w_t2, w_t3]
  rfl
set_option maxRecDepth 65536 in
theorem w_case : (Jvm.Cond.and given_1 narrow_1).before args0 about1 = true := by decide +kernel
theorem w_applies : (headSpec (Jvm.Cond.code x code maxLocals ret :: tables_1) room_1).applies x e0.platform about1 = true :=
  (Spec.applies_iff w_frames).mpr ⟨w_running, w_runnable, w_alone, w_named, w_hears, w_ripe, w_room, w_tables⟩
theorem atStart : AtStart classFile x code maxLocals ret World_1 tables_1 room_1 Calls_1 rest_1 Pre_1 launch0 p0 e0 about1 theMethod args0 below0 :=
  ⟨lists_1, trivial, launch0.admits_env _ _ _, launch0.least_env, fairChoices_fair.cas, fairChoices_fair.clock, w_frames, w_args, w_heap, w_applies, trivial, trivial, w_case⟩
end start1
theorem witness_1 : WitnessClaimed_1 := ⟨start1.p0, start1.e0, start1.about1, start1.theMethod, start1.args0, start1.below0, start1.atStart⟩
end Jvm.Pilot.@@N@@
