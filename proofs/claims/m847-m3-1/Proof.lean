import JvmDerived
import JvmDerived.Pilot.@@N@@Statement
import JvmDerived.Pilot.@@N@@Code
set_option linter.unusedVariables false
set_option linter.unusedSimpArgs false
namespace Jvm.OwnKit
open Sem ClassFile Op Lib Jvm.Stand Jvm.Free Jvm.LawKit Jvm.RoadKit
/-- from the frame g over T the run ends, and what it leaves is Q's -/
def Go (p : Program) (e : Env) (below : List Frame) (s : State) (Q : Option Value → Heap → List Loc → Prop) (C S : Nat) (T : State) (g : JFrame) : Prop :=
  ∃ s₂ o, Steps p.tables e below (T.setTop g) s₂ ∧ s₂.status = .running ∧ Ended s₂ below o ∧ ∃ v L, o = .returned v ∧ Q v s₂.heap L ∧ FrameEnd s o s₂ L C S
section OwnGo
variable {p : Program} {l : Launch} {e : Env} {R : Room} {s : State} {m : MethodId} {args : Array Value} {below : List Frame} {meth : Method} {c : Code} {T T' : State} {locs : List Loc} {cells slots : Nat} {Q : Option Value → Heap → List Loc → Prop} {C S : Nat} {g g' : JFrame}
theorem Go.st (h : ∀ t, Steps p.tables e below (T'.setTop g') t → Steps p.tables e below (T.setTop g) t) (k : Go p e below s Q C S T' g') : Go p e below s Q C S T g := by
  obtain ⟨s₂, o, h1, h2⟩ := k
  exact ⟨s₂, o, h _ h1, h2⟩
theorem Go.eq (q : g = g') (k : Go p e below s Q C S T g') : Go p e below s Q C S T g := q ▸ k
theorem Go.retV (X : Stand p l e R s m args below meth c T locs cells slots) (hx : p.tables.exec = Jvm.exec) (hlk : meth.locks = false) {pc : Nat} {Ls : Array Slot} {w : Value} {t : FieldType} {i : Instr} {rest : List Value} (hret : meth.sig.returnType = some t) (hn : narrow t w = w)
    (hi : (i = .ireturn ∧ (t = .int ∨ t = .boolean ∨ t = .byte ∨ t = .char ∨ t = .short) ∧ ∃ z, w = .int z) ∨ (i = .lreturn ∧ t = .long ∧ ∃ z, w = .long z) ∨ (i = .dreturn ∧ t = .double ∧ ∃ z, w = .double z) ∨ (i = .freturn ∧ t = .float ∧ ∃ z, w = .float z) ∨ (i = .areturn ∧ t.isReference = true ∧ w.isRef = true))
    (hd : decode c.code pc = .ok (i, 1)) (hQ : Q (some w) T.heap locs) (hc : cells ≤ C) (hs : slots ≤ S) : Go p e below s Q C S T (mkF m pc Ls (w :: rest)) := by
  obtain ⟨fs, hr, hrun, hended, hW, hsame⟩ := X.leave (v := some w) (fun h => by rw [hret] at h; cases h) hlk
  exact ⟨_, _, retOut X hx hret hn hi hd hr, hrun, hended, _, _, rfl, hQ, ⟨_, rfl⟩, hW, hsame.mono hc hs⟩
theorem Go.retI (X : Stand p l e R s m args below meth c T locs cells slots) (hx : p.tables.exec = Jvm.exec) (hlk : meth.locks = false) {pc : Nat} {Ls : Array Slot} {z : Int32} {rest : List Value} (hret : meth.sig.returnType = some .int) (hd : decode c.code pc = .ok (.ireturn, 1)) (hQ : Q (some (.int z)) T.heap locs) (hc : cells ≤ C) (hs : slots ≤ S) : Go p e below s Q C S T (mkF m pc Ls (.int z :: rest)) :=
  Go.retV X hx hlk hret rfl (Or.inl ⟨rfl, Or.inl rfl, _, rfl⟩) hd hQ hc hs
theorem Go.retZ (X : Stand p l e R s m args below meth c T locs cells slots) (hx : p.tables.exec = Jvm.exec) (hlk : meth.locks = false) {pc : Nat} {Ls : Array Slot} {z : Int32} {rest : List Value} (hret : meth.sig.returnType = some .boolean) (hd : decode c.code pc = .ok (.ireturn, 1)) (hn : narrow .boolean (.int z) = .int z) (hQ : Q (some (.int z)) T.heap locs) (hc : cells ≤ C) (hs : slots ≤ S) : Go p e below s Q C S T (mkF m pc Ls (.int z :: rest)) :=
  Go.retV X hx hlk hret hn (Or.inl ⟨rfl, Or.inr (Or.inl rfl), _, rfl⟩) hd hQ hc hs
theorem Go.retB (X : Stand p l e R s m args below meth c T locs cells slots) (hx : p.tables.exec = Jvm.exec) (hlk : meth.locks = false) {pc : Nat} {Ls : Array Slot} {z : Int32} {rest : List Value} (hret : meth.sig.returnType = some .byte) (hd : decode c.code pc = .ok (.ireturn, 1)) (hn : narrow .byte (.int z) = .int z) (hQ : Q (some (.int z)) T.heap locs) (hc : cells ≤ C) (hs : slots ≤ S) : Go p e below s Q C S T (mkF m pc Ls (.int z :: rest)) :=
  Go.retV X hx hlk hret hn (Or.inl ⟨rfl, Or.inr (Or.inr (Or.inl rfl)), _, rfl⟩) hd hQ hc hs
theorem Go.retC (X : Stand p l e R s m args below meth c T locs cells slots) (hx : p.tables.exec = Jvm.exec) (hlk : meth.locks = false) {pc : Nat} {Ls : Array Slot} {z : Int32} {rest : List Value} (hret : meth.sig.returnType = some .char) (hd : decode c.code pc = .ok (.ireturn, 1)) (hn : narrow .char (.int z) = .int z) (hQ : Q (some (.int z)) T.heap locs) (hc : cells ≤ C) (hs : slots ≤ S) : Go p e below s Q C S T (mkF m pc Ls (.int z :: rest)) :=
  Go.retV X hx hlk hret hn (Or.inl ⟨rfl, Or.inr (Or.inr (Or.inr (Or.inl rfl))), _, rfl⟩) hd hQ hc hs
theorem Go.retJ (X : Stand p l e R s m args below meth c T locs cells slots) (hx : p.tables.exec = Jvm.exec) (hlk : meth.locks = false) {pc : Nat} {Ls : Array Slot} {z : Int64} {rest : List Value} (hret : meth.sig.returnType = some .long) (hd : decode c.code pc = .ok (.lreturn, 1)) (hQ : Q (some (.long z)) T.heap locs) (hc : cells ≤ C) (hs : slots ≤ S) : Go p e below s Q C S T (mkF m pc Ls (.long z :: rest)) :=
  Go.retV X hx hlk hret rfl (Or.inr (Or.inl ⟨rfl, rfl, _, rfl⟩)) hd hQ hc hs
theorem own_nar_ref {t : FieldType} {w : Value} (hw : w.isRef = true) : narrow t w = w := by
  rcases ref_cases hw with rfl | ⟨_, rfl⟩ <;> cases t <;> rfl
theorem Go.retA (X : Stand p l e R s m args below meth c T locs cells slots) (hx : p.tables.exec = Jvm.exec) (hlk : meth.locks = false) {pc : Nat} {Ls : Array Slot} {w : Value} {t : FieldType} {rest : List Value} (hret : meth.sig.returnType = some t) (ht : t.isReference = true) (hw : w.isRef = true) (hd : decode c.code pc = .ok (.areturn, 1)) (hQ : Q (some w) T.heap locs) (hc : cells ≤ C) (hs : slots ≤ S) : Go p e below s Q C S T (mkF m pc Ls (w :: rest)) :=
  Go.retV X hx hlk hret (own_nar_ref hw) (Or.inr (Or.inr (Or.inr (Or.inr ⟨rfl, ht, hw⟩)))) hd hQ hc hs
theorem Go.ret0 (X : Stand p l e R s m args below meth c T locs cells slots) (hx : p.tables.exec = Jvm.exec) (hlk : meth.locks = false) {pc : Nat} {Ls : Array Slot} (hret : meth.sig.returnType = none) (hd : decode c.code pc = .ok (.return_, 1)) (hQ : Q none T.heap locs) (hc : cells ≤ C) (hs : slots ≤ S) : Go p e below s Q C S T (mkF m pc Ls []) := by
  obtain ⟨fs, hr, hrun, hended, hW, hsame⟩ := X.leave (v := none) (fun _ => rfl) hlk
  exact ⟨_, _, X.returnOut hx hret hd hr, hrun, hended, _, _, rfl, hQ, ⟨_, rfl⟩, hW, hsame.mono hc hs⟩
end OwnGo
/-- a proposition as Java's boolean -/
def b2i (P : Prop) [Decidable P] : Int32 := if P then 1 else 0
theorem b2i_pos {P : Prop} [Decidable P] (h : P) : b2i P = 1 := if_pos h
theorem b2i_neg {P : Prop} [Decidable P] (h : ¬ P) : b2i P = 0 := if_neg h
theorem b2i_ne {P : Prop} [Decidable P] (h : P) : ¬ b2i P = 0 := by rw [b2i_pos h]; decide
theorem b2i_zero {P : Prop} [Decidable P] (h : ¬ P) : b2i P = 0 := b2i_neg h
theorem own_b2i_t {P : Prop} [Decidable P] (h : P) : some (Value.int 1) = some (Value.int (b2i P)) := by rw [b2i_pos h]
theorem own_b2i_f {P : Prop} [Decidable P] (h : ¬ P) : some (Value.int 0) = some (Value.int (b2i P)) := by rw [b2i_neg h]
theorem own_nb (y : Int32) : nar .byte (y.toInt8.toInt32) = y.toInt8.toInt32 := by
  show y.toInt8.toInt32.toInt8.toInt32 = y.toInt8.toInt32
  simp
theorem own_nc (y : Int32) : nar .char (y.toUInt32.toUInt16.toUInt32.toInt32) = y.toUInt32.toUInt16.toUInt32.toInt32 := by
  show (y.toUInt32.toUInt16.toUInt32.toInt32).toUInt32.toUInt16.toUInt32.toInt32 = y.toUInt32.toUInt16.toUInt32.toInt32
  rw [UInt32.toUInt32_toInt32, UInt16.toUInt16_toUInt32]
theorem own_nbv (y : Int32) : narrow .byte (.int (y.toInt8.toInt32)) = .int (y.toInt8.toInt32) := congrArg Value.int (own_nb y)
theorem own_and1 (a : Int32) : a &&& (1 : Int32) = (0 : Int32) ∨ a &&& (1 : Int32) = (1 : Int32) := and_one a
theorem own_and3 (a : Int32) : a &&& (3 : Int32) = (0 : Int32) ∨ a &&& (3 : Int32) = (1 : Int32) ∨ a &&& (3 : Int32) = (2 : Int32) ∨ a &&& (3 : Int32) = (3 : Int32) := by
  have e := c_mask a 3 2 (by decide) (by decide)
  have h : (a &&& (3 : Int32)).toInt = 0 ∨ (a &&& (3 : Int32)).toInt = 1 ∨ (a &&& (3 : Int32)).toInt = 2 ∨ (a &&& (3 : Int32)).toInt = 3 := by omega
  rcases h with h | h | h | h
  · exact Or.inl (Int32.toInt_inj.mp (h.trans (by decide)))
  · exact Or.inr (Or.inl (Int32.toInt_inj.mp (h.trans (by decide))))
  · exact Or.inr (Or.inr (Or.inl (Int32.toInt_inj.mp (h.trans (by decide)))))
  · exact Or.inr (Or.inr (Or.inr (Int32.toInt_inj.mp (h.trans (by decide)))))
theorem own_ord {s : State} {args : Array Value} {t : Term} {a : Addr} {C n d : String} {k : Int32} (ev : t.eval args s none [] s = some (.ref a)) (h : (Jvm.Cond.eq (Term.field t C n d) (Term.int k)).value args s none s [] = some true) : Fld s s.heap a C n d (.int k) := by
  obtain ⟨u, w, hu, hw, k1, k2⟩ := cmp_v (Or.inl h)
  have hw' : (Term.int k).eval args s none [] s = some (.int k) := Term.int_eval k
  cases hw.symm.trans hw'
  obtain ⟨z, rfl⟩ : ∃ z, u = .int z := k2
  have hz : z = k := gotT (Cond.eq_ints hu hw') h
  subst hz
  exact Fld.start ((fld_at ev).symm.trans hu)
section OwnBounds
variable {c a b : Int32} {n : Int}
theorem own_i1 (h : c < a) (q : a.toInt ≤ b.toInt) : c < b := by rw [Int32.lt_iff_toInt_lt] at *; omega
theorem own_i2 (h : ¬ a < c) (q : a.toInt < b.toInt) : c < b := by rw [Int32.lt_iff_toInt_lt] at *; omega
theorem own_i3 (h : ¬ c < a) (q : b.toInt ≤ a.toInt) : ¬ c < b := by rw [Int32.lt_iff_toInt_lt] at *; omega
theorem own_i4 (h : a < c) (q : b.toInt ≤ a.toInt + 1) : ¬ c < b := by rw [Int32.lt_iff_toInt_lt] at *; omega
theorem own_j1 (h : c < a) (q : a.toInt ≤ b.toInt + 1) : ¬ b < c := by rw [Int32.lt_iff_toInt_lt] at *; omega
theorem own_j2 (h : ¬ a < c) (q : a.toInt ≤ b.toInt) : ¬ b < c := by rw [Int32.lt_iff_toInt_lt] at *; omega
theorem own_j3 (h : ¬ c < a) (q : b.toInt < a.toInt) : b < c := by rw [Int32.lt_iff_toInt_lt] at *; omega
theorem own_j4 (h : a < c) (q : b.toInt ≤ a.toInt) : b < c := by rw [Int32.lt_iff_toInt_lt] at *; omega
theorem own_k1 (h : c < a) (q : a.toInt ≤ b.toInt) : ¬ c = b := fun e => by rw [e, Int32.lt_iff_toInt_lt] at h; omega
theorem own_k2 (h : ¬ a < c) (q : a.toInt < b.toInt) : ¬ c = b := fun e => by rw [e, Int32.lt_iff_toInt_lt] at h; omega
theorem own_k3 (h : ¬ c < a) (q : b.toInt < a.toInt) : ¬ c = b := fun e => by rw [e, Int32.lt_iff_toInt_lt] at h; omega
theorem own_k4 (h : a < c) (q : b.toInt ≤ a.toInt) : ¬ c = b := fun e => by rw [e, Int32.lt_iff_toInt_lt] at h; omega
theorem own_c1 (h : c < a) (q : a.toInt = n) : c.toInt < n := by rw [Int32.lt_iff_toInt_lt] at h; omega
theorem own_c2 (h : ¬ a < c) (q : a.toInt = n) : c.toInt ≤ n := by rw [Int32.lt_iff_toInt_lt] at h; omega
theorem own_c3 (h : ¬ c < a) (q : a.toInt = n) : n ≤ c.toInt := by rw [Int32.lt_iff_toInt_lt] at h; omega
theorem own_c4 (h : a < c) (q : a.toInt = n) : n < c.toInt := by rw [Int32.lt_iff_toInt_lt] at h; omega
theorem own_c5 (h : c = a) (q : a.toInt = n) : c.toInt = n := by rw [h]; exact q
theorem own_c6 (h : ¬ c = a) (q : a.toInt = n) : ¬ c.toInt = n := fun e => h (Int32.toInt_inj.mp (e.trans q.symm))
end OwnBounds
theorem own_addc {a b c d : Int32} (h : b + c = d) : (a + b) + c = a + d := by rw [Int32.add_assoc, h]
theorem own_byte_of {v : Value} (h : fits .byte v = true) : ∃ w, v = .int w ∧ narrow .byte (.int w) = .int w := by
  cases v with
  | int w =>
    refine ⟨w, rfl, ?_⟩
    obtain ⟨h1, h2⟩ := rng_byte h
    have e := c_i2b w
    have e1 : (-128 : Int32).toInt = -128 := by decide
    have e2 : (127 : Int32).toInt = 127 := by decide
    rw [Int32.lt_iff_toInt_lt, e1] at h1
    rw [Int32.lt_iff_toInt_lt, e2] at h2
    have e3 : w.toInt8.toInt32 = w := Int32.toInt_inj.mp (by omega)
    exact congrArg Value.int e3
  | _ => simp [fits] at h
theorem own_arv_nostat {Z : State} {h : Heap} {a : Addr} {k : ClassId} {ty : FieldType} {z : Int32} {vs : List Value} {dv : Value} (F : Arv Z h a k ty z vs dv) : ∀ cell : Cell, h[a]? = some cell → cell.vm.isStatics = false := by
  obtain ⟨c, A, -⟩ := F
  intro cell hc
  cases A.1.symm.trans hc
  exact A.plain
theorem own_selP {s : State} {args : Array Value} {y y' : MethodName} (hsel : (Jvm.Cond.selects y'.cls y' y').before args s = true) (he : y.cls = y'.cls) (hp : s.PrivateAt y) (hi : (Jvm.Cond.instanceMethod y).before args s = true) (hy : y.cls ≠ "java/lang/invoke/MethodHandle" ∧ y.cls ≠ "java/lang/invoke/VarHandle") : (Jvm.Cond.selects y.cls y y).before args s = true := by
  obtain ⟨c2, r2, m2, -, -, q3, -, kP, hkP, hkPi⟩ := Cond.selects_spec hsel
  exact Jvm.Stand.selects_self_of_private (by rw [he]; exact findClass_of_methodNamed q3) hkP hkPi hp hi hy
theorem own_irr {a : Int32} : ¬ (a < a) := Int32.lt_irrefl
theorem own_irrL {a : Int64} : ¬ (a < a) := Int64.lt_irrefl
theorem own_sta_keep {Z : State} {h h' : Heap} {C n d : String} {v : Value} {ws : List Addr} (F : Sta Z h C n d v) (K : Keep h h' ws) (q : ∀ x ∈ ws, ∀ cell : Cell, h[x]? = some cell → cell.vm.isStatics = false) : Sta Z h' C n d v := by
  obtain ⟨cf, i, k, f, st, cell, h1, h2, h3, h4, h5, h6, h7⟩ := F
  refine ⟨cf, i, k, f, st, cell, h1, h2, h3, h4, K.2.1 _ _ h5 (fun hm => ?_), h6, h7⟩
  have := q _ hm _ h5
  rw [h6] at this
  cases this
end Jvm.OwnKit
namespace Jvm.Pilot.@@N@@
open Jvm Jvm.ClassFile Sem Op Lib Jvm.Free Jvm.Stand Jvm.LawKit Jvm.RoadKit Jvm.OwnKit Bundle Jvm.Pilot.@@N@@.Jvm.D
theorem own_mod (a : Int32) : ((a &&& (2147483647 : Int32)) % (6 : Int32)) = (0 : Int32) ∨ ((a &&& (2147483647 : Int32)) % (6 : Int32)) = (1 : Int32) ∨ ((a &&& (2147483647 : Int32)) % (6 : Int32)) = (2 : Int32) ∨ ((a &&& (2147483647 : Int32)) % (6 : Int32)) = (3 : Int32) ∨ ((a &&& (2147483647 : Int32)) % (6 : Int32)) = (4 : Int32) ∨ ((a &&& (2147483647 : Int32)) % (6 : Int32)) = (5 : Int32) := by
  have e1 := c_mask a 2147483647 31 (by decide) (by decide)
  have e2 := (c_irem (a &&& (2147483647 : Int32)) (6 : Int32) 6 (by decide)).1 (by rw [e1]; omega)
  have h : ((a &&& (2147483647 : Int32)) % (6 : Int32)).toInt = 0 ∨ ((a &&& (2147483647 : Int32)) % (6 : Int32)).toInt = 1 ∨ ((a &&& (2147483647 : Int32)) % (6 : Int32)).toInt = 2 ∨ ((a &&& (2147483647 : Int32)) % (6 : Int32)).toInt = 3 ∨ ((a &&& (2147483647 : Int32)) % (6 : Int32)).toInt = 4 ∨ ((a &&& (2147483647 : Int32)) % (6 : Int32)).toInt = 5 := by omega
  have q : ∀ {x y : Int32}, x.toInt = y.toInt → x = y := Int32.toInt_inj.mp
  rcases h with h | h | h | h | h | h
  · exact Or.inl (q (h.trans (by decide)))
  · exact Or.inr (Or.inl (q (h.trans (by decide))))
  · exact Or.inr (Or.inr (Or.inl (q (h.trans (by decide)))))
  · exact Or.inr (Or.inr (Or.inr (Or.inl (q (h.trans (by decide))))))
  · exact Or.inr (Or.inr (Or.inr (Or.inr (Or.inl (q (h.trans (by decide)))))))
  · exact Or.inr (Or.inr (Or.inr (Or.inr (Or.inr ((q (h.trans (by decide))))))))
theorem d1_0 : decode prog_52_method_1_code 0 = .ok (.aload_n 0, 1) := by decide +kernel
theorem d1_1 : decode prog_52_method_1_code 1 = .ok (.invokespecial 1, 3) := by decide +kernel
theorem d1_4 : decode prog_52_method_1_code 4 = .ok (.aload_n 0, 1) := by decide +kernel
theorem d1_5 : decode prog_52_method_1_code 5 = .ok (.bipush 8, 2) := by decide +kernel
theorem d1_7 : decode prog_52_method_1_code 7 = .ok (.newarray .long, 2) := by decide +kernel
theorem d1_9 : decode prog_52_method_1_code 9 = .ok (.putfield 7, 3) := by decide +kernel
theorem d1_12 : decode prog_52_method_1_code 12 = .ok (.return_, 1) := by decide +kernel
theorem pn_0 : plainName "com/example/moat/moat/xpath/Handles" = true := by first | (simp [plainName, overriddenIn]; done) | decide +kernel
theorem ef_rm1 (m : MethodId) (a : Addr) : entryFrame m #[(.ref a)] 1 = mkF m 0 #[.val (.ref a)] [] := by first | (simp [entryFrame, mkF, argsToLocals, Value.category]; done) | rfl
def Qrm1 (Z : State) (a : Addr) (h0 : Heap) (n0 : Nat) (rV : Option Value) (hE : Heap) (LE : List Loc) : Prop := ∃ t : Addr, ∃ kt : ClassId, rV = none ∧ Fr n0 LE ∧ Keep h0 hE [a] ∧ n0 ≤ t ∧ h0.size ≤ t ∧ Exa Z hE a "com/example/moat/moat/xpath/Handles" ∧ Fld Z hE a "com/example/moat/moat/xpath/Handles" "nodes" "[J" (.ref t) ∧ Fld Z hE a "com/example/moat/moat/xpath/Handles" "size" "I" (.int (0 : Int32)) ∧ Arv Z hE t kt .long (8 : Int32) [(.long (0 : Int64)), (.long (0 : Int64)), (.long (0 : Int64)), (.long (0 : Int64)), (.long (0 : Int64)), (.long (0 : Int64)), (.long (0 : Int64)), (.long (0 : Int64))] (.long (0 : Int64))
set_option maxRecDepth 65536 in
set_option maxHeartbeats 40000000 in
theorem rm1 (l : Launch) (Z : State) (a0 : Array Value) (hw : ∀ d ∈ tables_1, d.before a0 Z = true) (ws : List Jvm.Cond) (a : Addr) (h0 : Heap) (n0 : Nat) (Z0 : n0 ≤ h0.size) (E_a : Exa Z h0 a "com/example/moat/moat/xpath/Handles") (F_nodes_a : Fld Z h0 a "com/example/moat/moat/xpath/Handles" "nodes" "[J" .null) (F_size_a : Fld Z h0 a "com/example/moat/moat/xpath/Handles" "size" "I" (.int (0 : Int32))) (g_a : n0 ≤ a) :
    MetFree l (⟨"com/example/moat/moat/xpath/Handles", "<init>", "()V"⟩ : MethodName) (head1 (Jvm.Cond.code (⟨"com/example/moat/moat/xpath/Handles", "<init>", "()V"⟩ : MethodName) prog_52_method_1_code 1 none :: ws) ({ frames := 1, cells := 1, slots := 8, locals := 12 } : Room)) (fun aA UA => aA = #[(.ref a)] ∧ Z.Warmed39 UA.vm ∧ UA.heap = h0) (fun _ _ _ _ _ => True) (fun _ UA oA UB => ∃ rV LE, oA = .returned rV ∧ Qrm1 Z a h0 n0 rV UB.heap LE ∧ FrameEnd UA oA UB LE ({ frames := 1, cells := 1, slots := 8, locals := 12 } : Room).cells ({ frames := 1, cells := 1, slots := 8, locals := 12 } : Room).slots) := by
  refine MetFree.of_bodySF (plainFor_of_name pn_0) hisR ?_
  intro p e s m args below meth c s₁ Bd hml0 hP hK
  obtain ⟨rfl, hZ, hh⟩ := hP
  have hx := Bd.exec
  have hby := Bd.bytes
  have hml : c.maxLocals = 1 := hml0
  have hown : s.vm.findClass "com/example/moat/moat/xpath/Handles" = some m.cls := findClass_of_methodNamed Bd.named
  have hnm := (name_of_methodNamed Bd.named Bd.method).1
  have hlk := Bd.notSynchronized
  have X0 : Stand p l e ({ frames := 1, cells := 1, slots := 8, locals := 12 } : Room) s m #[(.ref a)] below meth c s₁ [] 0 0 := Stand.of_body Bd
  have e0 : s₁.heap = h0 := by rw [← hh, Bd.state]; rfl
  have N0 := Fr.nil n0
  show Go p e below s (Qrm1 Z a h0 n0) ({ frames := 1, cells := 1, slots := 8, locals := 12 } : Room).cells ({ frames := 1, cells := 1, slots := 8, locals := 12 } : Room).slots s₁ (entryFrame m #[(.ref a)] 1)
  refine Go.eq (ef_rm1 m a) ?_
  show Go p e below s _ _ _ s₁ (mkF m 0 #[.val (.ref a)] [])
  refine Go.st (fun _ => XS.aloadN X0.here hx rfl (hb hby d1_0) rfl rfl) ?_
  show Go p e below s _ _ _ s₁ (mkF m 1 #[.val (.ref a)] [(.ref a)])
  obtain ⟨T_1, X_1, e_1, st_1⟩ := initO X0 hx hZ hown (hw _ (List.mem_of_getElem? (i := 8) rfl)) (hw _ (List.mem_of_getElem? (i := 9) rfl)) (hw _ (List.mem_of_getElem? (i := 10) rfl)) e0 (g := (mkF m 1 #[.val (.ref a)] [(.ref a)])) rfl (by rw [hml]; rfl) rfl (hb hby d1_1) (by decide) (W := 0) (by show 2 * 0 + _ ≤ _; exact Nat.le_of_eq rfl) (by decide)
  refine Go.st st_1 ?_
  show Go p e below s _ _ _ T_1 (mkF m 4 #[.val (.ref a)] [])
  refine Go.st (fun _ => XS.aloadN X_1.here hx rfl (hb hby d1_4) rfl rfl) ?_
  show Go p e below s _ _ _ T_1 (mkF m 5 #[.val (.ref a)] [(.ref a)])
  refine Go.st (fun _ => XS.bipush X_1.here hx rfl (hb hby d1_5)) ?_
  show Go p e below s _ _ _ T_1 (mkF m 7 #[.val (.ref a)] [(.int (8 : Int32)), (.ref a)])
  obtain ⟨T_2, h_2, kA_2, X_2, e_2, E_2, A_2, st_2⟩ := newP X_1 hx hZ (hw _ (List.mem_of_getElem? (i := 1) rfl)) e_1 (g := (mkF m 7 #[.val (.ref a)] [(.int (8 : Int32)), (.ref a)])) rfl (hb hby d1_7) rfl (by decide) (cap := 8) (by decide) (by decide) (by decide) (by decide)
  obtain ⟨b_2, g_2⟩ : ∃ z, z = h0.size := ⟨_, rfl⟩
  rw [← g_2] at A_2 st_2
  refine Go.st st_2 ?_
  have ne_a_b_2 : a ≠ b_2 := Nat.ne_of_lt (Nat.lt_of_lt_of_eq E_a.lt g_2.symm)
  have gg_2 : n0 ≤ b_2 := Nat.le_trans Z0 (Nat.le_of_eq g_2.symm)
  have sz_2 : h0.size ≤ b_2 := Nat.le_trans (Keep.refl h0 [a]).1 (Nat.le_of_eq g_2.symm)
  have K_2 : Keep h0 h_2 [a] := (Keep.refl h0 [a]).ext E_2
  have z_2 : n0 ≤ h_2.size := Nat.le_trans Z0 E_2.1
  have V_b_2 : Arv Z h_2 b_2 kA_2 .long (8 : Int32) [(.long (0 : Int64)), (.long (0 : Int64)), (.long (0 : Int64)), (.long (0 : Int64)), (.long (0 : Int64)), (.long (0 : Int64)), (.long (0 : Int64)), (.long (0 : Int64))] (.long (0 : Int64)) := (Arv.new A_2 (by decide)).pad (pad_rep [] (.long (0 : Int64)) 8)
  show Go p e below s _ _ _ T_2 (mkF m 9 #[.val (.ref a)] [(.ref b_2), (.ref a)])
  have f_3 := (E_a.ext E_2)
  have f_4 := (F_nodes_a.ext E_2)
  obtain ⟨T_5, h_5, X_5, e_5, W_5, st_5⟩ := putF X_2 hx hZ hown (host := "") (Or.inl (hw _ (List.mem_of_getElem? (i := 11) rfl))) Via.refl e_2 f_4 f_3 (Or.inl (hw _ (List.mem_of_getElem? (i := 12) rfl))) (hw _ (List.mem_of_getElem? (i := 3) rfl)) (ty := (.array .long)) (by decide) rfl rfl (g := (mkF m 9 #[.val (.ref a)] [(.ref b_2), (.ref a)])) rfl rfl (hb hby d1_9)
  refine Go.st st_5 ?_
  have N_5 := Fr.snoc X_5 N0 g_a
  have K_5 : Keep h0 h_5 [a] := K_2.wr W_5 (Or.inl (List.mem_of_getElem? (i := 0) rfl))
  have z_5 : n0 ≤ h_5.size := Nat.le_trans z_2 (Nat.le_of_eq W_5.size.symm)
  have Fw_5 := f_4.same W_5
  show Go p e below s _ _ _ T_5 (mkF m 12 #[.val (.ref a)] [])
  have f_6 := (f_3.wr W_5)
  have f_7 := ((F_size_a.ext E_2).other W_5 (Or.inr (slot_ne (Or.inl (hw _ (List.mem_of_getElem? (i := 19) rfl))) (Or.inl (hw _ (List.mem_of_getElem? (i := 12) rfl))) (by decide) (t := .int) (t' := (.array .long)) (by decide) (by decide))))
  have f_8 := (V_b_2.other W_5 (Ne.symm ne_a_b_2))
  exact Go.ret0 X_5 hx hlk Bd.returns (hb hby d1_12) (by rw [e_5]; exact ⟨b_2, kA_2, rfl, N_5, K_5, gg_2, sz_2, f_6, Fw_5, f_7, f_8⟩) (by decide) (by decide)
theorem d7_0 : decode prog_52_method_2_code 0 = .ok (.aload_n 0, 1) := by decide +kernel
theorem d7_1 : decode prog_52_method_2_code 1 = .ok (.getfield 13, 3) := by decide +kernel
theorem d7_4 : decode prog_52_method_2_code 4 = .ok (.aload_n 0, 1) := by decide +kernel
theorem d7_5 : decode prog_52_method_2_code 5 = .ok (.getfield 7, 3) := by decide +kernel
theorem d7_8 : decode prog_52_method_2_code 8 = .ok (.arraylength, 1) := by decide +kernel
theorem d7_9 : decode prog_52_method_2_code 9 = .ok (.if_icmp .ne 20, 3) := by decide +kernel
theorem d7_29 : decode prog_52_method_2_code 29 = .ok (.aload_n 0, 1) := by decide +kernel
theorem d7_30 : decode prog_52_method_2_code 30 = .ok (.getfield 7, 3) := by decide +kernel
theorem d7_33 : decode prog_52_method_2_code 33 = .ok (.aload_n 0, 1) := by decide +kernel
theorem d7_34 : decode prog_52_method_2_code 34 = .ok (.dup, 1) := by decide +kernel
theorem d7_35 : decode prog_52_method_2_code 35 = .ok (.getfield 13, 3) := by decide +kernel
theorem d7_38 : decode prog_52_method_2_code 38 = .ok (.dup_x1, 1) := by decide +kernel
theorem d7_39 : decode prog_52_method_2_code 39 = .ok (.iconst 1, 1) := by decide +kernel
theorem d7_40 : decode prog_52_method_2_code 40 = .ok (.iadd, 1) := by decide +kernel
theorem d7_41 : decode prog_52_method_2_code 41 = .ok (.putfield 13, 3) := by decide +kernel
theorem d7_44 : decode prog_52_method_2_code 44 = .ok (.lload_n 1, 1) := by decide +kernel
theorem d7_45 : decode prog_52_method_2_code 45 = .ok (.lastore, 1) := by decide +kernel
theorem d7_46 : decode prog_52_method_2_code 46 = .ok (.return_, 1) := by decide +kernel
theorem ef_rm7 (m : MethodId) (a : Addr) (q : Int64) : entryFrame m #[(.ref a), (.long q)] 3 = mkF m 0 #[.val (.ref a), .val (.long q), .second] [] := by first | (simp [entryFrame, mkF, argsToLocals, Value.category]; done) | rfl
def Qrm7 (Z : State) (a : Addr) (q : Int64) (t : Addr) (kt : ClassId) (n : Int32) (vs : List Value) (dv : Value) (h0 : Heap) (n0 : Nat) (rV : Option Value) (hE : Heap) (LE : List Loc) : Prop := rV = none ∧ Fr n0 LE ∧ Keep h0 hE [a, t] ∧ Exa Z hE a "com/example/moat/moat/xpath/Handles" ∧ Fld Z hE a "com/example/moat/moat/xpath/Handles" "nodes" "[J" (.ref t) ∧ Fld Z hE a "com/example/moat/moat/xpath/Handles" "size" "I" (.int (n + (1 : Int32))) ∧ Arv Z hE t kt .long (8 : Int32) (vs.set n.toNatClampNeg (.long q)) dv
set_option maxRecDepth 65536 in
set_option maxHeartbeats 40000000 in
theorem rm7 (l : Launch) (Z : State) (a0 : Array Value) (hw : ∀ d ∈ tables_1, d.before a0 Z = true) (ws : List Jvm.Cond) (a : Addr) (q : Int64) (t : Addr) (kt : ClassId) (n : Int32) (vs : List Value) (dv : Value) (h0 : Heap) (n0 : Nat) (Z0 : n0 ≤ h0.size) (E_a : Exa Z h0 a "com/example/moat/moat/xpath/Handles") (F_nodes_a : Fld Z h0 a "com/example/moat/moat/xpath/Handles" "nodes" "[J" (.ref t)) (F_size_a : Fld Z h0 a "com/example/moat/moat/xpath/Handles" "size" "I" (.int n)) (V_t : Arv Z h0 t kt .long (8 : Int32) vs dv) (g_a : n0 ≤ a) (g_t : n0 ≤ t) (ne_a_t : a ≠ t) (hn8 : ¬ (n = (8 : Int32))) (hn : ¬ n < 0 ∧ n < (8 : Int32)) (hl : n.toNatClampNeg < vs.length) :
    MetFree l (⟨"com/example/moat/moat/xpath/Handles", "add", "(J)V"⟩ : MethodName) (head1 (Jvm.Cond.code (⟨"com/example/moat/moat/xpath/Handles", "add", "(J)V"⟩ : MethodName) prog_52_method_2_code 3 none :: ws) ({ frames := 0, cells := 0, slots := 0, locals := 0 } : Room)) (fun aA UA => aA = #[(.ref a), (.long q)] ∧ Z.Warmed39 UA.vm ∧ UA.heap = h0) (fun _ _ _ _ _ => True) (fun _ UA oA UB => ∃ rV LE, oA = .returned rV ∧ Qrm7 Z a q t kt n vs dv h0 n0 rV UB.heap LE ∧ FrameEnd UA oA UB LE ({ frames := 0, cells := 0, slots := 0, locals := 0 } : Room).cells ({ frames := 0, cells := 0, slots := 0, locals := 0 } : Room).slots) := by
  refine MetFree.of_bodySF (plainFor_of_name pn_0) hisR ?_
  intro p e s m args below meth c s₁ Bd hml0 hP hK
  obtain ⟨rfl, hZ, hh⟩ := hP
  have hx := Bd.exec
  have hby := Bd.bytes
  have hml : c.maxLocals = 3 := hml0
  have hown : s.vm.findClass "com/example/moat/moat/xpath/Handles" = some m.cls := findClass_of_methodNamed Bd.named
  have hnm := (name_of_methodNamed Bd.named Bd.method).1
  have hlk := Bd.notSynchronized
  have X0 : Stand p l e ({ frames := 0, cells := 0, slots := 0, locals := 0 } : Room) s m #[(.ref a), (.long q)] below meth c s₁ [] 0 0 := Stand.of_body Bd
  have e0 : s₁.heap = h0 := by rw [← hh, Bd.state]; rfl
  have N0 := Fr.nil n0
  show Go p e below s (Qrm7 Z a q t kt n vs dv h0 n0) ({ frames := 0, cells := 0, slots := 0, locals := 0 } : Room).cells ({ frames := 0, cells := 0, slots := 0, locals := 0 } : Room).slots s₁ (entryFrame m #[(.ref a), (.long q)] 3)
  refine Go.eq (ef_rm7 m a q) ?_
  show Go p e below s _ _ _ s₁ (mkF m 0 #[.val (.ref a), .val (.long q), .second] [])
  refine Go.st (fun _ => XS.aloadN X0.here hx rfl (hb hby d7_0) rfl rfl) ?_
  show Go p e below s _ _ _ s₁ (mkF m 1 #[.val (.ref a), .val (.long q), .second] [(.ref a)])
  obtain ⟨T_1, X_1, e_1, st_1⟩ := getF X0 hx hZ hown (host := "") (Or.inl (hw _ (List.mem_of_getElem? (i := 18) rfl))) Via.refl e0 F_size_a (g := (mkF m 1 #[.val (.ref a), .val (.long q), .second] [(.ref a)])) rfl rfl (hb hby d7_1)
  refine Go.st st_1 ?_
  show Go p e below s _ _ _ T_1 (mkF m 4 #[.val (.ref a), .val (.long q), .second] [(.int n)])
  refine Go.st (fun _ => XS.aloadN X_1.here hx rfl (hb hby d7_4) rfl rfl) ?_
  show Go p e below s _ _ _ T_1 (mkF m 5 #[.val (.ref a), .val (.long q), .second] [(.ref a), (.int n)])
  obtain ⟨T_2, X_2, e_2, st_2⟩ := getF X_1 hx hZ hown (host := "") (Or.inl (hw _ (List.mem_of_getElem? (i := 11) rfl))) Via.refl e_1 F_nodes_a (g := (mkF m 5 #[.val (.ref a), .val (.long q), .second] [(.ref a), (.int n)])) rfl rfl (hb hby d7_5)
  refine Go.st st_2 ?_
  show Go p e below s _ _ _ T_2 (mkF m 8 #[.val (.ref a), .val (.long q), .second] [(.ref t), (.int n)])
  obtain ⟨cl_3, Ar_3, q_3, S_3, M_3, H_3, G_3⟩ := id V_t
  refine Go.st (fun tG => X_2.arraylength hx (by rw [e_2]; exact Ar_3.1) (State.isArrayOf_alike hZ.alike Ar_3.2.1) (g := (mkF m 8 #[.val (.ref a), .val (.long q), .second] [(.ref t), (.int n)])) rfl rfl (hb hby d7_8) tG) ?_
  rw [len_of S_3 M_3]
  show Go p e below s _ _ _ T_2 (mkF m 9 #[.val (.ref a), .val (.long q), .second] [(.int (8 : Int32)), (.int n)])
  refine Go.st (fun _ => XS.icmpYes X_2.here hx rfl (pc0 := 9) (pc' := 29) rfl (hb hby d7_9) rfl (feq hn8).2 (by decide) (by decide)) ?_
  show Go p e below s _ _ _ T_2 (mkF m 29 #[.val (.ref a), .val (.long q), .second] [])
  refine Go.st (fun _ => XS.aloadN X_2.here hx rfl (hb hby d7_29) rfl rfl) ?_
  show Go p e below s _ _ _ T_2 (mkF m 30 #[.val (.ref a), .val (.long q), .second] [(.ref a)])
  obtain ⟨T_4, X_4, e_4, st_4⟩ := getF X_2 hx hZ hown (host := "") (Or.inl (hw _ (List.mem_of_getElem? (i := 11) rfl))) Via.refl e_2 F_nodes_a (g := (mkF m 30 #[.val (.ref a), .val (.long q), .second] [(.ref a)])) rfl rfl (hb hby d7_30)
  refine Go.st st_4 ?_
  show Go p e below s _ _ _ T_4 (mkF m 33 #[.val (.ref a), .val (.long q), .second] [(.ref t)])
  refine Go.st (fun _ => XS.aloadN X_4.here hx rfl (hb hby d7_33) rfl rfl) ?_
  show Go p e below s _ _ _ T_4 (mkF m 34 #[.val (.ref a), .val (.long q), .second] [(.ref a), (.ref t)])
  refine Go.st (fun _ => XS.dup X_4.here hx rfl (hb hby d7_34) rfl rfl) ?_
  show Go p e below s _ _ _ T_4 (mkF m 35 #[.val (.ref a), .val (.long q), .second] [(.ref a), (.ref a), (.ref t)])
  obtain ⟨T_5, X_5, e_5, st_5⟩ := getF X_4 hx hZ hown (host := "") (Or.inl (hw _ (List.mem_of_getElem? (i := 18) rfl))) Via.refl e_4 F_size_a (g := (mkF m 35 #[.val (.ref a), .val (.long q), .second] [(.ref a), (.ref a), (.ref t)])) rfl rfl (hb hby d7_35)
  refine Go.st st_5 ?_
  show Go p e below s _ _ _ T_5 (mkF m 38 #[.val (.ref a), .val (.long q), .second] [(.int n), (.ref a), (.ref t)])
  refine Go.st (fun _ => XS.dupX1 X_5.here hx rfl (hb hby d7_38) rfl rfl rfl) ?_
  show Go p e below s _ _ _ T_5 (mkF m 39 #[.val (.ref a), .val (.long q), .second] [(.int n), (.ref a), (.int n), (.ref t)])
  refine Go.st (fun _ => XS.iconst X_5.here hx rfl (hb hby d7_39)) ?_
  show Go p e below s _ _ _ T_5 (mkF m 40 #[.val (.ref a), .val (.long q), .second] [(.int (1 : Int32)), (.int n), (.ref a), (.int n), (.ref t)])
  refine Go.st (fun _ => XS.iadd X_5.here hx rfl (hb hby d7_40) rfl) ?_
  show Go p e below s _ _ _ T_5 (mkF m 41 #[.val (.ref a), .val (.long q), .second] [(.int (n + (1 : Int32))), (.ref a), (.int n), (.ref t)])
  obtain ⟨T_6, h_6, X_6, e_6, W_6, st_6⟩ := putF X_5 hx hZ hown (host := "") (Or.inl (hw _ (List.mem_of_getElem? (i := 18) rfl))) Via.refl e_5 F_size_a E_a (Or.inl (hw _ (List.mem_of_getElem? (i := 19) rfl))) (hw _ (List.mem_of_getElem? (i := 3) rfl)) (ty := .int) (by decide) rfl rfl (g := (mkF m 41 #[.val (.ref a), .val (.long q), .second] [(.int (n + (1 : Int32))), (.ref a), (.int n), (.ref t)])) rfl rfl (hb hby d7_41)
  refine Go.st st_6 ?_
  have N_6 := Fr.snoc X_6 N0 g_a
  have K_6 : Keep h0 h_6 [a, t] := (Keep.refl h0 [a, t]).wr W_6 (Or.inl (List.mem_of_getElem? (i := 0) rfl))
  have z_6 : n0 ≤ h_6.size := Nat.le_trans Z0 (Nat.le_of_eq W_6.size.symm)
  have Fw_6 := F_size_a.same W_6
  show Go p e below s _ _ _ T_6 (mkF m 44 #[.val (.ref a), .val (.long q), .second] [(.int n), (.ref t)])
  refine Go.st (fun _ => XS.lloadN X_6.here hx rfl (hb hby d7_44) rfl) ?_
  show Go p e below s _ _ _ T_6 (mkF m 45 #[.val (.ref a), .val (.long q), .second] [(.long q), (.int n), (.ref t)])
  have f_7 := (V_t.other W_6 (Ne.symm ne_a_t))
  obtain ⟨cl_8, Ar_8, q_8, S_8, M_8, H_8, G_8⟩ := id f_7
  have hin_8 : ¬ (n < 0 ∨ cl_8.slots.size ≤ (n).toNatClampNeg) := inb_of S_8 hn
  obtain ⟨T_8, h_8, X_8, e_8, W_8, st_8⟩ := stJ X_6 hx hZ e_6 Ar_8 (j := n) hin_8 (g := (mkF m 45 #[.val (.ref a), .val (.long q), .second] [(.long q), (.int n), (.ref t)])) rfl rfl (hb hby d7_45)
  refine Go.st st_8 ?_
  have V_8 : Arv Z h_8 t kt .long (8 : Int32) (vs.set (n).toNatClampNeg (.long q)) dv := Arv.set Ar_8 q_8 S_8 M_8 H_8 G_8 rfl W_8 (n).toNatClampNeg rfl hl
  have N_8 := Fr.snoc X_8 N_6 g_t
  have K_8 : Keep h0 h_8 [a, t] := K_6.wr W_8 (Or.inl (List.mem_of_getElem? (i := 1) rfl))
  have z_8 : n0 ≤ h_8.size := Nat.le_trans z_6 (Nat.le_of_eq W_8.size.symm)
  show Go p e below s _ _ _ T_8 (mkF m 46 #[.val (.ref a), .val (.long q), .second] [])
  have f_9 := ((E_a.wr W_6).wr W_8)
  have f_10 := ((F_nodes_a.other W_6 (Or.inr (slot_ne (Or.inl (hw _ (List.mem_of_getElem? (i := 12) rfl))) (Or.inl (hw _ (List.mem_of_getElem? (i := 19) rfl))) (by decide) (t := (.array .long)) (t' := .int) (by decide) (by decide)))).other W_8 (Or.inl ne_a_t))
  have f_11 := (Fw_6.other W_8 (Or.inl ne_a_t))
  exact Go.ret0 X_8 hx hlk Bd.returns (hb hby d7_46) (by rw [e_8]; exact ⟨rfl, N_8, K_8, f_9, f_10, f_11, V_8⟩) (by decide) (by decide)
theorem d3_0 : decode prog_52_method_7_code 0 = .ok (.iconst 0, 1) := by decide +kernel
theorem d3_1 : decode prog_52_method_7_code 1 = .ok (.istore_n 1, 1) := by decide +kernel
theorem d3_2 : decode prog_52_method_7_code 2 = .ok (.aload_n 0, 1) := by decide +kernel
theorem d3_3 : decode prog_52_method_7_code 3 = .ok (.getfield 13, 3) := by decide +kernel
theorem d3_6 : decode prog_52_method_7_code 6 = .ok (.iconst 1, 1) := by decide +kernel
theorem d3_7 : decode prog_52_method_7_code 7 = .ok (.isub, 1) := by decide +kernel
theorem d3_8 : decode prog_52_method_7_code 8 = .ok (.istore_n 2, 1) := by decide +kernel
theorem d3_9 : decode prog_52_method_7_code 9 = .ok (.iload_n 1, 1) := by decide +kernel
theorem d3_10 : decode prog_52_method_7_code 10 = .ok (.iload_n 2, 1) := by decide +kernel
theorem d3_11 : decode prog_52_method_7_code 11 = .ok (.if_icmp .ge 38, 3) := by decide +kernel
theorem d3_49 : decode prog_52_method_7_code 49 = .ok (.return_, 1) := by decide +kernel
theorem ef_rmR0 (m : MethodId) (a : Addr) : entryFrame m #[(.ref a)] 5 = mkF m 0 #[.val (.ref a), .unset, .unset, .unset, .unset] [] := by first | (simp [entryFrame, mkF, argsToLocals, Value.category]; done) | rfl
def QrmR0 (Z : State) (a : Addr) (t : Addr) (kt : ClassId) (y0 : Int64) (y1 : Int64) (y2 : Int64) (y3 : Int64) (y4 : Int64) (y5 : Int64) (y6 : Int64) (y7 : Int64) (h0 : Heap) (n0 : Nat) (rV : Option Value) (hE : Heap) (LE : List Loc) : Prop := rV = none ∧ Fr n0 LE ∧ Keep h0 hE [t] ∧ Arv Z hE t kt .long (8 : Int32) [(.long y0), (.long y1), (.long y2), (.long y3), (.long y4), (.long y5), (.long y6), (.long y7)] (.long (0 : Int64))
set_option maxRecDepth 65536 in
set_option maxHeartbeats 40000000 in
theorem rmR0 (l : Launch) (Z : State) (a0 : Array Value) (hw : ∀ d ∈ tables_1, d.before a0 Z = true) (ws : List Jvm.Cond) (a : Addr) (t : Addr) (kt : ClassId) (y0 : Int64) (y1 : Int64) (y2 : Int64) (y3 : Int64) (y4 : Int64) (y5 : Int64) (y6 : Int64) (y7 : Int64) (h0 : Heap) (n0 : Nat) (Z0 : n0 ≤ h0.size) (F_nodes_a : Fld Z h0 a "com/example/moat/moat/xpath/Handles" "nodes" "[J" (.ref t)) (F_size_a : Fld Z h0 a "com/example/moat/moat/xpath/Handles" "size" "I" (.int (0 : Int32))) (V_t : Arv Z h0 t kt .long (8 : Int32) [(.long y0), (.long y1), (.long y2), (.long y3), (.long y4), (.long y5), (.long y6), (.long y7)] (.long (0 : Int64))) (g_t : n0 ≤ t) (ne_a_t : a ≠ t) :
    MetFree l (⟨"com/example/moat/moat/xpath/Handles", "reverse", "()V"⟩ : MethodName) (head1 (Jvm.Cond.code (⟨"com/example/moat/moat/xpath/Handles", "reverse", "()V"⟩ : MethodName) prog_52_method_7_code 5 none :: ws) ({ frames := 0, cells := 0, slots := 0, locals := 0 } : Room)) (fun aA UA => aA = #[(.ref a)] ∧ Z.Warmed39 UA.vm ∧ UA.heap = h0) (fun _ _ _ _ _ => True) (fun _ UA oA UB => ∃ rV LE, oA = .returned rV ∧ QrmR0 Z a t kt y0 y1 y2 y3 y4 y5 y6 y7 h0 n0 rV UB.heap LE ∧ FrameEnd UA oA UB LE ({ frames := 0, cells := 0, slots := 0, locals := 0 } : Room).cells ({ frames := 0, cells := 0, slots := 0, locals := 0 } : Room).slots) := by
  refine MetFree.of_bodySF (plainFor_of_name pn_0) hisR ?_
  intro p e s m args below meth c s₁ Bd hml0 hP hK
  obtain ⟨rfl, hZ, hh⟩ := hP
  have hx := Bd.exec
  have hby := Bd.bytes
  have hml : c.maxLocals = 5 := hml0
  have hown : s.vm.findClass "com/example/moat/moat/xpath/Handles" = some m.cls := findClass_of_methodNamed Bd.named
  have hnm := (name_of_methodNamed Bd.named Bd.method).1
  have hlk := Bd.notSynchronized
  have X0 : Stand p l e ({ frames := 0, cells := 0, slots := 0, locals := 0 } : Room) s m #[(.ref a)] below meth c s₁ [] 0 0 := Stand.of_body Bd
  have e0 : s₁.heap = h0 := by rw [← hh, Bd.state]; rfl
  have N0 := Fr.nil n0
  show Go p e below s (QrmR0 Z a t kt y0 y1 y2 y3 y4 y5 y6 y7 h0 n0) ({ frames := 0, cells := 0, slots := 0, locals := 0 } : Room).cells ({ frames := 0, cells := 0, slots := 0, locals := 0 } : Room).slots s₁ (entryFrame m #[(.ref a)] 5)
  refine Go.eq (ef_rmR0 m a) ?_
  show Go p e below s _ _ _ s₁ (mkF m 0 #[.val (.ref a), .unset, .unset, .unset, .unset] [])
  refine Go.st (fun _ => XS.iconst X0.here hx rfl (hb hby d3_0)) ?_
  show Go p e below s _ _ _ s₁ (mkF m 1 #[.val (.ref a), .unset, .unset, .unset, .unset] [(.int (0 : Int32))])
  refine Go.st (fun _ => XS.istoreN X0.here hx rfl (hb hby d3_1) rfl (l' := #[.val (.ref a), .val (.int (0 : Int32)), .unset, .unset, .unset]) rfl) ?_
  show Go p e below s _ _ _ s₁ (mkF m 2 #[.val (.ref a), .val (.int (0 : Int32)), .unset, .unset, .unset] [])
  refine Go.st (fun _ => XS.aloadN X0.here hx rfl (hb hby d3_2) rfl rfl) ?_
  show Go p e below s _ _ _ s₁ (mkF m 3 #[.val (.ref a), .val (.int (0 : Int32)), .unset, .unset, .unset] [(.ref a)])
  obtain ⟨T_1, X_1, e_1, st_1⟩ := getF X0 hx hZ hown (host := "") (Or.inl (hw _ (List.mem_of_getElem? (i := 18) rfl))) Via.refl e0 F_size_a (g := (mkF m 3 #[.val (.ref a), .val (.int (0 : Int32)), .unset, .unset, .unset] [(.ref a)])) rfl rfl (hb hby d3_3)
  refine Go.st st_1 ?_
  show Go p e below s _ _ _ T_1 (mkF m 6 #[.val (.ref a), .val (.int (0 : Int32)), .unset, .unset, .unset] [(.int (0 : Int32))])
  refine Go.st (fun _ => XS.iconst X_1.here hx rfl (hb hby d3_6)) ?_
  show Go p e below s _ _ _ T_1 (mkF m 7 #[.val (.ref a), .val (.int (0 : Int32)), .unset, .unset, .unset] [(.int (1 : Int32)), (.int (0 : Int32))])
  refine Go.st (fun _ => XS.isub X_1.here hx rfl (hb hby d3_7) rfl) ?_
  show Go p e below s _ _ _ T_1 (mkF m 8 #[.val (.ref a), .val (.int (0 : Int32)), .unset, .unset, .unset] [(.int ((0 : Int32) - (1 : Int32)))])
  rw [show ((0 : Int32) - (1 : Int32)) = (-1 : Int32) from by decide]
  show Go p e below s _ _ _ T_1 (mkF m 8 #[.val (.ref a), .val (.int (0 : Int32)), .unset, .unset, .unset] [(.int (-1 : Int32))])
  refine Go.st (fun _ => XS.istoreN X_1.here hx rfl (hb hby d3_8) rfl (l' := #[.val (.ref a), .val (.int (0 : Int32)), .val (.int (-1 : Int32)), .unset, .unset]) rfl) ?_
  show Go p e below s _ _ _ T_1 (mkF m 9 #[.val (.ref a), .val (.int (0 : Int32)), .val (.int (-1 : Int32)), .unset, .unset] [])
  refine Go.st (fun _ => XS.iloadN X_1.here hx rfl (hb hby d3_9) rfl) ?_
  show Go p e below s _ _ _ T_1 (mkF m 10 #[.val (.ref a), .val (.int (0 : Int32)), .val (.int (-1 : Int32)), .unset, .unset] [(.int (0 : Int32))])
  refine Go.st (fun _ => XS.iloadN X_1.here hx rfl (hb hby d3_10) rfl) ?_
  show Go p e below s _ _ _ T_1 (mkF m 11 #[.val (.ref a), .val (.int (0 : Int32)), .val (.int (-1 : Int32)), .unset, .unset] [(.int (-1 : Int32)), (.int (0 : Int32))])
  refine Go.st (fun _ => XS.icmpYes X_1.here hx rfl (pc0 := 11) (pc' := 49) rfl (hb hby d3_11) rfl (flt (by decide : ¬ ((0 : Int32) < (-1 : Int32)))).2.1 (by decide) (by decide)) ?_
  show Go p e below s _ _ _ T_1 (mkF m 49 #[.val (.ref a), .val (.int (0 : Int32)), .val (.int (-1 : Int32)), .unset, .unset] [])
  exact Go.ret0 X_1 hx hlk Bd.returns (hb hby d3_49) (by rw [e_1]; exact ⟨rfl, N0, (Keep.refl h0 [t]), V_t⟩) (by decide) (by decide)
theorem ef_rmR1 (m : MethodId) (a : Addr) : entryFrame m #[(.ref a)] 5 = mkF m 0 #[.val (.ref a), .unset, .unset, .unset, .unset] [] := by first | (simp [entryFrame, mkF, argsToLocals, Value.category]; done) | rfl
def QrmR1 (Z : State) (a : Addr) (t : Addr) (kt : ClassId) (y0 : Int64) (y1 : Int64) (y2 : Int64) (y3 : Int64) (y4 : Int64) (y5 : Int64) (y6 : Int64) (y7 : Int64) (h0 : Heap) (n0 : Nat) (rV : Option Value) (hE : Heap) (LE : List Loc) : Prop := rV = none ∧ Fr n0 LE ∧ Keep h0 hE [t] ∧ Arv Z hE t kt .long (8 : Int32) [(.long y0), (.long y1), (.long y2), (.long y3), (.long y4), (.long y5), (.long y6), (.long y7)] (.long (0 : Int64))
set_option maxRecDepth 65536 in
set_option maxHeartbeats 40000000 in
theorem rmR1 (l : Launch) (Z : State) (a0 : Array Value) (hw : ∀ d ∈ tables_1, d.before a0 Z = true) (ws : List Jvm.Cond) (a : Addr) (t : Addr) (kt : ClassId) (y0 : Int64) (y1 : Int64) (y2 : Int64) (y3 : Int64) (y4 : Int64) (y5 : Int64) (y6 : Int64) (y7 : Int64) (h0 : Heap) (n0 : Nat) (Z0 : n0 ≤ h0.size) (F_nodes_a : Fld Z h0 a "com/example/moat/moat/xpath/Handles" "nodes" "[J" (.ref t)) (F_size_a : Fld Z h0 a "com/example/moat/moat/xpath/Handles" "size" "I" (.int (1 : Int32))) (V_t : Arv Z h0 t kt .long (8 : Int32) [(.long y0), (.long y1), (.long y2), (.long y3), (.long y4), (.long y5), (.long y6), (.long y7)] (.long (0 : Int64))) (g_t : n0 ≤ t) (ne_a_t : a ≠ t) :
    MetFree l (⟨"com/example/moat/moat/xpath/Handles", "reverse", "()V"⟩ : MethodName) (head1 (Jvm.Cond.code (⟨"com/example/moat/moat/xpath/Handles", "reverse", "()V"⟩ : MethodName) prog_52_method_7_code 5 none :: ws) ({ frames := 0, cells := 0, slots := 0, locals := 0 } : Room)) (fun aA UA => aA = #[(.ref a)] ∧ Z.Warmed39 UA.vm ∧ UA.heap = h0) (fun _ _ _ _ _ => True) (fun _ UA oA UB => ∃ rV LE, oA = .returned rV ∧ QrmR1 Z a t kt y0 y1 y2 y3 y4 y5 y6 y7 h0 n0 rV UB.heap LE ∧ FrameEnd UA oA UB LE ({ frames := 0, cells := 0, slots := 0, locals := 0 } : Room).cells ({ frames := 0, cells := 0, slots := 0, locals := 0 } : Room).slots) := by
  refine MetFree.of_bodySF (plainFor_of_name pn_0) hisR ?_
  intro p e s m args below meth c s₁ Bd hml0 hP hK
  obtain ⟨rfl, hZ, hh⟩ := hP
  have hx := Bd.exec
  have hby := Bd.bytes
  have hml : c.maxLocals = 5 := hml0
  have hown : s.vm.findClass "com/example/moat/moat/xpath/Handles" = some m.cls := findClass_of_methodNamed Bd.named
  have hnm := (name_of_methodNamed Bd.named Bd.method).1
  have hlk := Bd.notSynchronized
  have X0 : Stand p l e ({ frames := 0, cells := 0, slots := 0, locals := 0 } : Room) s m #[(.ref a)] below meth c s₁ [] 0 0 := Stand.of_body Bd
  have e0 : s₁.heap = h0 := by rw [← hh, Bd.state]; rfl
  have N0 := Fr.nil n0
  show Go p e below s (QrmR1 Z a t kt y0 y1 y2 y3 y4 y5 y6 y7 h0 n0) ({ frames := 0, cells := 0, slots := 0, locals := 0 } : Room).cells ({ frames := 0, cells := 0, slots := 0, locals := 0 } : Room).slots s₁ (entryFrame m #[(.ref a)] 5)
  refine Go.eq (ef_rmR1 m a) ?_
  show Go p e below s _ _ _ s₁ (mkF m 0 #[.val (.ref a), .unset, .unset, .unset, .unset] [])
  refine Go.st (fun _ => XS.iconst X0.here hx rfl (hb hby d3_0)) ?_
  show Go p e below s _ _ _ s₁ (mkF m 1 #[.val (.ref a), .unset, .unset, .unset, .unset] [(.int (0 : Int32))])
  refine Go.st (fun _ => XS.istoreN X0.here hx rfl (hb hby d3_1) rfl (l' := #[.val (.ref a), .val (.int (0 : Int32)), .unset, .unset, .unset]) rfl) ?_
  show Go p e below s _ _ _ s₁ (mkF m 2 #[.val (.ref a), .val (.int (0 : Int32)), .unset, .unset, .unset] [])
  refine Go.st (fun _ => XS.aloadN X0.here hx rfl (hb hby d3_2) rfl rfl) ?_
  show Go p e below s _ _ _ s₁ (mkF m 3 #[.val (.ref a), .val (.int (0 : Int32)), .unset, .unset, .unset] [(.ref a)])
  obtain ⟨T_1, X_1, e_1, st_1⟩ := getF X0 hx hZ hown (host := "") (Or.inl (hw _ (List.mem_of_getElem? (i := 18) rfl))) Via.refl e0 F_size_a (g := (mkF m 3 #[.val (.ref a), .val (.int (0 : Int32)), .unset, .unset, .unset] [(.ref a)])) rfl rfl (hb hby d3_3)
  refine Go.st st_1 ?_
  show Go p e below s _ _ _ T_1 (mkF m 6 #[.val (.ref a), .val (.int (0 : Int32)), .unset, .unset, .unset] [(.int (1 : Int32))])
  refine Go.st (fun _ => XS.iconst X_1.here hx rfl (hb hby d3_6)) ?_
  show Go p e below s _ _ _ T_1 (mkF m 7 #[.val (.ref a), .val (.int (0 : Int32)), .unset, .unset, .unset] [(.int (1 : Int32)), (.int (1 : Int32))])
  refine Go.st (fun _ => XS.isub X_1.here hx rfl (hb hby d3_7) rfl) ?_
  show Go p e below s _ _ _ T_1 (mkF m 8 #[.val (.ref a), .val (.int (0 : Int32)), .unset, .unset, .unset] [(.int ((1 : Int32) - (1 : Int32)))])
  rw [show ((1 : Int32) - (1 : Int32)) = (0 : Int32) from by decide]
  show Go p e below s _ _ _ T_1 (mkF m 8 #[.val (.ref a), .val (.int (0 : Int32)), .unset, .unset, .unset] [(.int (0 : Int32))])
  refine Go.st (fun _ => XS.istoreN X_1.here hx rfl (hb hby d3_8) rfl (l' := #[.val (.ref a), .val (.int (0 : Int32)), .val (.int (0 : Int32)), .unset, .unset]) rfl) ?_
  show Go p e below s _ _ _ T_1 (mkF m 9 #[.val (.ref a), .val (.int (0 : Int32)), .val (.int (0 : Int32)), .unset, .unset] [])
  refine Go.st (fun _ => XS.iloadN X_1.here hx rfl (hb hby d3_9) rfl) ?_
  show Go p e below s _ _ _ T_1 (mkF m 10 #[.val (.ref a), .val (.int (0 : Int32)), .val (.int (0 : Int32)), .unset, .unset] [(.int (0 : Int32))])
  refine Go.st (fun _ => XS.iloadN X_1.here hx rfl (hb hby d3_10) rfl) ?_
  show Go p e below s _ _ _ T_1 (mkF m 11 #[.val (.ref a), .val (.int (0 : Int32)), .val (.int (0 : Int32)), .unset, .unset] [(.int (0 : Int32)), (.int (0 : Int32))])
  refine Go.st (fun _ => XS.icmpYes X_1.here hx rfl (pc0 := 11) (pc' := 49) rfl (hb hby d3_11) rfl (flt (by decide : ¬ ((0 : Int32) < (0 : Int32)))).2.1 (by decide) (by decide)) ?_
  show Go p e below s _ _ _ T_1 (mkF m 49 #[.val (.ref a), .val (.int (0 : Int32)), .val (.int (0 : Int32)), .unset, .unset] [])
  exact Go.ret0 X_1 hx hlk Bd.returns (hb hby d3_49) (by rw [e_1]; exact ⟨rfl, N0, (Keep.refl h0 [t]), V_t⟩) (by decide) (by decide)
theorem d3_14 : decode prog_52_method_7_code 14 = .ok (.aload_n 0, 1) := by decide +kernel
theorem d3_15 : decode prog_52_method_7_code 15 = .ok (.getfield 7, 3) := by decide +kernel
theorem d3_18 : decode prog_52_method_7_code 18 = .ok (.iload_n 1, 1) := by decide +kernel
theorem d3_19 : decode prog_52_method_7_code 19 = .ok (.laload, 1) := by decide +kernel
theorem d3_20 : decode prog_52_method_7_code 20 = .ok (.lstore_n 3, 1) := by decide +kernel
theorem d3_21 : decode prog_52_method_7_code 21 = .ok (.aload_n 0, 1) := by decide +kernel
theorem d3_22 : decode prog_52_method_7_code 22 = .ok (.getfield 7, 3) := by decide +kernel
theorem d3_25 : decode prog_52_method_7_code 25 = .ok (.iload_n 1, 1) := by decide +kernel
theorem d3_26 : decode prog_52_method_7_code 26 = .ok (.aload_n 0, 1) := by decide +kernel
theorem d3_27 : decode prog_52_method_7_code 27 = .ok (.getfield 7, 3) := by decide +kernel
theorem d3_30 : decode prog_52_method_7_code 30 = .ok (.iload_n 2, 1) := by decide +kernel
theorem d3_31 : decode prog_52_method_7_code 31 = .ok (.laload, 1) := by decide +kernel
theorem d3_32 : decode prog_52_method_7_code 32 = .ok (.lastore, 1) := by decide +kernel
theorem d3_33 : decode prog_52_method_7_code 33 = .ok (.aload_n 0, 1) := by decide +kernel
theorem d3_34 : decode prog_52_method_7_code 34 = .ok (.getfield 7, 3) := by decide +kernel
theorem d3_37 : decode prog_52_method_7_code 37 = .ok (.iload_n 2, 1) := by decide +kernel
theorem d3_38 : decode prog_52_method_7_code 38 = .ok (.lload_n 3, 1) := by decide +kernel
theorem d3_39 : decode prog_52_method_7_code 39 = .ok (.lastore, 1) := by decide +kernel
theorem d3_40 : decode prog_52_method_7_code 40 = .ok (.iinc 1 1, 3) := by decide +kernel
theorem d3_43 : decode prog_52_method_7_code 43 = .ok (.iinc 2 (-1), 3) := by decide +kernel
theorem d3_46 : decode prog_52_method_7_code 46 = .ok (.goto (-37), 3) := by decide +kernel
theorem ef_rmR2 (m : MethodId) (a : Addr) : entryFrame m #[(.ref a)] 5 = mkF m 0 #[.val (.ref a), .unset, .unset, .unset, .unset] [] := by first | (simp [entryFrame, mkF, argsToLocals, Value.category]; done) | rfl
def QrmR2 (Z : State) (a : Addr) (t : Addr) (kt : ClassId) (y0 : Int64) (y1 : Int64) (y2 : Int64) (y3 : Int64) (y4 : Int64) (y5 : Int64) (y6 : Int64) (y7 : Int64) (h0 : Heap) (n0 : Nat) (rV : Option Value) (hE : Heap) (LE : List Loc) : Prop := rV = none ∧ Fr n0 LE ∧ Keep h0 hE [t] ∧ Arv Z hE t kt .long (8 : Int32) [(.long y1), (.long y0), (.long y2), (.long y3), (.long y4), (.long y5), (.long y6), (.long y7)] (.long (0 : Int64))
set_option maxRecDepth 65536 in
set_option maxHeartbeats 40000000 in
theorem rmR2 (l : Launch) (Z : State) (a0 : Array Value) (hw : ∀ d ∈ tables_1, d.before a0 Z = true) (ws : List Jvm.Cond) (a : Addr) (t : Addr) (kt : ClassId) (y0 : Int64) (y1 : Int64) (y2 : Int64) (y3 : Int64) (y4 : Int64) (y5 : Int64) (y6 : Int64) (y7 : Int64) (h0 : Heap) (n0 : Nat) (Z0 : n0 ≤ h0.size) (F_nodes_a : Fld Z h0 a "com/example/moat/moat/xpath/Handles" "nodes" "[J" (.ref t)) (F_size_a : Fld Z h0 a "com/example/moat/moat/xpath/Handles" "size" "I" (.int (2 : Int32))) (V_t : Arv Z h0 t kt .long (8 : Int32) [(.long y0), (.long y1), (.long y2), (.long y3), (.long y4), (.long y5), (.long y6), (.long y7)] (.long (0 : Int64))) (g_t : n0 ≤ t) (ne_a_t : a ≠ t) :
    MetFree l (⟨"com/example/moat/moat/xpath/Handles", "reverse", "()V"⟩ : MethodName) (head1 (Jvm.Cond.code (⟨"com/example/moat/moat/xpath/Handles", "reverse", "()V"⟩ : MethodName) prog_52_method_7_code 5 none :: ws) ({ frames := 0, cells := 0, slots := 0, locals := 0 } : Room)) (fun aA UA => aA = #[(.ref a)] ∧ Z.Warmed39 UA.vm ∧ UA.heap = h0) (fun _ _ _ _ _ => True) (fun _ UA oA UB => ∃ rV LE, oA = .returned rV ∧ QrmR2 Z a t kt y0 y1 y2 y3 y4 y5 y6 y7 h0 n0 rV UB.heap LE ∧ FrameEnd UA oA UB LE ({ frames := 0, cells := 0, slots := 0, locals := 0 } : Room).cells ({ frames := 0, cells := 0, slots := 0, locals := 0 } : Room).slots) := by
  refine MetFree.of_bodySF (plainFor_of_name pn_0) hisR ?_
  intro p e s m args below meth c s₁ Bd hml0 hP hK
  obtain ⟨rfl, hZ, hh⟩ := hP
  have hx := Bd.exec
  have hby := Bd.bytes
  have hml : c.maxLocals = 5 := hml0
  have hown : s.vm.findClass "com/example/moat/moat/xpath/Handles" = some m.cls := findClass_of_methodNamed Bd.named
  have hnm := (name_of_methodNamed Bd.named Bd.method).1
  have hlk := Bd.notSynchronized
  have X0 : Stand p l e ({ frames := 0, cells := 0, slots := 0, locals := 0 } : Room) s m #[(.ref a)] below meth c s₁ [] 0 0 := Stand.of_body Bd
  have e0 : s₁.heap = h0 := by rw [← hh, Bd.state]; rfl
  have N0 := Fr.nil n0
  show Go p e below s (QrmR2 Z a t kt y0 y1 y2 y3 y4 y5 y6 y7 h0 n0) ({ frames := 0, cells := 0, slots := 0, locals := 0 } : Room).cells ({ frames := 0, cells := 0, slots := 0, locals := 0 } : Room).slots s₁ (entryFrame m #[(.ref a)] 5)
  refine Go.eq (ef_rmR2 m a) ?_
  show Go p e below s _ _ _ s₁ (mkF m 0 #[.val (.ref a), .unset, .unset, .unset, .unset] [])
  refine Go.st (fun _ => XS.iconst X0.here hx rfl (hb hby d3_0)) ?_
  show Go p e below s _ _ _ s₁ (mkF m 1 #[.val (.ref a), .unset, .unset, .unset, .unset] [(.int (0 : Int32))])
  refine Go.st (fun _ => XS.istoreN X0.here hx rfl (hb hby d3_1) rfl (l' := #[.val (.ref a), .val (.int (0 : Int32)), .unset, .unset, .unset]) rfl) ?_
  show Go p e below s _ _ _ s₁ (mkF m 2 #[.val (.ref a), .val (.int (0 : Int32)), .unset, .unset, .unset] [])
  refine Go.st (fun _ => XS.aloadN X0.here hx rfl (hb hby d3_2) rfl rfl) ?_
  show Go p e below s _ _ _ s₁ (mkF m 3 #[.val (.ref a), .val (.int (0 : Int32)), .unset, .unset, .unset] [(.ref a)])
  obtain ⟨T_1, X_1, e_1, st_1⟩ := getF X0 hx hZ hown (host := "") (Or.inl (hw _ (List.mem_of_getElem? (i := 18) rfl))) Via.refl e0 F_size_a (g := (mkF m 3 #[.val (.ref a), .val (.int (0 : Int32)), .unset, .unset, .unset] [(.ref a)])) rfl rfl (hb hby d3_3)
  refine Go.st st_1 ?_
  show Go p e below s _ _ _ T_1 (mkF m 6 #[.val (.ref a), .val (.int (0 : Int32)), .unset, .unset, .unset] [(.int (2 : Int32))])
  refine Go.st (fun _ => XS.iconst X_1.here hx rfl (hb hby d3_6)) ?_
  show Go p e below s _ _ _ T_1 (mkF m 7 #[.val (.ref a), .val (.int (0 : Int32)), .unset, .unset, .unset] [(.int (1 : Int32)), (.int (2 : Int32))])
  refine Go.st (fun _ => XS.isub X_1.here hx rfl (hb hby d3_7) rfl) ?_
  show Go p e below s _ _ _ T_1 (mkF m 8 #[.val (.ref a), .val (.int (0 : Int32)), .unset, .unset, .unset] [(.int ((2 : Int32) - (1 : Int32)))])
  rw [show ((2 : Int32) - (1 : Int32)) = (1 : Int32) from by decide]
  show Go p e below s _ _ _ T_1 (mkF m 8 #[.val (.ref a), .val (.int (0 : Int32)), .unset, .unset, .unset] [(.int (1 : Int32))])
  refine Go.st (fun _ => XS.istoreN X_1.here hx rfl (hb hby d3_8) rfl (l' := #[.val (.ref a), .val (.int (0 : Int32)), .val (.int (1 : Int32)), .unset, .unset]) rfl) ?_
  show Go p e below s _ _ _ T_1 (mkF m 9 #[.val (.ref a), .val (.int (0 : Int32)), .val (.int (1 : Int32)), .unset, .unset] [])
  refine Go.st (fun _ => XS.iloadN X_1.here hx rfl (hb hby d3_9) rfl) ?_
  show Go p e below s _ _ _ T_1 (mkF m 10 #[.val (.ref a), .val (.int (0 : Int32)), .val (.int (1 : Int32)), .unset, .unset] [(.int (0 : Int32))])
  refine Go.st (fun _ => XS.iloadN X_1.here hx rfl (hb hby d3_10) rfl) ?_
  show Go p e below s _ _ _ T_1 (mkF m 11 #[.val (.ref a), .val (.int (0 : Int32)), .val (.int (1 : Int32)), .unset, .unset] [(.int (1 : Int32)), (.int (0 : Int32))])
  refine Go.st (fun _ => XS.icmpNo X_1.here hx rfl (hb hby d3_11) rfl (tlt (by decide : (0 : Int32) < (1 : Int32))).2.1) ?_
  show Go p e below s _ _ _ T_1 (mkF m 14 #[.val (.ref a), .val (.int (0 : Int32)), .val (.int (1 : Int32)), .unset, .unset] [])
  refine Go.st (fun _ => XS.aloadN X_1.here hx rfl (hb hby d3_14) rfl rfl) ?_
  show Go p e below s _ _ _ T_1 (mkF m 15 #[.val (.ref a), .val (.int (0 : Int32)), .val (.int (1 : Int32)), .unset, .unset] [(.ref a)])
  obtain ⟨T_2, X_2, e_2, st_2⟩ := getF X_1 hx hZ hown (host := "") (Or.inl (hw _ (List.mem_of_getElem? (i := 11) rfl))) Via.refl e_1 F_nodes_a (g := (mkF m 15 #[.val (.ref a), .val (.int (0 : Int32)), .val (.int (1 : Int32)), .unset, .unset] [(.ref a)])) rfl rfl (hb hby d3_15)
  refine Go.st st_2 ?_
  show Go p e below s _ _ _ T_2 (mkF m 18 #[.val (.ref a), .val (.int (0 : Int32)), .val (.int (1 : Int32)), .unset, .unset] [(.ref t)])
  refine Go.st (fun _ => XS.iloadN X_2.here hx rfl (hb hby d3_18) rfl) ?_
  show Go p e below s _ _ _ T_2 (mkF m 19 #[.val (.ref a), .val (.int (0 : Int32)), .val (.int (1 : Int32)), .unset, .unset] [(.int (0 : Int32)), (.ref t)])
  obtain ⟨cl_3, Ar_3, q_3, S_3, M_3, H_3, G_3⟩ := id V_t
  have hin_3 : ¬ ((0 : Int32) < 0 ∨ cl_3.slots.size ≤ ((0 : Int32)).toNatClampNeg) := inb_of S_3 ⟨by decide, by decide⟩
  have hat_3 : cl_3.slots[((0 : Int32)).toNatClampNeg]? = some (.long y0) := H_3.at hin_3 rfl
  refine Go.st (fun tG => X_2.laload hx (j := (0 : Int32)) (v := (.long y0)) (by rw [e_2]; exact Ar_3.1) (State.isArrayOf_alike hZ.alike Ar_3.2.1) Ar_3.2.2 hin_3 hat_3 (g := (mkF m 19 #[.val (.ref a), .val (.int (0 : Int32)), .val (.int (1 : Int32)), .unset, .unset] [(.int (0 : Int32)), (.ref t)])) rfl rfl (hb hby d3_19) tG) ?_
  show Go p e below s _ _ _ T_2 (mkF m 20 #[.val (.ref a), .val (.int (0 : Int32)), .val (.int (1 : Int32)), .unset, .unset] [(.long y0)])
  refine Go.st (fun _ => XS.lstoreN X_2.here hx rfl (hb hby d3_20) rfl (l' := #[.val (.ref a), .val (.int (0 : Int32)), .val (.int (1 : Int32)), .val (.long y0), .second]) rfl) ?_
  show Go p e below s _ _ _ T_2 (mkF m 21 #[.val (.ref a), .val (.int (0 : Int32)), .val (.int (1 : Int32)), .val (.long y0), .second] [])
  refine Go.st (fun _ => XS.aloadN X_2.here hx rfl (hb hby d3_21) rfl rfl) ?_
  show Go p e below s _ _ _ T_2 (mkF m 22 #[.val (.ref a), .val (.int (0 : Int32)), .val (.int (1 : Int32)), .val (.long y0), .second] [(.ref a)])
  obtain ⟨T_4, X_4, e_4, st_4⟩ := getF X_2 hx hZ hown (host := "") (Or.inl (hw _ (List.mem_of_getElem? (i := 11) rfl))) Via.refl e_2 F_nodes_a (g := (mkF m 22 #[.val (.ref a), .val (.int (0 : Int32)), .val (.int (1 : Int32)), .val (.long y0), .second] [(.ref a)])) rfl rfl (hb hby d3_22)
  refine Go.st st_4 ?_
  show Go p e below s _ _ _ T_4 (mkF m 25 #[.val (.ref a), .val (.int (0 : Int32)), .val (.int (1 : Int32)), .val (.long y0), .second] [(.ref t)])
  refine Go.st (fun _ => XS.iloadN X_4.here hx rfl (hb hby d3_25) rfl) ?_
  show Go p e below s _ _ _ T_4 (mkF m 26 #[.val (.ref a), .val (.int (0 : Int32)), .val (.int (1 : Int32)), .val (.long y0), .second] [(.int (0 : Int32)), (.ref t)])
  refine Go.st (fun _ => XS.aloadN X_4.here hx rfl (hb hby d3_26) rfl rfl) ?_
  show Go p e below s _ _ _ T_4 (mkF m 27 #[.val (.ref a), .val (.int (0 : Int32)), .val (.int (1 : Int32)), .val (.long y0), .second] [(.ref a), (.int (0 : Int32)), (.ref t)])
  obtain ⟨T_5, X_5, e_5, st_5⟩ := getF X_4 hx hZ hown (host := "") (Or.inl (hw _ (List.mem_of_getElem? (i := 11) rfl))) Via.refl e_4 F_nodes_a (g := (mkF m 27 #[.val (.ref a), .val (.int (0 : Int32)), .val (.int (1 : Int32)), .val (.long y0), .second] [(.ref a), (.int (0 : Int32)), (.ref t)])) rfl rfl (hb hby d3_27)
  refine Go.st st_5 ?_
  show Go p e below s _ _ _ T_5 (mkF m 30 #[.val (.ref a), .val (.int (0 : Int32)), .val (.int (1 : Int32)), .val (.long y0), .second] [(.ref t), (.int (0 : Int32)), (.ref t)])
  refine Go.st (fun _ => XS.iloadN X_5.here hx rfl (hb hby d3_30) rfl) ?_
  show Go p e below s _ _ _ T_5 (mkF m 31 #[.val (.ref a), .val (.int (0 : Int32)), .val (.int (1 : Int32)), .val (.long y0), .second] [(.int (1 : Int32)), (.ref t), (.int (0 : Int32)), (.ref t)])
  obtain ⟨cl_6, Ar_6, q_6, S_6, M_6, H_6, G_6⟩ := id V_t
  have hin_6 : ¬ ((1 : Int32) < 0 ∨ cl_6.slots.size ≤ ((1 : Int32)).toNatClampNeg) := inb_of S_6 ⟨by decide, by decide⟩
  have hat_6 : cl_6.slots[((1 : Int32)).toNatClampNeg]? = some (.long y1) := H_6.at hin_6 rfl
  refine Go.st (fun tG => X_5.laload hx (j := (1 : Int32)) (v := (.long y1)) (by rw [e_5]; exact Ar_6.1) (State.isArrayOf_alike hZ.alike Ar_6.2.1) Ar_6.2.2 hin_6 hat_6 (g := (mkF m 31 #[.val (.ref a), .val (.int (0 : Int32)), .val (.int (1 : Int32)), .val (.long y0), .second] [(.int (1 : Int32)), (.ref t), (.int (0 : Int32)), (.ref t)])) rfl rfl (hb hby d3_31) tG) ?_
  show Go p e below s _ _ _ T_5 (mkF m 32 #[.val (.ref a), .val (.int (0 : Int32)), .val (.int (1 : Int32)), .val (.long y0), .second] [(.long y1), (.int (0 : Int32)), (.ref t)])
  obtain ⟨cl_7, Ar_7, q_7, S_7, M_7, H_7, G_7⟩ := id V_t
  have hin_7 : ¬ ((0 : Int32) < 0 ∨ cl_7.slots.size ≤ ((0 : Int32)).toNatClampNeg) := inb_of S_7 ⟨by decide, by decide⟩
  obtain ⟨T_7, h_7, X_7, e_7, W_7, st_7⟩ := stJ X_5 hx hZ e_5 Ar_7 (j := (0 : Int32)) hin_7 (g := (mkF m 32 #[.val (.ref a), .val (.int (0 : Int32)), .val (.int (1 : Int32)), .val (.long y0), .second] [(.long y1), (.int (0 : Int32)), (.ref t)])) rfl rfl (hb hby d3_32)
  refine Go.st st_7 ?_
  have V_7 : Arv Z h_7 t kt .long (8 : Int32) [(.long y1), (.long y1), (.long y2), (.long y3), (.long y4), (.long y5), (.long y6), (.long y7)] (.long (0 : Int64)) := Arv.set Ar_7 q_7 S_7 M_7 H_7 G_7 rfl W_7 0 rfl (Nat.le_of_ble_eq_true rfl)
  have N_7 := Fr.snoc X_7 N0 g_t
  have K_7 : Keep h0 h_7 [t] := (Keep.refl h0 [t]).wr W_7 (Or.inl (List.mem_of_getElem? (i := 0) rfl))
  have z_7 : n0 ≤ h_7.size := Nat.le_trans Z0 (Nat.le_of_eq W_7.size.symm)
  show Go p e below s _ _ _ T_7 (mkF m 33 #[.val (.ref a), .val (.int (0 : Int32)), .val (.int (1 : Int32)), .val (.long y0), .second] [])
  refine Go.st (fun _ => XS.aloadN X_7.here hx rfl (hb hby d3_33) rfl rfl) ?_
  show Go p e below s _ _ _ T_7 (mkF m 34 #[.val (.ref a), .val (.int (0 : Int32)), .val (.int (1 : Int32)), .val (.long y0), .second] [(.ref a)])
  have f_8 := (F_nodes_a.other W_7 (Or.inl ne_a_t))
  obtain ⟨T_9, X_9, e_9, st_9⟩ := getF X_7 hx hZ hown (host := "") (Or.inl (hw _ (List.mem_of_getElem? (i := 11) rfl))) Via.refl e_7 f_8 (g := (mkF m 34 #[.val (.ref a), .val (.int (0 : Int32)), .val (.int (1 : Int32)), .val (.long y0), .second] [(.ref a)])) rfl rfl (hb hby d3_34)
  refine Go.st st_9 ?_
  show Go p e below s _ _ _ T_9 (mkF m 37 #[.val (.ref a), .val (.int (0 : Int32)), .val (.int (1 : Int32)), .val (.long y0), .second] [(.ref t)])
  refine Go.st (fun _ => XS.iloadN X_9.here hx rfl (hb hby d3_37) rfl) ?_
  show Go p e below s _ _ _ T_9 (mkF m 38 #[.val (.ref a), .val (.int (0 : Int32)), .val (.int (1 : Int32)), .val (.long y0), .second] [(.int (1 : Int32)), (.ref t)])
  refine Go.st (fun _ => XS.lloadN X_9.here hx rfl (hb hby d3_38) rfl) ?_
  show Go p e below s _ _ _ T_9 (mkF m 39 #[.val (.ref a), .val (.int (0 : Int32)), .val (.int (1 : Int32)), .val (.long y0), .second] [(.long y0), (.int (1 : Int32)), (.ref t)])
  obtain ⟨cl_10, Ar_10, q_10, S_10, M_10, H_10, G_10⟩ := id V_7
  have hin_10 : ¬ ((1 : Int32) < 0 ∨ cl_10.slots.size ≤ ((1 : Int32)).toNatClampNeg) := inb_of S_10 ⟨by decide, by decide⟩
  obtain ⟨T_10, h_10, X_10, e_10, W_10, st_10⟩ := stJ X_9 hx hZ e_9 Ar_10 (j := (1 : Int32)) hin_10 (g := (mkF m 39 #[.val (.ref a), .val (.int (0 : Int32)), .val (.int (1 : Int32)), .val (.long y0), .second] [(.long y0), (.int (1 : Int32)), (.ref t)])) rfl rfl (hb hby d3_39)
  refine Go.st st_10 ?_
  have V_10 : Arv Z h_10 t kt .long (8 : Int32) [(.long y1), (.long y0), (.long y2), (.long y3), (.long y4), (.long y5), (.long y6), (.long y7)] (.long (0 : Int64)) := Arv.set Ar_10 q_10 S_10 M_10 H_10 G_10 rfl W_10 1 rfl (Nat.le_of_ble_eq_true rfl)
  have N_10 := Fr.snoc X_10 N_7 g_t
  have K_10 : Keep h0 h_10 [t] := K_7.wr W_10 (Or.inl (List.mem_of_getElem? (i := 0) rfl))
  have z_10 : n0 ≤ h_10.size := Nat.le_trans z_7 (Nat.le_of_eq W_10.size.symm)
  show Go p e below s _ _ _ T_10 (mkF m 40 #[.val (.ref a), .val (.int (0 : Int32)), .val (.int (1 : Int32)), .val (.long y0), .second] [])
  refine Go.st (fun _ => XS.iinc X_10.here hx rfl (hb hby d3_40) rfl (l' := #[.val (.ref a), .val (.int ((0 : Int32) + (1 : Int32))), .val (.int (1 : Int32)), .val (.long y0), .second]) rfl) ?_
  show Go p e below s _ _ _ T_10 (mkF m 43 #[.val (.ref a), .val (.int ((0 : Int32) + (1 : Int32))), .val (.int (1 : Int32)), .val (.long y0), .second] [])
  rw [show ((0 : Int32) + (1 : Int32)) = (1 : Int32) from by decide]
  show Go p e below s _ _ _ T_10 (mkF m 43 #[.val (.ref a), .val (.int (1 : Int32)), .val (.int (1 : Int32)), .val (.long y0), .second] [])
  refine Go.st (fun _ => XS.iinc X_10.here hx rfl (hb hby d3_43) rfl (l' := #[.val (.ref a), .val (.int (1 : Int32)), .val (.int ((1 : Int32) + (-1 : Int32))), .val (.long y0), .second]) rfl) ?_
  show Go p e below s _ _ _ T_10 (mkF m 46 #[.val (.ref a), .val (.int (1 : Int32)), .val (.int ((1 : Int32) + (-1 : Int32))), .val (.long y0), .second] [])
  rw [show ((1 : Int32) + (-1 : Int32)) = (0 : Int32) from by decide]
  show Go p e below s _ _ _ T_10 (mkF m 46 #[.val (.ref a), .val (.int (1 : Int32)), .val (.int (0 : Int32)), .val (.long y0), .second] [])
  refine Go.st (fun _ => XS.goto X_10.here hx rfl (pc0 := 46) (pc' := 9) rfl (hb hby d3_46) (by decide) (by decide)) ?_
  show Go p e below s _ _ _ T_10 (mkF m 9 #[.val (.ref a), .val (.int (1 : Int32)), .val (.int (0 : Int32)), .val (.long y0), .second] [])
  refine Go.st (fun _ => XS.iloadN X_10.here hx rfl (hb hby d3_9) rfl) ?_
  show Go p e below s _ _ _ T_10 (mkF m 10 #[.val (.ref a), .val (.int (1 : Int32)), .val (.int (0 : Int32)), .val (.long y0), .second] [(.int (1 : Int32))])
  refine Go.st (fun _ => XS.iloadN X_10.here hx rfl (hb hby d3_10) rfl) ?_
  show Go p e below s _ _ _ T_10 (mkF m 11 #[.val (.ref a), .val (.int (1 : Int32)), .val (.int (0 : Int32)), .val (.long y0), .second] [(.int (0 : Int32)), (.int (1 : Int32))])
  refine Go.st (fun _ => XS.icmpYes X_10.here hx rfl (pc0 := 11) (pc' := 49) rfl (hb hby d3_11) rfl (flt (by decide : ¬ ((1 : Int32) < (0 : Int32)))).2.1 (by decide) (by decide)) ?_
  show Go p e below s _ _ _ T_10 (mkF m 49 #[.val (.ref a), .val (.int (1 : Int32)), .val (.int (0 : Int32)), .val (.long y0), .second] [])
  exact Go.ret0 X_10 hx hlk Bd.returns (hb hby d3_49) (by rw [e_10]; exact ⟨rfl, N_10, K_10, V_10⟩) (by decide) (by decide)
theorem ef_rmR3 (m : MethodId) (a : Addr) : entryFrame m #[(.ref a)] 5 = mkF m 0 #[.val (.ref a), .unset, .unset, .unset, .unset] [] := by first | (simp [entryFrame, mkF, argsToLocals, Value.category]; done) | rfl
def QrmR3 (Z : State) (a : Addr) (t : Addr) (kt : ClassId) (y0 : Int64) (y1 : Int64) (y2 : Int64) (y3 : Int64) (y4 : Int64) (y5 : Int64) (y6 : Int64) (y7 : Int64) (h0 : Heap) (n0 : Nat) (rV : Option Value) (hE : Heap) (LE : List Loc) : Prop := rV = none ∧ Fr n0 LE ∧ Keep h0 hE [t] ∧ Arv Z hE t kt .long (8 : Int32) [(.long y2), (.long y1), (.long y0), (.long y3), (.long y4), (.long y5), (.long y6), (.long y7)] (.long (0 : Int64))
set_option maxRecDepth 65536 in
set_option maxHeartbeats 40000000 in
theorem rmR3 (l : Launch) (Z : State) (a0 : Array Value) (hw : ∀ d ∈ tables_1, d.before a0 Z = true) (ws : List Jvm.Cond) (a : Addr) (t : Addr) (kt : ClassId) (y0 : Int64) (y1 : Int64) (y2 : Int64) (y3 : Int64) (y4 : Int64) (y5 : Int64) (y6 : Int64) (y7 : Int64) (h0 : Heap) (n0 : Nat) (Z0 : n0 ≤ h0.size) (F_nodes_a : Fld Z h0 a "com/example/moat/moat/xpath/Handles" "nodes" "[J" (.ref t)) (F_size_a : Fld Z h0 a "com/example/moat/moat/xpath/Handles" "size" "I" (.int (3 : Int32))) (V_t : Arv Z h0 t kt .long (8 : Int32) [(.long y0), (.long y1), (.long y2), (.long y3), (.long y4), (.long y5), (.long y6), (.long y7)] (.long (0 : Int64))) (g_t : n0 ≤ t) (ne_a_t : a ≠ t) :
    MetFree l (⟨"com/example/moat/moat/xpath/Handles", "reverse", "()V"⟩ : MethodName) (head1 (Jvm.Cond.code (⟨"com/example/moat/moat/xpath/Handles", "reverse", "()V"⟩ : MethodName) prog_52_method_7_code 5 none :: ws) ({ frames := 0, cells := 0, slots := 0, locals := 0 } : Room)) (fun aA UA => aA = #[(.ref a)] ∧ Z.Warmed39 UA.vm ∧ UA.heap = h0) (fun _ _ _ _ _ => True) (fun _ UA oA UB => ∃ rV LE, oA = .returned rV ∧ QrmR3 Z a t kt y0 y1 y2 y3 y4 y5 y6 y7 h0 n0 rV UB.heap LE ∧ FrameEnd UA oA UB LE ({ frames := 0, cells := 0, slots := 0, locals := 0 } : Room).cells ({ frames := 0, cells := 0, slots := 0, locals := 0 } : Room).slots) := by
  refine MetFree.of_bodySF (plainFor_of_name pn_0) hisR ?_
  intro p e s m args below meth c s₁ Bd hml0 hP hK
  obtain ⟨rfl, hZ, hh⟩ := hP
  have hx := Bd.exec
  have hby := Bd.bytes
  have hml : c.maxLocals = 5 := hml0
  have hown : s.vm.findClass "com/example/moat/moat/xpath/Handles" = some m.cls := findClass_of_methodNamed Bd.named
  have hnm := (name_of_methodNamed Bd.named Bd.method).1
  have hlk := Bd.notSynchronized
  have X0 : Stand p l e ({ frames := 0, cells := 0, slots := 0, locals := 0 } : Room) s m #[(.ref a)] below meth c s₁ [] 0 0 := Stand.of_body Bd
  have e0 : s₁.heap = h0 := by rw [← hh, Bd.state]; rfl
  have N0 := Fr.nil n0
  show Go p e below s (QrmR3 Z a t kt y0 y1 y2 y3 y4 y5 y6 y7 h0 n0) ({ frames := 0, cells := 0, slots := 0, locals := 0 } : Room).cells ({ frames := 0, cells := 0, slots := 0, locals := 0 } : Room).slots s₁ (entryFrame m #[(.ref a)] 5)
  refine Go.eq (ef_rmR3 m a) ?_
  show Go p e below s _ _ _ s₁ (mkF m 0 #[.val (.ref a), .unset, .unset, .unset, .unset] [])
  refine Go.st (fun _ => XS.iconst X0.here hx rfl (hb hby d3_0)) ?_
  show Go p e below s _ _ _ s₁ (mkF m 1 #[.val (.ref a), .unset, .unset, .unset, .unset] [(.int (0 : Int32))])
  refine Go.st (fun _ => XS.istoreN X0.here hx rfl (hb hby d3_1) rfl (l' := #[.val (.ref a), .val (.int (0 : Int32)), .unset, .unset, .unset]) rfl) ?_
  show Go p e below s _ _ _ s₁ (mkF m 2 #[.val (.ref a), .val (.int (0 : Int32)), .unset, .unset, .unset] [])
  refine Go.st (fun _ => XS.aloadN X0.here hx rfl (hb hby d3_2) rfl rfl) ?_
  show Go p e below s _ _ _ s₁ (mkF m 3 #[.val (.ref a), .val (.int (0 : Int32)), .unset, .unset, .unset] [(.ref a)])
  obtain ⟨T_1, X_1, e_1, st_1⟩ := getF X0 hx hZ hown (host := "") (Or.inl (hw _ (List.mem_of_getElem? (i := 18) rfl))) Via.refl e0 F_size_a (g := (mkF m 3 #[.val (.ref a), .val (.int (0 : Int32)), .unset, .unset, .unset] [(.ref a)])) rfl rfl (hb hby d3_3)
  refine Go.st st_1 ?_
  show Go p e below s _ _ _ T_1 (mkF m 6 #[.val (.ref a), .val (.int (0 : Int32)), .unset, .unset, .unset] [(.int (3 : Int32))])
  refine Go.st (fun _ => XS.iconst X_1.here hx rfl (hb hby d3_6)) ?_
  show Go p e below s _ _ _ T_1 (mkF m 7 #[.val (.ref a), .val (.int (0 : Int32)), .unset, .unset, .unset] [(.int (1 : Int32)), (.int (3 : Int32))])
  refine Go.st (fun _ => XS.isub X_1.here hx rfl (hb hby d3_7) rfl) ?_
  show Go p e below s _ _ _ T_1 (mkF m 8 #[.val (.ref a), .val (.int (0 : Int32)), .unset, .unset, .unset] [(.int ((3 : Int32) - (1 : Int32)))])
  rw [show ((3 : Int32) - (1 : Int32)) = (2 : Int32) from by decide]
  show Go p e below s _ _ _ T_1 (mkF m 8 #[.val (.ref a), .val (.int (0 : Int32)), .unset, .unset, .unset] [(.int (2 : Int32))])
  refine Go.st (fun _ => XS.istoreN X_1.here hx rfl (hb hby d3_8) rfl (l' := #[.val (.ref a), .val (.int (0 : Int32)), .val (.int (2 : Int32)), .unset, .unset]) rfl) ?_
  show Go p e below s _ _ _ T_1 (mkF m 9 #[.val (.ref a), .val (.int (0 : Int32)), .val (.int (2 : Int32)), .unset, .unset] [])
  refine Go.st (fun _ => XS.iloadN X_1.here hx rfl (hb hby d3_9) rfl) ?_
  show Go p e below s _ _ _ T_1 (mkF m 10 #[.val (.ref a), .val (.int (0 : Int32)), .val (.int (2 : Int32)), .unset, .unset] [(.int (0 : Int32))])
  refine Go.st (fun _ => XS.iloadN X_1.here hx rfl (hb hby d3_10) rfl) ?_
  show Go p e below s _ _ _ T_1 (mkF m 11 #[.val (.ref a), .val (.int (0 : Int32)), .val (.int (2 : Int32)), .unset, .unset] [(.int (2 : Int32)), (.int (0 : Int32))])
  refine Go.st (fun _ => XS.icmpNo X_1.here hx rfl (hb hby d3_11) rfl (tlt (by decide : (0 : Int32) < (2 : Int32))).2.1) ?_
  show Go p e below s _ _ _ T_1 (mkF m 14 #[.val (.ref a), .val (.int (0 : Int32)), .val (.int (2 : Int32)), .unset, .unset] [])
  refine Go.st (fun _ => XS.aloadN X_1.here hx rfl (hb hby d3_14) rfl rfl) ?_
  show Go p e below s _ _ _ T_1 (mkF m 15 #[.val (.ref a), .val (.int (0 : Int32)), .val (.int (2 : Int32)), .unset, .unset] [(.ref a)])
  obtain ⟨T_2, X_2, e_2, st_2⟩ := getF X_1 hx hZ hown (host := "") (Or.inl (hw _ (List.mem_of_getElem? (i := 11) rfl))) Via.refl e_1 F_nodes_a (g := (mkF m 15 #[.val (.ref a), .val (.int (0 : Int32)), .val (.int (2 : Int32)), .unset, .unset] [(.ref a)])) rfl rfl (hb hby d3_15)
  refine Go.st st_2 ?_
  show Go p e below s _ _ _ T_2 (mkF m 18 #[.val (.ref a), .val (.int (0 : Int32)), .val (.int (2 : Int32)), .unset, .unset] [(.ref t)])
  refine Go.st (fun _ => XS.iloadN X_2.here hx rfl (hb hby d3_18) rfl) ?_
  show Go p e below s _ _ _ T_2 (mkF m 19 #[.val (.ref a), .val (.int (0 : Int32)), .val (.int (2 : Int32)), .unset, .unset] [(.int (0 : Int32)), (.ref t)])
  obtain ⟨cl_3, Ar_3, q_3, S_3, M_3, H_3, G_3⟩ := id V_t
  have hin_3 : ¬ ((0 : Int32) < 0 ∨ cl_3.slots.size ≤ ((0 : Int32)).toNatClampNeg) := inb_of S_3 ⟨by decide, by decide⟩
  have hat_3 : cl_3.slots[((0 : Int32)).toNatClampNeg]? = some (.long y0) := H_3.at hin_3 rfl
  refine Go.st (fun tG => X_2.laload hx (j := (0 : Int32)) (v := (.long y0)) (by rw [e_2]; exact Ar_3.1) (State.isArrayOf_alike hZ.alike Ar_3.2.1) Ar_3.2.2 hin_3 hat_3 (g := (mkF m 19 #[.val (.ref a), .val (.int (0 : Int32)), .val (.int (2 : Int32)), .unset, .unset] [(.int (0 : Int32)), (.ref t)])) rfl rfl (hb hby d3_19) tG) ?_
  show Go p e below s _ _ _ T_2 (mkF m 20 #[.val (.ref a), .val (.int (0 : Int32)), .val (.int (2 : Int32)), .unset, .unset] [(.long y0)])
  refine Go.st (fun _ => XS.lstoreN X_2.here hx rfl (hb hby d3_20) rfl (l' := #[.val (.ref a), .val (.int (0 : Int32)), .val (.int (2 : Int32)), .val (.long y0), .second]) rfl) ?_
  show Go p e below s _ _ _ T_2 (mkF m 21 #[.val (.ref a), .val (.int (0 : Int32)), .val (.int (2 : Int32)), .val (.long y0), .second] [])
  refine Go.st (fun _ => XS.aloadN X_2.here hx rfl (hb hby d3_21) rfl rfl) ?_
  show Go p e below s _ _ _ T_2 (mkF m 22 #[.val (.ref a), .val (.int (0 : Int32)), .val (.int (2 : Int32)), .val (.long y0), .second] [(.ref a)])
  obtain ⟨T_4, X_4, e_4, st_4⟩ := getF X_2 hx hZ hown (host := "") (Or.inl (hw _ (List.mem_of_getElem? (i := 11) rfl))) Via.refl e_2 F_nodes_a (g := (mkF m 22 #[.val (.ref a), .val (.int (0 : Int32)), .val (.int (2 : Int32)), .val (.long y0), .second] [(.ref a)])) rfl rfl (hb hby d3_22)
  refine Go.st st_4 ?_
  show Go p e below s _ _ _ T_4 (mkF m 25 #[.val (.ref a), .val (.int (0 : Int32)), .val (.int (2 : Int32)), .val (.long y0), .second] [(.ref t)])
  refine Go.st (fun _ => XS.iloadN X_4.here hx rfl (hb hby d3_25) rfl) ?_
  show Go p e below s _ _ _ T_4 (mkF m 26 #[.val (.ref a), .val (.int (0 : Int32)), .val (.int (2 : Int32)), .val (.long y0), .second] [(.int (0 : Int32)), (.ref t)])
  refine Go.st (fun _ => XS.aloadN X_4.here hx rfl (hb hby d3_26) rfl rfl) ?_
  show Go p e below s _ _ _ T_4 (mkF m 27 #[.val (.ref a), .val (.int (0 : Int32)), .val (.int (2 : Int32)), .val (.long y0), .second] [(.ref a), (.int (0 : Int32)), (.ref t)])
  obtain ⟨T_5, X_5, e_5, st_5⟩ := getF X_4 hx hZ hown (host := "") (Or.inl (hw _ (List.mem_of_getElem? (i := 11) rfl))) Via.refl e_4 F_nodes_a (g := (mkF m 27 #[.val (.ref a), .val (.int (0 : Int32)), .val (.int (2 : Int32)), .val (.long y0), .second] [(.ref a), (.int (0 : Int32)), (.ref t)])) rfl rfl (hb hby d3_27)
  refine Go.st st_5 ?_
  show Go p e below s _ _ _ T_5 (mkF m 30 #[.val (.ref a), .val (.int (0 : Int32)), .val (.int (2 : Int32)), .val (.long y0), .second] [(.ref t), (.int (0 : Int32)), (.ref t)])
  refine Go.st (fun _ => XS.iloadN X_5.here hx rfl (hb hby d3_30) rfl) ?_
  show Go p e below s _ _ _ T_5 (mkF m 31 #[.val (.ref a), .val (.int (0 : Int32)), .val (.int (2 : Int32)), .val (.long y0), .second] [(.int (2 : Int32)), (.ref t), (.int (0 : Int32)), (.ref t)])
  obtain ⟨cl_6, Ar_6, q_6, S_6, M_6, H_6, G_6⟩ := id V_t
  have hin_6 : ¬ ((2 : Int32) < 0 ∨ cl_6.slots.size ≤ ((2 : Int32)).toNatClampNeg) := inb_of S_6 ⟨by decide, by decide⟩
  have hat_6 : cl_6.slots[((2 : Int32)).toNatClampNeg]? = some (.long y2) := H_6.at hin_6 rfl
  refine Go.st (fun tG => X_5.laload hx (j := (2 : Int32)) (v := (.long y2)) (by rw [e_5]; exact Ar_6.1) (State.isArrayOf_alike hZ.alike Ar_6.2.1) Ar_6.2.2 hin_6 hat_6 (g := (mkF m 31 #[.val (.ref a), .val (.int (0 : Int32)), .val (.int (2 : Int32)), .val (.long y0), .second] [(.int (2 : Int32)), (.ref t), (.int (0 : Int32)), (.ref t)])) rfl rfl (hb hby d3_31) tG) ?_
  show Go p e below s _ _ _ T_5 (mkF m 32 #[.val (.ref a), .val (.int (0 : Int32)), .val (.int (2 : Int32)), .val (.long y0), .second] [(.long y2), (.int (0 : Int32)), (.ref t)])
  obtain ⟨cl_7, Ar_7, q_7, S_7, M_7, H_7, G_7⟩ := id V_t
  have hin_7 : ¬ ((0 : Int32) < 0 ∨ cl_7.slots.size ≤ ((0 : Int32)).toNatClampNeg) := inb_of S_7 ⟨by decide, by decide⟩
  obtain ⟨T_7, h_7, X_7, e_7, W_7, st_7⟩ := stJ X_5 hx hZ e_5 Ar_7 (j := (0 : Int32)) hin_7 (g := (mkF m 32 #[.val (.ref a), .val (.int (0 : Int32)), .val (.int (2 : Int32)), .val (.long y0), .second] [(.long y2), (.int (0 : Int32)), (.ref t)])) rfl rfl (hb hby d3_32)
  refine Go.st st_7 ?_
  have V_7 : Arv Z h_7 t kt .long (8 : Int32) [(.long y2), (.long y1), (.long y2), (.long y3), (.long y4), (.long y5), (.long y6), (.long y7)] (.long (0 : Int64)) := Arv.set Ar_7 q_7 S_7 M_7 H_7 G_7 rfl W_7 0 rfl (Nat.le_of_ble_eq_true rfl)
  have N_7 := Fr.snoc X_7 N0 g_t
  have K_7 : Keep h0 h_7 [t] := (Keep.refl h0 [t]).wr W_7 (Or.inl (List.mem_of_getElem? (i := 0) rfl))
  have z_7 : n0 ≤ h_7.size := Nat.le_trans Z0 (Nat.le_of_eq W_7.size.symm)
  show Go p e below s _ _ _ T_7 (mkF m 33 #[.val (.ref a), .val (.int (0 : Int32)), .val (.int (2 : Int32)), .val (.long y0), .second] [])
  refine Go.st (fun _ => XS.aloadN X_7.here hx rfl (hb hby d3_33) rfl rfl) ?_
  show Go p e below s _ _ _ T_7 (mkF m 34 #[.val (.ref a), .val (.int (0 : Int32)), .val (.int (2 : Int32)), .val (.long y0), .second] [(.ref a)])
  have f_8 := (F_nodes_a.other W_7 (Or.inl ne_a_t))
  obtain ⟨T_9, X_9, e_9, st_9⟩ := getF X_7 hx hZ hown (host := "") (Or.inl (hw _ (List.mem_of_getElem? (i := 11) rfl))) Via.refl e_7 f_8 (g := (mkF m 34 #[.val (.ref a), .val (.int (0 : Int32)), .val (.int (2 : Int32)), .val (.long y0), .second] [(.ref a)])) rfl rfl (hb hby d3_34)
  refine Go.st st_9 ?_
  show Go p e below s _ _ _ T_9 (mkF m 37 #[.val (.ref a), .val (.int (0 : Int32)), .val (.int (2 : Int32)), .val (.long y0), .second] [(.ref t)])
  refine Go.st (fun _ => XS.iloadN X_9.here hx rfl (hb hby d3_37) rfl) ?_
  show Go p e below s _ _ _ T_9 (mkF m 38 #[.val (.ref a), .val (.int (0 : Int32)), .val (.int (2 : Int32)), .val (.long y0), .second] [(.int (2 : Int32)), (.ref t)])
  refine Go.st (fun _ => XS.lloadN X_9.here hx rfl (hb hby d3_38) rfl) ?_
  show Go p e below s _ _ _ T_9 (mkF m 39 #[.val (.ref a), .val (.int (0 : Int32)), .val (.int (2 : Int32)), .val (.long y0), .second] [(.long y0), (.int (2 : Int32)), (.ref t)])
  obtain ⟨cl_10, Ar_10, q_10, S_10, M_10, H_10, G_10⟩ := id V_7
  have hin_10 : ¬ ((2 : Int32) < 0 ∨ cl_10.slots.size ≤ ((2 : Int32)).toNatClampNeg) := inb_of S_10 ⟨by decide, by decide⟩
  obtain ⟨T_10, h_10, X_10, e_10, W_10, st_10⟩ := stJ X_9 hx hZ e_9 Ar_10 (j := (2 : Int32)) hin_10 (g := (mkF m 39 #[.val (.ref a), .val (.int (0 : Int32)), .val (.int (2 : Int32)), .val (.long y0), .second] [(.long y0), (.int (2 : Int32)), (.ref t)])) rfl rfl (hb hby d3_39)
  refine Go.st st_10 ?_
  have V_10 : Arv Z h_10 t kt .long (8 : Int32) [(.long y2), (.long y1), (.long y0), (.long y3), (.long y4), (.long y5), (.long y6), (.long y7)] (.long (0 : Int64)) := Arv.set Ar_10 q_10 S_10 M_10 H_10 G_10 rfl W_10 2 rfl (Nat.le_of_ble_eq_true rfl)
  have N_10 := Fr.snoc X_10 N_7 g_t
  have K_10 : Keep h0 h_10 [t] := K_7.wr W_10 (Or.inl (List.mem_of_getElem? (i := 0) rfl))
  have z_10 : n0 ≤ h_10.size := Nat.le_trans z_7 (Nat.le_of_eq W_10.size.symm)
  show Go p e below s _ _ _ T_10 (mkF m 40 #[.val (.ref a), .val (.int (0 : Int32)), .val (.int (2 : Int32)), .val (.long y0), .second] [])
  refine Go.st (fun _ => XS.iinc X_10.here hx rfl (hb hby d3_40) rfl (l' := #[.val (.ref a), .val (.int ((0 : Int32) + (1 : Int32))), .val (.int (2 : Int32)), .val (.long y0), .second]) rfl) ?_
  show Go p e below s _ _ _ T_10 (mkF m 43 #[.val (.ref a), .val (.int ((0 : Int32) + (1 : Int32))), .val (.int (2 : Int32)), .val (.long y0), .second] [])
  rw [show ((0 : Int32) + (1 : Int32)) = (1 : Int32) from by decide]
  show Go p e below s _ _ _ T_10 (mkF m 43 #[.val (.ref a), .val (.int (1 : Int32)), .val (.int (2 : Int32)), .val (.long y0), .second] [])
  refine Go.st (fun _ => XS.iinc X_10.here hx rfl (hb hby d3_43) rfl (l' := #[.val (.ref a), .val (.int (1 : Int32)), .val (.int ((2 : Int32) + (-1 : Int32))), .val (.long y0), .second]) rfl) ?_
  show Go p e below s _ _ _ T_10 (mkF m 46 #[.val (.ref a), .val (.int (1 : Int32)), .val (.int ((2 : Int32) + (-1 : Int32))), .val (.long y0), .second] [])
  rw [show ((2 : Int32) + (-1 : Int32)) = (1 : Int32) from by decide]
  show Go p e below s _ _ _ T_10 (mkF m 46 #[.val (.ref a), .val (.int (1 : Int32)), .val (.int (1 : Int32)), .val (.long y0), .second] [])
  refine Go.st (fun _ => XS.goto X_10.here hx rfl (pc0 := 46) (pc' := 9) rfl (hb hby d3_46) (by decide) (by decide)) ?_
  show Go p e below s _ _ _ T_10 (mkF m 9 #[.val (.ref a), .val (.int (1 : Int32)), .val (.int (1 : Int32)), .val (.long y0), .second] [])
  refine Go.st (fun _ => XS.iloadN X_10.here hx rfl (hb hby d3_9) rfl) ?_
  show Go p e below s _ _ _ T_10 (mkF m 10 #[.val (.ref a), .val (.int (1 : Int32)), .val (.int (1 : Int32)), .val (.long y0), .second] [(.int (1 : Int32))])
  refine Go.st (fun _ => XS.iloadN X_10.here hx rfl (hb hby d3_10) rfl) ?_
  show Go p e below s _ _ _ T_10 (mkF m 11 #[.val (.ref a), .val (.int (1 : Int32)), .val (.int (1 : Int32)), .val (.long y0), .second] [(.int (1 : Int32)), (.int (1 : Int32))])
  refine Go.st (fun _ => XS.icmpYes X_10.here hx rfl (pc0 := 11) (pc' := 49) rfl (hb hby d3_11) rfl (flt (by decide : ¬ ((1 : Int32) < (1 : Int32)))).2.1 (by decide) (by decide)) ?_
  show Go p e below s _ _ _ T_10 (mkF m 49 #[.val (.ref a), .val (.int (1 : Int32)), .val (.int (1 : Int32)), .val (.long y0), .second] [])
  exact Go.ret0 X_10 hx hlk Bd.returns (hb hby d3_49) (by rw [e_10]; exact ⟨rfl, N_10, K_10, V_10⟩) (by decide) (by decide)
theorem ef_rmR4 (m : MethodId) (a : Addr) : entryFrame m #[(.ref a)] 5 = mkF m 0 #[.val (.ref a), .unset, .unset, .unset, .unset] [] := by first | (simp [entryFrame, mkF, argsToLocals, Value.category]; done) | rfl
def QrmR4 (Z : State) (a : Addr) (t : Addr) (kt : ClassId) (y0 : Int64) (y1 : Int64) (y2 : Int64) (y3 : Int64) (y4 : Int64) (y5 : Int64) (y6 : Int64) (y7 : Int64) (h0 : Heap) (n0 : Nat) (rV : Option Value) (hE : Heap) (LE : List Loc) : Prop := rV = none ∧ Fr n0 LE ∧ Keep h0 hE [t] ∧ Arv Z hE t kt .long (8 : Int32) [(.long y3), (.long y2), (.long y1), (.long y0), (.long y4), (.long y5), (.long y6), (.long y7)] (.long (0 : Int64))
set_option maxRecDepth 65536 in
set_option maxHeartbeats 40000000 in
theorem rmR4 (l : Launch) (Z : State) (a0 : Array Value) (hw : ∀ d ∈ tables_1, d.before a0 Z = true) (ws : List Jvm.Cond) (a : Addr) (t : Addr) (kt : ClassId) (y0 : Int64) (y1 : Int64) (y2 : Int64) (y3 : Int64) (y4 : Int64) (y5 : Int64) (y6 : Int64) (y7 : Int64) (h0 : Heap) (n0 : Nat) (Z0 : n0 ≤ h0.size) (F_nodes_a : Fld Z h0 a "com/example/moat/moat/xpath/Handles" "nodes" "[J" (.ref t)) (F_size_a : Fld Z h0 a "com/example/moat/moat/xpath/Handles" "size" "I" (.int (4 : Int32))) (V_t : Arv Z h0 t kt .long (8 : Int32) [(.long y0), (.long y1), (.long y2), (.long y3), (.long y4), (.long y5), (.long y6), (.long y7)] (.long (0 : Int64))) (g_t : n0 ≤ t) (ne_a_t : a ≠ t) :
    MetFree l (⟨"com/example/moat/moat/xpath/Handles", "reverse", "()V"⟩ : MethodName) (head1 (Jvm.Cond.code (⟨"com/example/moat/moat/xpath/Handles", "reverse", "()V"⟩ : MethodName) prog_52_method_7_code 5 none :: ws) ({ frames := 0, cells := 0, slots := 0, locals := 0 } : Room)) (fun aA UA => aA = #[(.ref a)] ∧ Z.Warmed39 UA.vm ∧ UA.heap = h0) (fun _ _ _ _ _ => True) (fun _ UA oA UB => ∃ rV LE, oA = .returned rV ∧ QrmR4 Z a t kt y0 y1 y2 y3 y4 y5 y6 y7 h0 n0 rV UB.heap LE ∧ FrameEnd UA oA UB LE ({ frames := 0, cells := 0, slots := 0, locals := 0 } : Room).cells ({ frames := 0, cells := 0, slots := 0, locals := 0 } : Room).slots) := by
  refine MetFree.of_bodySF (plainFor_of_name pn_0) hisR ?_
  intro p e s m args below meth c s₁ Bd hml0 hP hK
  obtain ⟨rfl, hZ, hh⟩ := hP
  have hx := Bd.exec
  have hby := Bd.bytes
  have hml : c.maxLocals = 5 := hml0
  have hown : s.vm.findClass "com/example/moat/moat/xpath/Handles" = some m.cls := findClass_of_methodNamed Bd.named
  have hnm := (name_of_methodNamed Bd.named Bd.method).1
  have hlk := Bd.notSynchronized
  have X0 : Stand p l e ({ frames := 0, cells := 0, slots := 0, locals := 0 } : Room) s m #[(.ref a)] below meth c s₁ [] 0 0 := Stand.of_body Bd
  have e0 : s₁.heap = h0 := by rw [← hh, Bd.state]; rfl
  have N0 := Fr.nil n0
  show Go p e below s (QrmR4 Z a t kt y0 y1 y2 y3 y4 y5 y6 y7 h0 n0) ({ frames := 0, cells := 0, slots := 0, locals := 0 } : Room).cells ({ frames := 0, cells := 0, slots := 0, locals := 0 } : Room).slots s₁ (entryFrame m #[(.ref a)] 5)
  refine Go.eq (ef_rmR4 m a) ?_
  show Go p e below s _ _ _ s₁ (mkF m 0 #[.val (.ref a), .unset, .unset, .unset, .unset] [])
  refine Go.st (fun _ => XS.iconst X0.here hx rfl (hb hby d3_0)) ?_
  show Go p e below s _ _ _ s₁ (mkF m 1 #[.val (.ref a), .unset, .unset, .unset, .unset] [(.int (0 : Int32))])
  refine Go.st (fun _ => XS.istoreN X0.here hx rfl (hb hby d3_1) rfl (l' := #[.val (.ref a), .val (.int (0 : Int32)), .unset, .unset, .unset]) rfl) ?_
  show Go p e below s _ _ _ s₁ (mkF m 2 #[.val (.ref a), .val (.int (0 : Int32)), .unset, .unset, .unset] [])
  refine Go.st (fun _ => XS.aloadN X0.here hx rfl (hb hby d3_2) rfl rfl) ?_
  show Go p e below s _ _ _ s₁ (mkF m 3 #[.val (.ref a), .val (.int (0 : Int32)), .unset, .unset, .unset] [(.ref a)])
  obtain ⟨T_1, X_1, e_1, st_1⟩ := getF X0 hx hZ hown (host := "") (Or.inl (hw _ (List.mem_of_getElem? (i := 18) rfl))) Via.refl e0 F_size_a (g := (mkF m 3 #[.val (.ref a), .val (.int (0 : Int32)), .unset, .unset, .unset] [(.ref a)])) rfl rfl (hb hby d3_3)
  refine Go.st st_1 ?_
  show Go p e below s _ _ _ T_1 (mkF m 6 #[.val (.ref a), .val (.int (0 : Int32)), .unset, .unset, .unset] [(.int (4 : Int32))])
  refine Go.st (fun _ => XS.iconst X_1.here hx rfl (hb hby d3_6)) ?_
  show Go p e below s _ _ _ T_1 (mkF m 7 #[.val (.ref a), .val (.int (0 : Int32)), .unset, .unset, .unset] [(.int (1 : Int32)), (.int (4 : Int32))])
  refine Go.st (fun _ => XS.isub X_1.here hx rfl (hb hby d3_7) rfl) ?_
  show Go p e below s _ _ _ T_1 (mkF m 8 #[.val (.ref a), .val (.int (0 : Int32)), .unset, .unset, .unset] [(.int ((4 : Int32) - (1 : Int32)))])
  rw [show ((4 : Int32) - (1 : Int32)) = (3 : Int32) from by decide]
  show Go p e below s _ _ _ T_1 (mkF m 8 #[.val (.ref a), .val (.int (0 : Int32)), .unset, .unset, .unset] [(.int (3 : Int32))])
  refine Go.st (fun _ => XS.istoreN X_1.here hx rfl (hb hby d3_8) rfl (l' := #[.val (.ref a), .val (.int (0 : Int32)), .val (.int (3 : Int32)), .unset, .unset]) rfl) ?_
  show Go p e below s _ _ _ T_1 (mkF m 9 #[.val (.ref a), .val (.int (0 : Int32)), .val (.int (3 : Int32)), .unset, .unset] [])
  refine Go.st (fun _ => XS.iloadN X_1.here hx rfl (hb hby d3_9) rfl) ?_
  show Go p e below s _ _ _ T_1 (mkF m 10 #[.val (.ref a), .val (.int (0 : Int32)), .val (.int (3 : Int32)), .unset, .unset] [(.int (0 : Int32))])
  refine Go.st (fun _ => XS.iloadN X_1.here hx rfl (hb hby d3_10) rfl) ?_
  show Go p e below s _ _ _ T_1 (mkF m 11 #[.val (.ref a), .val (.int (0 : Int32)), .val (.int (3 : Int32)), .unset, .unset] [(.int (3 : Int32)), (.int (0 : Int32))])
  refine Go.st (fun _ => XS.icmpNo X_1.here hx rfl (hb hby d3_11) rfl (tlt (by decide : (0 : Int32) < (3 : Int32))).2.1) ?_
  show Go p e below s _ _ _ T_1 (mkF m 14 #[.val (.ref a), .val (.int (0 : Int32)), .val (.int (3 : Int32)), .unset, .unset] [])
  refine Go.st (fun _ => XS.aloadN X_1.here hx rfl (hb hby d3_14) rfl rfl) ?_
  show Go p e below s _ _ _ T_1 (mkF m 15 #[.val (.ref a), .val (.int (0 : Int32)), .val (.int (3 : Int32)), .unset, .unset] [(.ref a)])
  obtain ⟨T_2, X_2, e_2, st_2⟩ := getF X_1 hx hZ hown (host := "") (Or.inl (hw _ (List.mem_of_getElem? (i := 11) rfl))) Via.refl e_1 F_nodes_a (g := (mkF m 15 #[.val (.ref a), .val (.int (0 : Int32)), .val (.int (3 : Int32)), .unset, .unset] [(.ref a)])) rfl rfl (hb hby d3_15)
  refine Go.st st_2 ?_
  show Go p e below s _ _ _ T_2 (mkF m 18 #[.val (.ref a), .val (.int (0 : Int32)), .val (.int (3 : Int32)), .unset, .unset] [(.ref t)])
  refine Go.st (fun _ => XS.iloadN X_2.here hx rfl (hb hby d3_18) rfl) ?_
  show Go p e below s _ _ _ T_2 (mkF m 19 #[.val (.ref a), .val (.int (0 : Int32)), .val (.int (3 : Int32)), .unset, .unset] [(.int (0 : Int32)), (.ref t)])
  obtain ⟨cl_3, Ar_3, q_3, S_3, M_3, H_3, G_3⟩ := id V_t
  have hin_3 : ¬ ((0 : Int32) < 0 ∨ cl_3.slots.size ≤ ((0 : Int32)).toNatClampNeg) := inb_of S_3 ⟨by decide, by decide⟩
  have hat_3 : cl_3.slots[((0 : Int32)).toNatClampNeg]? = some (.long y0) := H_3.at hin_3 rfl
  refine Go.st (fun tG => X_2.laload hx (j := (0 : Int32)) (v := (.long y0)) (by rw [e_2]; exact Ar_3.1) (State.isArrayOf_alike hZ.alike Ar_3.2.1) Ar_3.2.2 hin_3 hat_3 (g := (mkF m 19 #[.val (.ref a), .val (.int (0 : Int32)), .val (.int (3 : Int32)), .unset, .unset] [(.int (0 : Int32)), (.ref t)])) rfl rfl (hb hby d3_19) tG) ?_
  show Go p e below s _ _ _ T_2 (mkF m 20 #[.val (.ref a), .val (.int (0 : Int32)), .val (.int (3 : Int32)), .unset, .unset] [(.long y0)])
  refine Go.st (fun _ => XS.lstoreN X_2.here hx rfl (hb hby d3_20) rfl (l' := #[.val (.ref a), .val (.int (0 : Int32)), .val (.int (3 : Int32)), .val (.long y0), .second]) rfl) ?_
  show Go p e below s _ _ _ T_2 (mkF m 21 #[.val (.ref a), .val (.int (0 : Int32)), .val (.int (3 : Int32)), .val (.long y0), .second] [])
  refine Go.st (fun _ => XS.aloadN X_2.here hx rfl (hb hby d3_21) rfl rfl) ?_
  show Go p e below s _ _ _ T_2 (mkF m 22 #[.val (.ref a), .val (.int (0 : Int32)), .val (.int (3 : Int32)), .val (.long y0), .second] [(.ref a)])
  obtain ⟨T_4, X_4, e_4, st_4⟩ := getF X_2 hx hZ hown (host := "") (Or.inl (hw _ (List.mem_of_getElem? (i := 11) rfl))) Via.refl e_2 F_nodes_a (g := (mkF m 22 #[.val (.ref a), .val (.int (0 : Int32)), .val (.int (3 : Int32)), .val (.long y0), .second] [(.ref a)])) rfl rfl (hb hby d3_22)
  refine Go.st st_4 ?_
  show Go p e below s _ _ _ T_4 (mkF m 25 #[.val (.ref a), .val (.int (0 : Int32)), .val (.int (3 : Int32)), .val (.long y0), .second] [(.ref t)])
  refine Go.st (fun _ => XS.iloadN X_4.here hx rfl (hb hby d3_25) rfl) ?_
  show Go p e below s _ _ _ T_4 (mkF m 26 #[.val (.ref a), .val (.int (0 : Int32)), .val (.int (3 : Int32)), .val (.long y0), .second] [(.int (0 : Int32)), (.ref t)])
  refine Go.st (fun _ => XS.aloadN X_4.here hx rfl (hb hby d3_26) rfl rfl) ?_
  show Go p e below s _ _ _ T_4 (mkF m 27 #[.val (.ref a), .val (.int (0 : Int32)), .val (.int (3 : Int32)), .val (.long y0), .second] [(.ref a), (.int (0 : Int32)), (.ref t)])
  obtain ⟨T_5, X_5, e_5, st_5⟩ := getF X_4 hx hZ hown (host := "") (Or.inl (hw _ (List.mem_of_getElem? (i := 11) rfl))) Via.refl e_4 F_nodes_a (g := (mkF m 27 #[.val (.ref a), .val (.int (0 : Int32)), .val (.int (3 : Int32)), .val (.long y0), .second] [(.ref a), (.int (0 : Int32)), (.ref t)])) rfl rfl (hb hby d3_27)
  refine Go.st st_5 ?_
  show Go p e below s _ _ _ T_5 (mkF m 30 #[.val (.ref a), .val (.int (0 : Int32)), .val (.int (3 : Int32)), .val (.long y0), .second] [(.ref t), (.int (0 : Int32)), (.ref t)])
  refine Go.st (fun _ => XS.iloadN X_5.here hx rfl (hb hby d3_30) rfl) ?_
  show Go p e below s _ _ _ T_5 (mkF m 31 #[.val (.ref a), .val (.int (0 : Int32)), .val (.int (3 : Int32)), .val (.long y0), .second] [(.int (3 : Int32)), (.ref t), (.int (0 : Int32)), (.ref t)])
  obtain ⟨cl_6, Ar_6, q_6, S_6, M_6, H_6, G_6⟩ := id V_t
  have hin_6 : ¬ ((3 : Int32) < 0 ∨ cl_6.slots.size ≤ ((3 : Int32)).toNatClampNeg) := inb_of S_6 ⟨by decide, by decide⟩
  have hat_6 : cl_6.slots[((3 : Int32)).toNatClampNeg]? = some (.long y3) := H_6.at hin_6 rfl
  refine Go.st (fun tG => X_5.laload hx (j := (3 : Int32)) (v := (.long y3)) (by rw [e_5]; exact Ar_6.1) (State.isArrayOf_alike hZ.alike Ar_6.2.1) Ar_6.2.2 hin_6 hat_6 (g := (mkF m 31 #[.val (.ref a), .val (.int (0 : Int32)), .val (.int (3 : Int32)), .val (.long y0), .second] [(.int (3 : Int32)), (.ref t), (.int (0 : Int32)), (.ref t)])) rfl rfl (hb hby d3_31) tG) ?_
  show Go p e below s _ _ _ T_5 (mkF m 32 #[.val (.ref a), .val (.int (0 : Int32)), .val (.int (3 : Int32)), .val (.long y0), .second] [(.long y3), (.int (0 : Int32)), (.ref t)])
  obtain ⟨cl_7, Ar_7, q_7, S_7, M_7, H_7, G_7⟩ := id V_t
  have hin_7 : ¬ ((0 : Int32) < 0 ∨ cl_7.slots.size ≤ ((0 : Int32)).toNatClampNeg) := inb_of S_7 ⟨by decide, by decide⟩
  obtain ⟨T_7, h_7, X_7, e_7, W_7, st_7⟩ := stJ X_5 hx hZ e_5 Ar_7 (j := (0 : Int32)) hin_7 (g := (mkF m 32 #[.val (.ref a), .val (.int (0 : Int32)), .val (.int (3 : Int32)), .val (.long y0), .second] [(.long y3), (.int (0 : Int32)), (.ref t)])) rfl rfl (hb hby d3_32)
  refine Go.st st_7 ?_
  have V_7 : Arv Z h_7 t kt .long (8 : Int32) [(.long y3), (.long y1), (.long y2), (.long y3), (.long y4), (.long y5), (.long y6), (.long y7)] (.long (0 : Int64)) := Arv.set Ar_7 q_7 S_7 M_7 H_7 G_7 rfl W_7 0 rfl (Nat.le_of_ble_eq_true rfl)
  have N_7 := Fr.snoc X_7 N0 g_t
  have K_7 : Keep h0 h_7 [t] := (Keep.refl h0 [t]).wr W_7 (Or.inl (List.mem_of_getElem? (i := 0) rfl))
  have z_7 : n0 ≤ h_7.size := Nat.le_trans Z0 (Nat.le_of_eq W_7.size.symm)
  show Go p e below s _ _ _ T_7 (mkF m 33 #[.val (.ref a), .val (.int (0 : Int32)), .val (.int (3 : Int32)), .val (.long y0), .second] [])
  refine Go.st (fun _ => XS.aloadN X_7.here hx rfl (hb hby d3_33) rfl rfl) ?_
  show Go p e below s _ _ _ T_7 (mkF m 34 #[.val (.ref a), .val (.int (0 : Int32)), .val (.int (3 : Int32)), .val (.long y0), .second] [(.ref a)])
  have f_8 := (F_nodes_a.other W_7 (Or.inl ne_a_t))
  obtain ⟨T_9, X_9, e_9, st_9⟩ := getF X_7 hx hZ hown (host := "") (Or.inl (hw _ (List.mem_of_getElem? (i := 11) rfl))) Via.refl e_7 f_8 (g := (mkF m 34 #[.val (.ref a), .val (.int (0 : Int32)), .val (.int (3 : Int32)), .val (.long y0), .second] [(.ref a)])) rfl rfl (hb hby d3_34)
  refine Go.st st_9 ?_
  show Go p e below s _ _ _ T_9 (mkF m 37 #[.val (.ref a), .val (.int (0 : Int32)), .val (.int (3 : Int32)), .val (.long y0), .second] [(.ref t)])
  refine Go.st (fun _ => XS.iloadN X_9.here hx rfl (hb hby d3_37) rfl) ?_
  show Go p e below s _ _ _ T_9 (mkF m 38 #[.val (.ref a), .val (.int (0 : Int32)), .val (.int (3 : Int32)), .val (.long y0), .second] [(.int (3 : Int32)), (.ref t)])
  refine Go.st (fun _ => XS.lloadN X_9.here hx rfl (hb hby d3_38) rfl) ?_
  show Go p e below s _ _ _ T_9 (mkF m 39 #[.val (.ref a), .val (.int (0 : Int32)), .val (.int (3 : Int32)), .val (.long y0), .second] [(.long y0), (.int (3 : Int32)), (.ref t)])
  obtain ⟨cl_10, Ar_10, q_10, S_10, M_10, H_10, G_10⟩ := id V_7
  have hin_10 : ¬ ((3 : Int32) < 0 ∨ cl_10.slots.size ≤ ((3 : Int32)).toNatClampNeg) := inb_of S_10 ⟨by decide, by decide⟩
  obtain ⟨T_10, h_10, X_10, e_10, W_10, st_10⟩ := stJ X_9 hx hZ e_9 Ar_10 (j := (3 : Int32)) hin_10 (g := (mkF m 39 #[.val (.ref a), .val (.int (0 : Int32)), .val (.int (3 : Int32)), .val (.long y0), .second] [(.long y0), (.int (3 : Int32)), (.ref t)])) rfl rfl (hb hby d3_39)
  refine Go.st st_10 ?_
  have V_10 : Arv Z h_10 t kt .long (8 : Int32) [(.long y3), (.long y1), (.long y2), (.long y0), (.long y4), (.long y5), (.long y6), (.long y7)] (.long (0 : Int64)) := Arv.set Ar_10 q_10 S_10 M_10 H_10 G_10 rfl W_10 3 rfl (Nat.le_of_ble_eq_true rfl)
  have N_10 := Fr.snoc X_10 N_7 g_t
  have K_10 : Keep h0 h_10 [t] := K_7.wr W_10 (Or.inl (List.mem_of_getElem? (i := 0) rfl))
  have z_10 : n0 ≤ h_10.size := Nat.le_trans z_7 (Nat.le_of_eq W_10.size.symm)
  show Go p e below s _ _ _ T_10 (mkF m 40 #[.val (.ref a), .val (.int (0 : Int32)), .val (.int (3 : Int32)), .val (.long y0), .second] [])
  refine Go.st (fun _ => XS.iinc X_10.here hx rfl (hb hby d3_40) rfl (l' := #[.val (.ref a), .val (.int ((0 : Int32) + (1 : Int32))), .val (.int (3 : Int32)), .val (.long y0), .second]) rfl) ?_
  show Go p e below s _ _ _ T_10 (mkF m 43 #[.val (.ref a), .val (.int ((0 : Int32) + (1 : Int32))), .val (.int (3 : Int32)), .val (.long y0), .second] [])
  rw [show ((0 : Int32) + (1 : Int32)) = (1 : Int32) from by decide]
  show Go p e below s _ _ _ T_10 (mkF m 43 #[.val (.ref a), .val (.int (1 : Int32)), .val (.int (3 : Int32)), .val (.long y0), .second] [])
  refine Go.st (fun _ => XS.iinc X_10.here hx rfl (hb hby d3_43) rfl (l' := #[.val (.ref a), .val (.int (1 : Int32)), .val (.int ((3 : Int32) + (-1 : Int32))), .val (.long y0), .second]) rfl) ?_
  show Go p e below s _ _ _ T_10 (mkF m 46 #[.val (.ref a), .val (.int (1 : Int32)), .val (.int ((3 : Int32) + (-1 : Int32))), .val (.long y0), .second] [])
  rw [show ((3 : Int32) + (-1 : Int32)) = (2 : Int32) from by decide]
  show Go p e below s _ _ _ T_10 (mkF m 46 #[.val (.ref a), .val (.int (1 : Int32)), .val (.int (2 : Int32)), .val (.long y0), .second] [])
  refine Go.st (fun _ => XS.goto X_10.here hx rfl (pc0 := 46) (pc' := 9) rfl (hb hby d3_46) (by decide) (by decide)) ?_
  show Go p e below s _ _ _ T_10 (mkF m 9 #[.val (.ref a), .val (.int (1 : Int32)), .val (.int (2 : Int32)), .val (.long y0), .second] [])
  refine Go.st (fun _ => XS.iloadN X_10.here hx rfl (hb hby d3_9) rfl) ?_
  show Go p e below s _ _ _ T_10 (mkF m 10 #[.val (.ref a), .val (.int (1 : Int32)), .val (.int (2 : Int32)), .val (.long y0), .second] [(.int (1 : Int32))])
  refine Go.st (fun _ => XS.iloadN X_10.here hx rfl (hb hby d3_10) rfl) ?_
  show Go p e below s _ _ _ T_10 (mkF m 11 #[.val (.ref a), .val (.int (1 : Int32)), .val (.int (2 : Int32)), .val (.long y0), .second] [(.int (2 : Int32)), (.int (1 : Int32))])
  refine Go.st (fun _ => XS.icmpNo X_10.here hx rfl (hb hby d3_11) rfl (tlt (by decide : (1 : Int32) < (2 : Int32))).2.1) ?_
  show Go p e below s _ _ _ T_10 (mkF m 14 #[.val (.ref a), .val (.int (1 : Int32)), .val (.int (2 : Int32)), .val (.long y0), .second] [])
  refine Go.st (fun _ => XS.aloadN X_10.here hx rfl (hb hby d3_14) rfl rfl) ?_
  show Go p e below s _ _ _ T_10 (mkF m 15 #[.val (.ref a), .val (.int (1 : Int32)), .val (.int (2 : Int32)), .val (.long y0), .second] [(.ref a)])
  have f_11 := (f_8.other W_10 (Or.inl ne_a_t))
  obtain ⟨T_12, X_12, e_12, st_12⟩ := getF X_10 hx hZ hown (host := "") (Or.inl (hw _ (List.mem_of_getElem? (i := 11) rfl))) Via.refl e_10 f_11 (g := (mkF m 15 #[.val (.ref a), .val (.int (1 : Int32)), .val (.int (2 : Int32)), .val (.long y0), .second] [(.ref a)])) rfl rfl (hb hby d3_15)
  refine Go.st st_12 ?_
  show Go p e below s _ _ _ T_12 (mkF m 18 #[.val (.ref a), .val (.int (1 : Int32)), .val (.int (2 : Int32)), .val (.long y0), .second] [(.ref t)])
  refine Go.st (fun _ => XS.iloadN X_12.here hx rfl (hb hby d3_18) rfl) ?_
  show Go p e below s _ _ _ T_12 (mkF m 19 #[.val (.ref a), .val (.int (1 : Int32)), .val (.int (2 : Int32)), .val (.long y0), .second] [(.int (1 : Int32)), (.ref t)])
  obtain ⟨cl_13, Ar_13, q_13, S_13, M_13, H_13, G_13⟩ := id V_10
  have hin_13 : ¬ ((1 : Int32) < 0 ∨ cl_13.slots.size ≤ ((1 : Int32)).toNatClampNeg) := inb_of S_13 ⟨by decide, by decide⟩
  have hat_13 : cl_13.slots[((1 : Int32)).toNatClampNeg]? = some (.long y1) := H_13.at hin_13 rfl
  refine Go.st (fun tG => X_12.laload hx (j := (1 : Int32)) (v := (.long y1)) (by rw [e_12]; exact Ar_13.1) (State.isArrayOf_alike hZ.alike Ar_13.2.1) Ar_13.2.2 hin_13 hat_13 (g := (mkF m 19 #[.val (.ref a), .val (.int (1 : Int32)), .val (.int (2 : Int32)), .val (.long y0), .second] [(.int (1 : Int32)), (.ref t)])) rfl rfl (hb hby d3_19) tG) ?_
  show Go p e below s _ _ _ T_12 (mkF m 20 #[.val (.ref a), .val (.int (1 : Int32)), .val (.int (2 : Int32)), .val (.long y0), .second] [(.long y1)])
  refine Go.st (fun _ => XS.lstoreN X_12.here hx rfl (hb hby d3_20) rfl (l' := #[.val (.ref a), .val (.int (1 : Int32)), .val (.int (2 : Int32)), .val (.long y1), .second]) rfl) ?_
  show Go p e below s _ _ _ T_12 (mkF m 21 #[.val (.ref a), .val (.int (1 : Int32)), .val (.int (2 : Int32)), .val (.long y1), .second] [])
  refine Go.st (fun _ => XS.aloadN X_12.here hx rfl (hb hby d3_21) rfl rfl) ?_
  show Go p e below s _ _ _ T_12 (mkF m 22 #[.val (.ref a), .val (.int (1 : Int32)), .val (.int (2 : Int32)), .val (.long y1), .second] [(.ref a)])
  obtain ⟨T_14, X_14, e_14, st_14⟩ := getF X_12 hx hZ hown (host := "") (Or.inl (hw _ (List.mem_of_getElem? (i := 11) rfl))) Via.refl e_12 f_11 (g := (mkF m 22 #[.val (.ref a), .val (.int (1 : Int32)), .val (.int (2 : Int32)), .val (.long y1), .second] [(.ref a)])) rfl rfl (hb hby d3_22)
  refine Go.st st_14 ?_
  show Go p e below s _ _ _ T_14 (mkF m 25 #[.val (.ref a), .val (.int (1 : Int32)), .val (.int (2 : Int32)), .val (.long y1), .second] [(.ref t)])
  refine Go.st (fun _ => XS.iloadN X_14.here hx rfl (hb hby d3_25) rfl) ?_
  show Go p e below s _ _ _ T_14 (mkF m 26 #[.val (.ref a), .val (.int (1 : Int32)), .val (.int (2 : Int32)), .val (.long y1), .second] [(.int (1 : Int32)), (.ref t)])
  refine Go.st (fun _ => XS.aloadN X_14.here hx rfl (hb hby d3_26) rfl rfl) ?_
  show Go p e below s _ _ _ T_14 (mkF m 27 #[.val (.ref a), .val (.int (1 : Int32)), .val (.int (2 : Int32)), .val (.long y1), .second] [(.ref a), (.int (1 : Int32)), (.ref t)])
  obtain ⟨T_15, X_15, e_15, st_15⟩ := getF X_14 hx hZ hown (host := "") (Or.inl (hw _ (List.mem_of_getElem? (i := 11) rfl))) Via.refl e_14 f_11 (g := (mkF m 27 #[.val (.ref a), .val (.int (1 : Int32)), .val (.int (2 : Int32)), .val (.long y1), .second] [(.ref a), (.int (1 : Int32)), (.ref t)])) rfl rfl (hb hby d3_27)
  refine Go.st st_15 ?_
  show Go p e below s _ _ _ T_15 (mkF m 30 #[.val (.ref a), .val (.int (1 : Int32)), .val (.int (2 : Int32)), .val (.long y1), .second] [(.ref t), (.int (1 : Int32)), (.ref t)])
  refine Go.st (fun _ => XS.iloadN X_15.here hx rfl (hb hby d3_30) rfl) ?_
  show Go p e below s _ _ _ T_15 (mkF m 31 #[.val (.ref a), .val (.int (1 : Int32)), .val (.int (2 : Int32)), .val (.long y1), .second] [(.int (2 : Int32)), (.ref t), (.int (1 : Int32)), (.ref t)])
  obtain ⟨cl_16, Ar_16, q_16, S_16, M_16, H_16, G_16⟩ := id V_10
  have hin_16 : ¬ ((2 : Int32) < 0 ∨ cl_16.slots.size ≤ ((2 : Int32)).toNatClampNeg) := inb_of S_16 ⟨by decide, by decide⟩
  have hat_16 : cl_16.slots[((2 : Int32)).toNatClampNeg]? = some (.long y2) := H_16.at hin_16 rfl
  refine Go.st (fun tG => X_15.laload hx (j := (2 : Int32)) (v := (.long y2)) (by rw [e_15]; exact Ar_16.1) (State.isArrayOf_alike hZ.alike Ar_16.2.1) Ar_16.2.2 hin_16 hat_16 (g := (mkF m 31 #[.val (.ref a), .val (.int (1 : Int32)), .val (.int (2 : Int32)), .val (.long y1), .second] [(.int (2 : Int32)), (.ref t), (.int (1 : Int32)), (.ref t)])) rfl rfl (hb hby d3_31) tG) ?_
  show Go p e below s _ _ _ T_15 (mkF m 32 #[.val (.ref a), .val (.int (1 : Int32)), .val (.int (2 : Int32)), .val (.long y1), .second] [(.long y2), (.int (1 : Int32)), (.ref t)])
  obtain ⟨cl_17, Ar_17, q_17, S_17, M_17, H_17, G_17⟩ := id V_10
  have hin_17 : ¬ ((1 : Int32) < 0 ∨ cl_17.slots.size ≤ ((1 : Int32)).toNatClampNeg) := inb_of S_17 ⟨by decide, by decide⟩
  obtain ⟨T_17, h_17, X_17, e_17, W_17, st_17⟩ := stJ X_15 hx hZ e_15 Ar_17 (j := (1 : Int32)) hin_17 (g := (mkF m 32 #[.val (.ref a), .val (.int (1 : Int32)), .val (.int (2 : Int32)), .val (.long y1), .second] [(.long y2), (.int (1 : Int32)), (.ref t)])) rfl rfl (hb hby d3_32)
  refine Go.st st_17 ?_
  have V_17 : Arv Z h_17 t kt .long (8 : Int32) [(.long y3), (.long y2), (.long y2), (.long y0), (.long y4), (.long y5), (.long y6), (.long y7)] (.long (0 : Int64)) := Arv.set Ar_17 q_17 S_17 M_17 H_17 G_17 rfl W_17 1 rfl (Nat.le_of_ble_eq_true rfl)
  have N_17 := Fr.snoc X_17 N_10 g_t
  have K_17 : Keep h0 h_17 [t] := K_10.wr W_17 (Or.inl (List.mem_of_getElem? (i := 0) rfl))
  have z_17 : n0 ≤ h_17.size := Nat.le_trans z_10 (Nat.le_of_eq W_17.size.symm)
  show Go p e below s _ _ _ T_17 (mkF m 33 #[.val (.ref a), .val (.int (1 : Int32)), .val (.int (2 : Int32)), .val (.long y1), .second] [])
  refine Go.st (fun _ => XS.aloadN X_17.here hx rfl (hb hby d3_33) rfl rfl) ?_
  show Go p e below s _ _ _ T_17 (mkF m 34 #[.val (.ref a), .val (.int (1 : Int32)), .val (.int (2 : Int32)), .val (.long y1), .second] [(.ref a)])
  have f_18 := (f_11.other W_17 (Or.inl ne_a_t))
  obtain ⟨T_19, X_19, e_19, st_19⟩ := getF X_17 hx hZ hown (host := "") (Or.inl (hw _ (List.mem_of_getElem? (i := 11) rfl))) Via.refl e_17 f_18 (g := (mkF m 34 #[.val (.ref a), .val (.int (1 : Int32)), .val (.int (2 : Int32)), .val (.long y1), .second] [(.ref a)])) rfl rfl (hb hby d3_34)
  refine Go.st st_19 ?_
  show Go p e below s _ _ _ T_19 (mkF m 37 #[.val (.ref a), .val (.int (1 : Int32)), .val (.int (2 : Int32)), .val (.long y1), .second] [(.ref t)])
  refine Go.st (fun _ => XS.iloadN X_19.here hx rfl (hb hby d3_37) rfl) ?_
  show Go p e below s _ _ _ T_19 (mkF m 38 #[.val (.ref a), .val (.int (1 : Int32)), .val (.int (2 : Int32)), .val (.long y1), .second] [(.int (2 : Int32)), (.ref t)])
  refine Go.st (fun _ => XS.lloadN X_19.here hx rfl (hb hby d3_38) rfl) ?_
  show Go p e below s _ _ _ T_19 (mkF m 39 #[.val (.ref a), .val (.int (1 : Int32)), .val (.int (2 : Int32)), .val (.long y1), .second] [(.long y1), (.int (2 : Int32)), (.ref t)])
  obtain ⟨cl_20, Ar_20, q_20, S_20, M_20, H_20, G_20⟩ := id V_17
  have hin_20 : ¬ ((2 : Int32) < 0 ∨ cl_20.slots.size ≤ ((2 : Int32)).toNatClampNeg) := inb_of S_20 ⟨by decide, by decide⟩
  obtain ⟨T_20, h_20, X_20, e_20, W_20, st_20⟩ := stJ X_19 hx hZ e_19 Ar_20 (j := (2 : Int32)) hin_20 (g := (mkF m 39 #[.val (.ref a), .val (.int (1 : Int32)), .val (.int (2 : Int32)), .val (.long y1), .second] [(.long y1), (.int (2 : Int32)), (.ref t)])) rfl rfl (hb hby d3_39)
  refine Go.st st_20 ?_
  have V_20 : Arv Z h_20 t kt .long (8 : Int32) [(.long y3), (.long y2), (.long y1), (.long y0), (.long y4), (.long y5), (.long y6), (.long y7)] (.long (0 : Int64)) := Arv.set Ar_20 q_20 S_20 M_20 H_20 G_20 rfl W_20 2 rfl (Nat.le_of_ble_eq_true rfl)
  have N_20 := Fr.snoc X_20 N_17 g_t
  have K_20 : Keep h0 h_20 [t] := K_17.wr W_20 (Or.inl (List.mem_of_getElem? (i := 0) rfl))
  have z_20 : n0 ≤ h_20.size := Nat.le_trans z_17 (Nat.le_of_eq W_20.size.symm)
  show Go p e below s _ _ _ T_20 (mkF m 40 #[.val (.ref a), .val (.int (1 : Int32)), .val (.int (2 : Int32)), .val (.long y1), .second] [])
  refine Go.st (fun _ => XS.iinc X_20.here hx rfl (hb hby d3_40) rfl (l' := #[.val (.ref a), .val (.int ((1 : Int32) + (1 : Int32))), .val (.int (2 : Int32)), .val (.long y1), .second]) rfl) ?_
  show Go p e below s _ _ _ T_20 (mkF m 43 #[.val (.ref a), .val (.int ((1 : Int32) + (1 : Int32))), .val (.int (2 : Int32)), .val (.long y1), .second] [])
  rw [show ((1 : Int32) + (1 : Int32)) = (2 : Int32) from by decide]
  show Go p e below s _ _ _ T_20 (mkF m 43 #[.val (.ref a), .val (.int (2 : Int32)), .val (.int (2 : Int32)), .val (.long y1), .second] [])
  refine Go.st (fun _ => XS.iinc X_20.here hx rfl (hb hby d3_43) rfl (l' := #[.val (.ref a), .val (.int (2 : Int32)), .val (.int ((2 : Int32) + (-1 : Int32))), .val (.long y1), .second]) rfl) ?_
  show Go p e below s _ _ _ T_20 (mkF m 46 #[.val (.ref a), .val (.int (2 : Int32)), .val (.int ((2 : Int32) + (-1 : Int32))), .val (.long y1), .second] [])
  rw [show ((2 : Int32) + (-1 : Int32)) = (1 : Int32) from by decide]
  show Go p e below s _ _ _ T_20 (mkF m 46 #[.val (.ref a), .val (.int (2 : Int32)), .val (.int (1 : Int32)), .val (.long y1), .second] [])
  refine Go.st (fun _ => XS.goto X_20.here hx rfl (pc0 := 46) (pc' := 9) rfl (hb hby d3_46) (by decide) (by decide)) ?_
  show Go p e below s _ _ _ T_20 (mkF m 9 #[.val (.ref a), .val (.int (2 : Int32)), .val (.int (1 : Int32)), .val (.long y1), .second] [])
  refine Go.st (fun _ => XS.iloadN X_20.here hx rfl (hb hby d3_9) rfl) ?_
  show Go p e below s _ _ _ T_20 (mkF m 10 #[.val (.ref a), .val (.int (2 : Int32)), .val (.int (1 : Int32)), .val (.long y1), .second] [(.int (2 : Int32))])
  refine Go.st (fun _ => XS.iloadN X_20.here hx rfl (hb hby d3_10) rfl) ?_
  show Go p e below s _ _ _ T_20 (mkF m 11 #[.val (.ref a), .val (.int (2 : Int32)), .val (.int (1 : Int32)), .val (.long y1), .second] [(.int (1 : Int32)), (.int (2 : Int32))])
  refine Go.st (fun _ => XS.icmpYes X_20.here hx rfl (pc0 := 11) (pc' := 49) rfl (hb hby d3_11) rfl (flt (by decide : ¬ ((2 : Int32) < (1 : Int32)))).2.1 (by decide) (by decide)) ?_
  show Go p e below s _ _ _ T_20 (mkF m 49 #[.val (.ref a), .val (.int (2 : Int32)), .val (.int (1 : Int32)), .val (.long y1), .second] [])
  exact Go.ret0 X_20 hx hlk Bd.returns (hb hby d3_49) (by rw [e_20]; exact ⟨rfl, N_20, K_20, V_20⟩) (by decide) (by decide)
theorem ef_rmR5 (m : MethodId) (a : Addr) : entryFrame m #[(.ref a)] 5 = mkF m 0 #[.val (.ref a), .unset, .unset, .unset, .unset] [] := by first | (simp [entryFrame, mkF, argsToLocals, Value.category]; done) | rfl
def QrmR5 (Z : State) (a : Addr) (t : Addr) (kt : ClassId) (y0 : Int64) (y1 : Int64) (y2 : Int64) (y3 : Int64) (y4 : Int64) (y5 : Int64) (y6 : Int64) (y7 : Int64) (h0 : Heap) (n0 : Nat) (rV : Option Value) (hE : Heap) (LE : List Loc) : Prop := rV = none ∧ Fr n0 LE ∧ Keep h0 hE [t] ∧ Arv Z hE t kt .long (8 : Int32) [(.long y4), (.long y3), (.long y2), (.long y1), (.long y0), (.long y5), (.long y6), (.long y7)] (.long (0 : Int64))
set_option maxRecDepth 65536 in
set_option maxHeartbeats 40000000 in
theorem rmR5 (l : Launch) (Z : State) (a0 : Array Value) (hw : ∀ d ∈ tables_1, d.before a0 Z = true) (ws : List Jvm.Cond) (a : Addr) (t : Addr) (kt : ClassId) (y0 : Int64) (y1 : Int64) (y2 : Int64) (y3 : Int64) (y4 : Int64) (y5 : Int64) (y6 : Int64) (y7 : Int64) (h0 : Heap) (n0 : Nat) (Z0 : n0 ≤ h0.size) (F_nodes_a : Fld Z h0 a "com/example/moat/moat/xpath/Handles" "nodes" "[J" (.ref t)) (F_size_a : Fld Z h0 a "com/example/moat/moat/xpath/Handles" "size" "I" (.int (5 : Int32))) (V_t : Arv Z h0 t kt .long (8 : Int32) [(.long y0), (.long y1), (.long y2), (.long y3), (.long y4), (.long y5), (.long y6), (.long y7)] (.long (0 : Int64))) (g_t : n0 ≤ t) (ne_a_t : a ≠ t) :
    MetFree l (⟨"com/example/moat/moat/xpath/Handles", "reverse", "()V"⟩ : MethodName) (head1 (Jvm.Cond.code (⟨"com/example/moat/moat/xpath/Handles", "reverse", "()V"⟩ : MethodName) prog_52_method_7_code 5 none :: ws) ({ frames := 0, cells := 0, slots := 0, locals := 0 } : Room)) (fun aA UA => aA = #[(.ref a)] ∧ Z.Warmed39 UA.vm ∧ UA.heap = h0) (fun _ _ _ _ _ => True) (fun _ UA oA UB => ∃ rV LE, oA = .returned rV ∧ QrmR5 Z a t kt y0 y1 y2 y3 y4 y5 y6 y7 h0 n0 rV UB.heap LE ∧ FrameEnd UA oA UB LE ({ frames := 0, cells := 0, slots := 0, locals := 0 } : Room).cells ({ frames := 0, cells := 0, slots := 0, locals := 0 } : Room).slots) := by
  refine MetFree.of_bodySF (plainFor_of_name pn_0) hisR ?_
  intro p e s m args below meth c s₁ Bd hml0 hP hK
  obtain ⟨rfl, hZ, hh⟩ := hP
  have hx := Bd.exec
  have hby := Bd.bytes
  have hml : c.maxLocals = 5 := hml0
  have hown : s.vm.findClass "com/example/moat/moat/xpath/Handles" = some m.cls := findClass_of_methodNamed Bd.named
  have hnm := (name_of_methodNamed Bd.named Bd.method).1
  have hlk := Bd.notSynchronized
  have X0 : Stand p l e ({ frames := 0, cells := 0, slots := 0, locals := 0 } : Room) s m #[(.ref a)] below meth c s₁ [] 0 0 := Stand.of_body Bd
  have e0 : s₁.heap = h0 := by rw [← hh, Bd.state]; rfl
  have N0 := Fr.nil n0
  show Go p e below s (QrmR5 Z a t kt y0 y1 y2 y3 y4 y5 y6 y7 h0 n0) ({ frames := 0, cells := 0, slots := 0, locals := 0 } : Room).cells ({ frames := 0, cells := 0, slots := 0, locals := 0 } : Room).slots s₁ (entryFrame m #[(.ref a)] 5)
  refine Go.eq (ef_rmR5 m a) ?_
  show Go p e below s _ _ _ s₁ (mkF m 0 #[.val (.ref a), .unset, .unset, .unset, .unset] [])
  refine Go.st (fun _ => XS.iconst X0.here hx rfl (hb hby d3_0)) ?_
  show Go p e below s _ _ _ s₁ (mkF m 1 #[.val (.ref a), .unset, .unset, .unset, .unset] [(.int (0 : Int32))])
  refine Go.st (fun _ => XS.istoreN X0.here hx rfl (hb hby d3_1) rfl (l' := #[.val (.ref a), .val (.int (0 : Int32)), .unset, .unset, .unset]) rfl) ?_
  show Go p e below s _ _ _ s₁ (mkF m 2 #[.val (.ref a), .val (.int (0 : Int32)), .unset, .unset, .unset] [])
  refine Go.st (fun _ => XS.aloadN X0.here hx rfl (hb hby d3_2) rfl rfl) ?_
  show Go p e below s _ _ _ s₁ (mkF m 3 #[.val (.ref a), .val (.int (0 : Int32)), .unset, .unset, .unset] [(.ref a)])
  obtain ⟨T_1, X_1, e_1, st_1⟩ := getF X0 hx hZ hown (host := "") (Or.inl (hw _ (List.mem_of_getElem? (i := 18) rfl))) Via.refl e0 F_size_a (g := (mkF m 3 #[.val (.ref a), .val (.int (0 : Int32)), .unset, .unset, .unset] [(.ref a)])) rfl rfl (hb hby d3_3)
  refine Go.st st_1 ?_
  show Go p e below s _ _ _ T_1 (mkF m 6 #[.val (.ref a), .val (.int (0 : Int32)), .unset, .unset, .unset] [(.int (5 : Int32))])
  refine Go.st (fun _ => XS.iconst X_1.here hx rfl (hb hby d3_6)) ?_
  show Go p e below s _ _ _ T_1 (mkF m 7 #[.val (.ref a), .val (.int (0 : Int32)), .unset, .unset, .unset] [(.int (1 : Int32)), (.int (5 : Int32))])
  refine Go.st (fun _ => XS.isub X_1.here hx rfl (hb hby d3_7) rfl) ?_
  show Go p e below s _ _ _ T_1 (mkF m 8 #[.val (.ref a), .val (.int (0 : Int32)), .unset, .unset, .unset] [(.int ((5 : Int32) - (1 : Int32)))])
  rw [show ((5 : Int32) - (1 : Int32)) = (4 : Int32) from by decide]
  show Go p e below s _ _ _ T_1 (mkF m 8 #[.val (.ref a), .val (.int (0 : Int32)), .unset, .unset, .unset] [(.int (4 : Int32))])
  refine Go.st (fun _ => XS.istoreN X_1.here hx rfl (hb hby d3_8) rfl (l' := #[.val (.ref a), .val (.int (0 : Int32)), .val (.int (4 : Int32)), .unset, .unset]) rfl) ?_
  show Go p e below s _ _ _ T_1 (mkF m 9 #[.val (.ref a), .val (.int (0 : Int32)), .val (.int (4 : Int32)), .unset, .unset] [])
  refine Go.st (fun _ => XS.iloadN X_1.here hx rfl (hb hby d3_9) rfl) ?_
  show Go p e below s _ _ _ T_1 (mkF m 10 #[.val (.ref a), .val (.int (0 : Int32)), .val (.int (4 : Int32)), .unset, .unset] [(.int (0 : Int32))])
  refine Go.st (fun _ => XS.iloadN X_1.here hx rfl (hb hby d3_10) rfl) ?_
  show Go p e below s _ _ _ T_1 (mkF m 11 #[.val (.ref a), .val (.int (0 : Int32)), .val (.int (4 : Int32)), .unset, .unset] [(.int (4 : Int32)), (.int (0 : Int32))])
  refine Go.st (fun _ => XS.icmpNo X_1.here hx rfl (hb hby d3_11) rfl (tlt (by decide : (0 : Int32) < (4 : Int32))).2.1) ?_
  show Go p e below s _ _ _ T_1 (mkF m 14 #[.val (.ref a), .val (.int (0 : Int32)), .val (.int (4 : Int32)), .unset, .unset] [])
  refine Go.st (fun _ => XS.aloadN X_1.here hx rfl (hb hby d3_14) rfl rfl) ?_
  show Go p e below s _ _ _ T_1 (mkF m 15 #[.val (.ref a), .val (.int (0 : Int32)), .val (.int (4 : Int32)), .unset, .unset] [(.ref a)])
  obtain ⟨T_2, X_2, e_2, st_2⟩ := getF X_1 hx hZ hown (host := "") (Or.inl (hw _ (List.mem_of_getElem? (i := 11) rfl))) Via.refl e_1 F_nodes_a (g := (mkF m 15 #[.val (.ref a), .val (.int (0 : Int32)), .val (.int (4 : Int32)), .unset, .unset] [(.ref a)])) rfl rfl (hb hby d3_15)
  refine Go.st st_2 ?_
  show Go p e below s _ _ _ T_2 (mkF m 18 #[.val (.ref a), .val (.int (0 : Int32)), .val (.int (4 : Int32)), .unset, .unset] [(.ref t)])
  refine Go.st (fun _ => XS.iloadN X_2.here hx rfl (hb hby d3_18) rfl) ?_
  show Go p e below s _ _ _ T_2 (mkF m 19 #[.val (.ref a), .val (.int (0 : Int32)), .val (.int (4 : Int32)), .unset, .unset] [(.int (0 : Int32)), (.ref t)])
  obtain ⟨cl_3, Ar_3, q_3, S_3, M_3, H_3, G_3⟩ := id V_t
  have hin_3 : ¬ ((0 : Int32) < 0 ∨ cl_3.slots.size ≤ ((0 : Int32)).toNatClampNeg) := inb_of S_3 ⟨by decide, by decide⟩
  have hat_3 : cl_3.slots[((0 : Int32)).toNatClampNeg]? = some (.long y0) := H_3.at hin_3 rfl
  refine Go.st (fun tG => X_2.laload hx (j := (0 : Int32)) (v := (.long y0)) (by rw [e_2]; exact Ar_3.1) (State.isArrayOf_alike hZ.alike Ar_3.2.1) Ar_3.2.2 hin_3 hat_3 (g := (mkF m 19 #[.val (.ref a), .val (.int (0 : Int32)), .val (.int (4 : Int32)), .unset, .unset] [(.int (0 : Int32)), (.ref t)])) rfl rfl (hb hby d3_19) tG) ?_
  show Go p e below s _ _ _ T_2 (mkF m 20 #[.val (.ref a), .val (.int (0 : Int32)), .val (.int (4 : Int32)), .unset, .unset] [(.long y0)])
  refine Go.st (fun _ => XS.lstoreN X_2.here hx rfl (hb hby d3_20) rfl (l' := #[.val (.ref a), .val (.int (0 : Int32)), .val (.int (4 : Int32)), .val (.long y0), .second]) rfl) ?_
  show Go p e below s _ _ _ T_2 (mkF m 21 #[.val (.ref a), .val (.int (0 : Int32)), .val (.int (4 : Int32)), .val (.long y0), .second] [])
  refine Go.st (fun _ => XS.aloadN X_2.here hx rfl (hb hby d3_21) rfl rfl) ?_
  show Go p e below s _ _ _ T_2 (mkF m 22 #[.val (.ref a), .val (.int (0 : Int32)), .val (.int (4 : Int32)), .val (.long y0), .second] [(.ref a)])
  obtain ⟨T_4, X_4, e_4, st_4⟩ := getF X_2 hx hZ hown (host := "") (Or.inl (hw _ (List.mem_of_getElem? (i := 11) rfl))) Via.refl e_2 F_nodes_a (g := (mkF m 22 #[.val (.ref a), .val (.int (0 : Int32)), .val (.int (4 : Int32)), .val (.long y0), .second] [(.ref a)])) rfl rfl (hb hby d3_22)
  refine Go.st st_4 ?_
  show Go p e below s _ _ _ T_4 (mkF m 25 #[.val (.ref a), .val (.int (0 : Int32)), .val (.int (4 : Int32)), .val (.long y0), .second] [(.ref t)])
  refine Go.st (fun _ => XS.iloadN X_4.here hx rfl (hb hby d3_25) rfl) ?_
  show Go p e below s _ _ _ T_4 (mkF m 26 #[.val (.ref a), .val (.int (0 : Int32)), .val (.int (4 : Int32)), .val (.long y0), .second] [(.int (0 : Int32)), (.ref t)])
  refine Go.st (fun _ => XS.aloadN X_4.here hx rfl (hb hby d3_26) rfl rfl) ?_
  show Go p e below s _ _ _ T_4 (mkF m 27 #[.val (.ref a), .val (.int (0 : Int32)), .val (.int (4 : Int32)), .val (.long y0), .second] [(.ref a), (.int (0 : Int32)), (.ref t)])
  obtain ⟨T_5, X_5, e_5, st_5⟩ := getF X_4 hx hZ hown (host := "") (Or.inl (hw _ (List.mem_of_getElem? (i := 11) rfl))) Via.refl e_4 F_nodes_a (g := (mkF m 27 #[.val (.ref a), .val (.int (0 : Int32)), .val (.int (4 : Int32)), .val (.long y0), .second] [(.ref a), (.int (0 : Int32)), (.ref t)])) rfl rfl (hb hby d3_27)
  refine Go.st st_5 ?_
  show Go p e below s _ _ _ T_5 (mkF m 30 #[.val (.ref a), .val (.int (0 : Int32)), .val (.int (4 : Int32)), .val (.long y0), .second] [(.ref t), (.int (0 : Int32)), (.ref t)])
  refine Go.st (fun _ => XS.iloadN X_5.here hx rfl (hb hby d3_30) rfl) ?_
  show Go p e below s _ _ _ T_5 (mkF m 31 #[.val (.ref a), .val (.int (0 : Int32)), .val (.int (4 : Int32)), .val (.long y0), .second] [(.int (4 : Int32)), (.ref t), (.int (0 : Int32)), (.ref t)])
  obtain ⟨cl_6, Ar_6, q_6, S_6, M_6, H_6, G_6⟩ := id V_t
  have hin_6 : ¬ ((4 : Int32) < 0 ∨ cl_6.slots.size ≤ ((4 : Int32)).toNatClampNeg) := inb_of S_6 ⟨by decide, by decide⟩
  have hat_6 : cl_6.slots[((4 : Int32)).toNatClampNeg]? = some (.long y4) := H_6.at hin_6 rfl
  refine Go.st (fun tG => X_5.laload hx (j := (4 : Int32)) (v := (.long y4)) (by rw [e_5]; exact Ar_6.1) (State.isArrayOf_alike hZ.alike Ar_6.2.1) Ar_6.2.2 hin_6 hat_6 (g := (mkF m 31 #[.val (.ref a), .val (.int (0 : Int32)), .val (.int (4 : Int32)), .val (.long y0), .second] [(.int (4 : Int32)), (.ref t), (.int (0 : Int32)), (.ref t)])) rfl rfl (hb hby d3_31) tG) ?_
  show Go p e below s _ _ _ T_5 (mkF m 32 #[.val (.ref a), .val (.int (0 : Int32)), .val (.int (4 : Int32)), .val (.long y0), .second] [(.long y4), (.int (0 : Int32)), (.ref t)])
  obtain ⟨cl_7, Ar_7, q_7, S_7, M_7, H_7, G_7⟩ := id V_t
  have hin_7 : ¬ ((0 : Int32) < 0 ∨ cl_7.slots.size ≤ ((0 : Int32)).toNatClampNeg) := inb_of S_7 ⟨by decide, by decide⟩
  obtain ⟨T_7, h_7, X_7, e_7, W_7, st_7⟩ := stJ X_5 hx hZ e_5 Ar_7 (j := (0 : Int32)) hin_7 (g := (mkF m 32 #[.val (.ref a), .val (.int (0 : Int32)), .val (.int (4 : Int32)), .val (.long y0), .second] [(.long y4), (.int (0 : Int32)), (.ref t)])) rfl rfl (hb hby d3_32)
  refine Go.st st_7 ?_
  have V_7 : Arv Z h_7 t kt .long (8 : Int32) [(.long y4), (.long y1), (.long y2), (.long y3), (.long y4), (.long y5), (.long y6), (.long y7)] (.long (0 : Int64)) := Arv.set Ar_7 q_7 S_7 M_7 H_7 G_7 rfl W_7 0 rfl (Nat.le_of_ble_eq_true rfl)
  have N_7 := Fr.snoc X_7 N0 g_t
  have K_7 : Keep h0 h_7 [t] := (Keep.refl h0 [t]).wr W_7 (Or.inl (List.mem_of_getElem? (i := 0) rfl))
  have z_7 : n0 ≤ h_7.size := Nat.le_trans Z0 (Nat.le_of_eq W_7.size.symm)
  show Go p e below s _ _ _ T_7 (mkF m 33 #[.val (.ref a), .val (.int (0 : Int32)), .val (.int (4 : Int32)), .val (.long y0), .second] [])
  refine Go.st (fun _ => XS.aloadN X_7.here hx rfl (hb hby d3_33) rfl rfl) ?_
  show Go p e below s _ _ _ T_7 (mkF m 34 #[.val (.ref a), .val (.int (0 : Int32)), .val (.int (4 : Int32)), .val (.long y0), .second] [(.ref a)])
  have f_8 := (F_nodes_a.other W_7 (Or.inl ne_a_t))
  obtain ⟨T_9, X_9, e_9, st_9⟩ := getF X_7 hx hZ hown (host := "") (Or.inl (hw _ (List.mem_of_getElem? (i := 11) rfl))) Via.refl e_7 f_8 (g := (mkF m 34 #[.val (.ref a), .val (.int (0 : Int32)), .val (.int (4 : Int32)), .val (.long y0), .second] [(.ref a)])) rfl rfl (hb hby d3_34)
  refine Go.st st_9 ?_
  show Go p e below s _ _ _ T_9 (mkF m 37 #[.val (.ref a), .val (.int (0 : Int32)), .val (.int (4 : Int32)), .val (.long y0), .second] [(.ref t)])
  refine Go.st (fun _ => XS.iloadN X_9.here hx rfl (hb hby d3_37) rfl) ?_
  show Go p e below s _ _ _ T_9 (mkF m 38 #[.val (.ref a), .val (.int (0 : Int32)), .val (.int (4 : Int32)), .val (.long y0), .second] [(.int (4 : Int32)), (.ref t)])
  refine Go.st (fun _ => XS.lloadN X_9.here hx rfl (hb hby d3_38) rfl) ?_
  show Go p e below s _ _ _ T_9 (mkF m 39 #[.val (.ref a), .val (.int (0 : Int32)), .val (.int (4 : Int32)), .val (.long y0), .second] [(.long y0), (.int (4 : Int32)), (.ref t)])
  obtain ⟨cl_10, Ar_10, q_10, S_10, M_10, H_10, G_10⟩ := id V_7
  have hin_10 : ¬ ((4 : Int32) < 0 ∨ cl_10.slots.size ≤ ((4 : Int32)).toNatClampNeg) := inb_of S_10 ⟨by decide, by decide⟩
  obtain ⟨T_10, h_10, X_10, e_10, W_10, st_10⟩ := stJ X_9 hx hZ e_9 Ar_10 (j := (4 : Int32)) hin_10 (g := (mkF m 39 #[.val (.ref a), .val (.int (0 : Int32)), .val (.int (4 : Int32)), .val (.long y0), .second] [(.long y0), (.int (4 : Int32)), (.ref t)])) rfl rfl (hb hby d3_39)
  refine Go.st st_10 ?_
  have V_10 : Arv Z h_10 t kt .long (8 : Int32) [(.long y4), (.long y1), (.long y2), (.long y3), (.long y0), (.long y5), (.long y6), (.long y7)] (.long (0 : Int64)) := Arv.set Ar_10 q_10 S_10 M_10 H_10 G_10 rfl W_10 4 rfl (Nat.le_of_ble_eq_true rfl)
  have N_10 := Fr.snoc X_10 N_7 g_t
  have K_10 : Keep h0 h_10 [t] := K_7.wr W_10 (Or.inl (List.mem_of_getElem? (i := 0) rfl))
  have z_10 : n0 ≤ h_10.size := Nat.le_trans z_7 (Nat.le_of_eq W_10.size.symm)
  show Go p e below s _ _ _ T_10 (mkF m 40 #[.val (.ref a), .val (.int (0 : Int32)), .val (.int (4 : Int32)), .val (.long y0), .second] [])
  refine Go.st (fun _ => XS.iinc X_10.here hx rfl (hb hby d3_40) rfl (l' := #[.val (.ref a), .val (.int ((0 : Int32) + (1 : Int32))), .val (.int (4 : Int32)), .val (.long y0), .second]) rfl) ?_
  show Go p e below s _ _ _ T_10 (mkF m 43 #[.val (.ref a), .val (.int ((0 : Int32) + (1 : Int32))), .val (.int (4 : Int32)), .val (.long y0), .second] [])
  rw [show ((0 : Int32) + (1 : Int32)) = (1 : Int32) from by decide]
  show Go p e below s _ _ _ T_10 (mkF m 43 #[.val (.ref a), .val (.int (1 : Int32)), .val (.int (4 : Int32)), .val (.long y0), .second] [])
  refine Go.st (fun _ => XS.iinc X_10.here hx rfl (hb hby d3_43) rfl (l' := #[.val (.ref a), .val (.int (1 : Int32)), .val (.int ((4 : Int32) + (-1 : Int32))), .val (.long y0), .second]) rfl) ?_
  show Go p e below s _ _ _ T_10 (mkF m 46 #[.val (.ref a), .val (.int (1 : Int32)), .val (.int ((4 : Int32) + (-1 : Int32))), .val (.long y0), .second] [])
  rw [show ((4 : Int32) + (-1 : Int32)) = (3 : Int32) from by decide]
  show Go p e below s _ _ _ T_10 (mkF m 46 #[.val (.ref a), .val (.int (1 : Int32)), .val (.int (3 : Int32)), .val (.long y0), .second] [])
  refine Go.st (fun _ => XS.goto X_10.here hx rfl (pc0 := 46) (pc' := 9) rfl (hb hby d3_46) (by decide) (by decide)) ?_
  show Go p e below s _ _ _ T_10 (mkF m 9 #[.val (.ref a), .val (.int (1 : Int32)), .val (.int (3 : Int32)), .val (.long y0), .second] [])
  refine Go.st (fun _ => XS.iloadN X_10.here hx rfl (hb hby d3_9) rfl) ?_
  show Go p e below s _ _ _ T_10 (mkF m 10 #[.val (.ref a), .val (.int (1 : Int32)), .val (.int (3 : Int32)), .val (.long y0), .second] [(.int (1 : Int32))])
  refine Go.st (fun _ => XS.iloadN X_10.here hx rfl (hb hby d3_10) rfl) ?_
  show Go p e below s _ _ _ T_10 (mkF m 11 #[.val (.ref a), .val (.int (1 : Int32)), .val (.int (3 : Int32)), .val (.long y0), .second] [(.int (3 : Int32)), (.int (1 : Int32))])
  refine Go.st (fun _ => XS.icmpNo X_10.here hx rfl (hb hby d3_11) rfl (tlt (by decide : (1 : Int32) < (3 : Int32))).2.1) ?_
  show Go p e below s _ _ _ T_10 (mkF m 14 #[.val (.ref a), .val (.int (1 : Int32)), .val (.int (3 : Int32)), .val (.long y0), .second] [])
  refine Go.st (fun _ => XS.aloadN X_10.here hx rfl (hb hby d3_14) rfl rfl) ?_
  show Go p e below s _ _ _ T_10 (mkF m 15 #[.val (.ref a), .val (.int (1 : Int32)), .val (.int (3 : Int32)), .val (.long y0), .second] [(.ref a)])
  have f_11 := (f_8.other W_10 (Or.inl ne_a_t))
  obtain ⟨T_12, X_12, e_12, st_12⟩ := getF X_10 hx hZ hown (host := "") (Or.inl (hw _ (List.mem_of_getElem? (i := 11) rfl))) Via.refl e_10 f_11 (g := (mkF m 15 #[.val (.ref a), .val (.int (1 : Int32)), .val (.int (3 : Int32)), .val (.long y0), .second] [(.ref a)])) rfl rfl (hb hby d3_15)
  refine Go.st st_12 ?_
  show Go p e below s _ _ _ T_12 (mkF m 18 #[.val (.ref a), .val (.int (1 : Int32)), .val (.int (3 : Int32)), .val (.long y0), .second] [(.ref t)])
  refine Go.st (fun _ => XS.iloadN X_12.here hx rfl (hb hby d3_18) rfl) ?_
  show Go p e below s _ _ _ T_12 (mkF m 19 #[.val (.ref a), .val (.int (1 : Int32)), .val (.int (3 : Int32)), .val (.long y0), .second] [(.int (1 : Int32)), (.ref t)])
  obtain ⟨cl_13, Ar_13, q_13, S_13, M_13, H_13, G_13⟩ := id V_10
  have hin_13 : ¬ ((1 : Int32) < 0 ∨ cl_13.slots.size ≤ ((1 : Int32)).toNatClampNeg) := inb_of S_13 ⟨by decide, by decide⟩
  have hat_13 : cl_13.slots[((1 : Int32)).toNatClampNeg]? = some (.long y1) := H_13.at hin_13 rfl
  refine Go.st (fun tG => X_12.laload hx (j := (1 : Int32)) (v := (.long y1)) (by rw [e_12]; exact Ar_13.1) (State.isArrayOf_alike hZ.alike Ar_13.2.1) Ar_13.2.2 hin_13 hat_13 (g := (mkF m 19 #[.val (.ref a), .val (.int (1 : Int32)), .val (.int (3 : Int32)), .val (.long y0), .second] [(.int (1 : Int32)), (.ref t)])) rfl rfl (hb hby d3_19) tG) ?_
  show Go p e below s _ _ _ T_12 (mkF m 20 #[.val (.ref a), .val (.int (1 : Int32)), .val (.int (3 : Int32)), .val (.long y0), .second] [(.long y1)])
  refine Go.st (fun _ => XS.lstoreN X_12.here hx rfl (hb hby d3_20) rfl (l' := #[.val (.ref a), .val (.int (1 : Int32)), .val (.int (3 : Int32)), .val (.long y1), .second]) rfl) ?_
  show Go p e below s _ _ _ T_12 (mkF m 21 #[.val (.ref a), .val (.int (1 : Int32)), .val (.int (3 : Int32)), .val (.long y1), .second] [])
  refine Go.st (fun _ => XS.aloadN X_12.here hx rfl (hb hby d3_21) rfl rfl) ?_
  show Go p e below s _ _ _ T_12 (mkF m 22 #[.val (.ref a), .val (.int (1 : Int32)), .val (.int (3 : Int32)), .val (.long y1), .second] [(.ref a)])
  obtain ⟨T_14, X_14, e_14, st_14⟩ := getF X_12 hx hZ hown (host := "") (Or.inl (hw _ (List.mem_of_getElem? (i := 11) rfl))) Via.refl e_12 f_11 (g := (mkF m 22 #[.val (.ref a), .val (.int (1 : Int32)), .val (.int (3 : Int32)), .val (.long y1), .second] [(.ref a)])) rfl rfl (hb hby d3_22)
  refine Go.st st_14 ?_
  show Go p e below s _ _ _ T_14 (mkF m 25 #[.val (.ref a), .val (.int (1 : Int32)), .val (.int (3 : Int32)), .val (.long y1), .second] [(.ref t)])
  refine Go.st (fun _ => XS.iloadN X_14.here hx rfl (hb hby d3_25) rfl) ?_
  show Go p e below s _ _ _ T_14 (mkF m 26 #[.val (.ref a), .val (.int (1 : Int32)), .val (.int (3 : Int32)), .val (.long y1), .second] [(.int (1 : Int32)), (.ref t)])
  refine Go.st (fun _ => XS.aloadN X_14.here hx rfl (hb hby d3_26) rfl rfl) ?_
  show Go p e below s _ _ _ T_14 (mkF m 27 #[.val (.ref a), .val (.int (1 : Int32)), .val (.int (3 : Int32)), .val (.long y1), .second] [(.ref a), (.int (1 : Int32)), (.ref t)])
  obtain ⟨T_15, X_15, e_15, st_15⟩ := getF X_14 hx hZ hown (host := "") (Or.inl (hw _ (List.mem_of_getElem? (i := 11) rfl))) Via.refl e_14 f_11 (g := (mkF m 27 #[.val (.ref a), .val (.int (1 : Int32)), .val (.int (3 : Int32)), .val (.long y1), .second] [(.ref a), (.int (1 : Int32)), (.ref t)])) rfl rfl (hb hby d3_27)
  refine Go.st st_15 ?_
  show Go p e below s _ _ _ T_15 (mkF m 30 #[.val (.ref a), .val (.int (1 : Int32)), .val (.int (3 : Int32)), .val (.long y1), .second] [(.ref t), (.int (1 : Int32)), (.ref t)])
  refine Go.st (fun _ => XS.iloadN X_15.here hx rfl (hb hby d3_30) rfl) ?_
  show Go p e below s _ _ _ T_15 (mkF m 31 #[.val (.ref a), .val (.int (1 : Int32)), .val (.int (3 : Int32)), .val (.long y1), .second] [(.int (3 : Int32)), (.ref t), (.int (1 : Int32)), (.ref t)])
  obtain ⟨cl_16, Ar_16, q_16, S_16, M_16, H_16, G_16⟩ := id V_10
  have hin_16 : ¬ ((3 : Int32) < 0 ∨ cl_16.slots.size ≤ ((3 : Int32)).toNatClampNeg) := inb_of S_16 ⟨by decide, by decide⟩
  have hat_16 : cl_16.slots[((3 : Int32)).toNatClampNeg]? = some (.long y3) := H_16.at hin_16 rfl
  refine Go.st (fun tG => X_15.laload hx (j := (3 : Int32)) (v := (.long y3)) (by rw [e_15]; exact Ar_16.1) (State.isArrayOf_alike hZ.alike Ar_16.2.1) Ar_16.2.2 hin_16 hat_16 (g := (mkF m 31 #[.val (.ref a), .val (.int (1 : Int32)), .val (.int (3 : Int32)), .val (.long y1), .second] [(.int (3 : Int32)), (.ref t), (.int (1 : Int32)), (.ref t)])) rfl rfl (hb hby d3_31) tG) ?_
  show Go p e below s _ _ _ T_15 (mkF m 32 #[.val (.ref a), .val (.int (1 : Int32)), .val (.int (3 : Int32)), .val (.long y1), .second] [(.long y3), (.int (1 : Int32)), (.ref t)])
  obtain ⟨cl_17, Ar_17, q_17, S_17, M_17, H_17, G_17⟩ := id V_10
  have hin_17 : ¬ ((1 : Int32) < 0 ∨ cl_17.slots.size ≤ ((1 : Int32)).toNatClampNeg) := inb_of S_17 ⟨by decide, by decide⟩
  obtain ⟨T_17, h_17, X_17, e_17, W_17, st_17⟩ := stJ X_15 hx hZ e_15 Ar_17 (j := (1 : Int32)) hin_17 (g := (mkF m 32 #[.val (.ref a), .val (.int (1 : Int32)), .val (.int (3 : Int32)), .val (.long y1), .second] [(.long y3), (.int (1 : Int32)), (.ref t)])) rfl rfl (hb hby d3_32)
  refine Go.st st_17 ?_
  have V_17 : Arv Z h_17 t kt .long (8 : Int32) [(.long y4), (.long y3), (.long y2), (.long y3), (.long y0), (.long y5), (.long y6), (.long y7)] (.long (0 : Int64)) := Arv.set Ar_17 q_17 S_17 M_17 H_17 G_17 rfl W_17 1 rfl (Nat.le_of_ble_eq_true rfl)
  have N_17 := Fr.snoc X_17 N_10 g_t
  have K_17 : Keep h0 h_17 [t] := K_10.wr W_17 (Or.inl (List.mem_of_getElem? (i := 0) rfl))
  have z_17 : n0 ≤ h_17.size := Nat.le_trans z_10 (Nat.le_of_eq W_17.size.symm)
  show Go p e below s _ _ _ T_17 (mkF m 33 #[.val (.ref a), .val (.int (1 : Int32)), .val (.int (3 : Int32)), .val (.long y1), .second] [])
  refine Go.st (fun _ => XS.aloadN X_17.here hx rfl (hb hby d3_33) rfl rfl) ?_
  show Go p e below s _ _ _ T_17 (mkF m 34 #[.val (.ref a), .val (.int (1 : Int32)), .val (.int (3 : Int32)), .val (.long y1), .second] [(.ref a)])
  have f_18 := (f_11.other W_17 (Or.inl ne_a_t))
  obtain ⟨T_19, X_19, e_19, st_19⟩ := getF X_17 hx hZ hown (host := "") (Or.inl (hw _ (List.mem_of_getElem? (i := 11) rfl))) Via.refl e_17 f_18 (g := (mkF m 34 #[.val (.ref a), .val (.int (1 : Int32)), .val (.int (3 : Int32)), .val (.long y1), .second] [(.ref a)])) rfl rfl (hb hby d3_34)
  refine Go.st st_19 ?_
  show Go p e below s _ _ _ T_19 (mkF m 37 #[.val (.ref a), .val (.int (1 : Int32)), .val (.int (3 : Int32)), .val (.long y1), .second] [(.ref t)])
  refine Go.st (fun _ => XS.iloadN X_19.here hx rfl (hb hby d3_37) rfl) ?_
  show Go p e below s _ _ _ T_19 (mkF m 38 #[.val (.ref a), .val (.int (1 : Int32)), .val (.int (3 : Int32)), .val (.long y1), .second] [(.int (3 : Int32)), (.ref t)])
  refine Go.st (fun _ => XS.lloadN X_19.here hx rfl (hb hby d3_38) rfl) ?_
  show Go p e below s _ _ _ T_19 (mkF m 39 #[.val (.ref a), .val (.int (1 : Int32)), .val (.int (3 : Int32)), .val (.long y1), .second] [(.long y1), (.int (3 : Int32)), (.ref t)])
  obtain ⟨cl_20, Ar_20, q_20, S_20, M_20, H_20, G_20⟩ := id V_17
  have hin_20 : ¬ ((3 : Int32) < 0 ∨ cl_20.slots.size ≤ ((3 : Int32)).toNatClampNeg) := inb_of S_20 ⟨by decide, by decide⟩
  obtain ⟨T_20, h_20, X_20, e_20, W_20, st_20⟩ := stJ X_19 hx hZ e_19 Ar_20 (j := (3 : Int32)) hin_20 (g := (mkF m 39 #[.val (.ref a), .val (.int (1 : Int32)), .val (.int (3 : Int32)), .val (.long y1), .second] [(.long y1), (.int (3 : Int32)), (.ref t)])) rfl rfl (hb hby d3_39)
  refine Go.st st_20 ?_
  have V_20 : Arv Z h_20 t kt .long (8 : Int32) [(.long y4), (.long y3), (.long y2), (.long y1), (.long y0), (.long y5), (.long y6), (.long y7)] (.long (0 : Int64)) := Arv.set Ar_20 q_20 S_20 M_20 H_20 G_20 rfl W_20 3 rfl (Nat.le_of_ble_eq_true rfl)
  have N_20 := Fr.snoc X_20 N_17 g_t
  have K_20 : Keep h0 h_20 [t] := K_17.wr W_20 (Or.inl (List.mem_of_getElem? (i := 0) rfl))
  have z_20 : n0 ≤ h_20.size := Nat.le_trans z_17 (Nat.le_of_eq W_20.size.symm)
  show Go p e below s _ _ _ T_20 (mkF m 40 #[.val (.ref a), .val (.int (1 : Int32)), .val (.int (3 : Int32)), .val (.long y1), .second] [])
  refine Go.st (fun _ => XS.iinc X_20.here hx rfl (hb hby d3_40) rfl (l' := #[.val (.ref a), .val (.int ((1 : Int32) + (1 : Int32))), .val (.int (3 : Int32)), .val (.long y1), .second]) rfl) ?_
  show Go p e below s _ _ _ T_20 (mkF m 43 #[.val (.ref a), .val (.int ((1 : Int32) + (1 : Int32))), .val (.int (3 : Int32)), .val (.long y1), .second] [])
  rw [show ((1 : Int32) + (1 : Int32)) = (2 : Int32) from by decide]
  show Go p e below s _ _ _ T_20 (mkF m 43 #[.val (.ref a), .val (.int (2 : Int32)), .val (.int (3 : Int32)), .val (.long y1), .second] [])
  refine Go.st (fun _ => XS.iinc X_20.here hx rfl (hb hby d3_43) rfl (l' := #[.val (.ref a), .val (.int (2 : Int32)), .val (.int ((3 : Int32) + (-1 : Int32))), .val (.long y1), .second]) rfl) ?_
  show Go p e below s _ _ _ T_20 (mkF m 46 #[.val (.ref a), .val (.int (2 : Int32)), .val (.int ((3 : Int32) + (-1 : Int32))), .val (.long y1), .second] [])
  rw [show ((3 : Int32) + (-1 : Int32)) = (2 : Int32) from by decide]
  show Go p e below s _ _ _ T_20 (mkF m 46 #[.val (.ref a), .val (.int (2 : Int32)), .val (.int (2 : Int32)), .val (.long y1), .second] [])
  refine Go.st (fun _ => XS.goto X_20.here hx rfl (pc0 := 46) (pc' := 9) rfl (hb hby d3_46) (by decide) (by decide)) ?_
  show Go p e below s _ _ _ T_20 (mkF m 9 #[.val (.ref a), .val (.int (2 : Int32)), .val (.int (2 : Int32)), .val (.long y1), .second] [])
  refine Go.st (fun _ => XS.iloadN X_20.here hx rfl (hb hby d3_9) rfl) ?_
  show Go p e below s _ _ _ T_20 (mkF m 10 #[.val (.ref a), .val (.int (2 : Int32)), .val (.int (2 : Int32)), .val (.long y1), .second] [(.int (2 : Int32))])
  refine Go.st (fun _ => XS.iloadN X_20.here hx rfl (hb hby d3_10) rfl) ?_
  show Go p e below s _ _ _ T_20 (mkF m 11 #[.val (.ref a), .val (.int (2 : Int32)), .val (.int (2 : Int32)), .val (.long y1), .second] [(.int (2 : Int32)), (.int (2 : Int32))])
  refine Go.st (fun _ => XS.icmpYes X_20.here hx rfl (pc0 := 11) (pc' := 49) rfl (hb hby d3_11) rfl (flt (by decide : ¬ ((2 : Int32) < (2 : Int32)))).2.1 (by decide) (by decide)) ?_
  show Go p e below s _ _ _ T_20 (mkF m 49 #[.val (.ref a), .val (.int (2 : Int32)), .val (.int (2 : Int32)), .val (.long y1), .second] [])
  exact Go.ret0 X_20 hx hlk Bd.returns (hb hby d3_49) (by rw [e_20]; exact ⟨rfl, N_20, K_20, V_20⟩) (by decide) (by decide)
theorem d4_0 : decode prog_52_method_6_code 0 = .ok (.aload_n 0, 1) := by decide +kernel
theorem d4_1 : decode prog_52_method_6_code 1 = .ok (.getfield 13, 3) := by decide +kernel
theorem d4_4 : decode prog_52_method_6_code 4 = .ok (.ireturn, 1) := by decide +kernel
theorem ef_rm4 (m : MethodId) (a : Addr) : entryFrame m #[(.ref a)] 1 = mkF m 0 #[.val (.ref a)] [] := by first | (simp [entryFrame, mkF, argsToLocals, Value.category]; done) | rfl
def Qrm4 (Z : State) (a : Addr) (n : Int32) (h0 : Heap) (n0 : Nat) (rV : Option Value) (hE : Heap) (LE : List Loc) : Prop := rV = some (.int n) ∧ Fr n0 LE ∧ hE = h0
set_option maxRecDepth 65536 in
set_option maxHeartbeats 40000000 in
theorem rm4 (l : Launch) (Z : State) (a0 : Array Value) (hw : ∀ d ∈ tables_1, d.before a0 Z = true) (ws : List Jvm.Cond) (a : Addr) (n : Int32) (h0 : Heap) (n0 : Nat) (Z0 : n0 ≤ h0.size) (F_size_a : Fld Z h0 a "com/example/moat/moat/xpath/Handles" "size" "I" (.int n)) :
    MetFree l (⟨"com/example/moat/moat/xpath/Handles", "size", "()I"⟩ : MethodName) (head1 (Jvm.Cond.code (⟨"com/example/moat/moat/xpath/Handles", "size", "()I"⟩ : MethodName) prog_52_method_6_code 1 (some .int) :: ws) ({ frames := 0, cells := 0, slots := 0, locals := 0 } : Room)) (fun aA UA => aA = #[(.ref a)] ∧ Z.Warmed39 UA.vm ∧ UA.heap = h0) (fun _ _ _ _ _ => True) (fun _ UA oA UB => ∃ rV LE, oA = .returned rV ∧ Qrm4 Z a n h0 n0 rV UB.heap LE ∧ FrameEnd UA oA UB LE ({ frames := 0, cells := 0, slots := 0, locals := 0 } : Room).cells ({ frames := 0, cells := 0, slots := 0, locals := 0 } : Room).slots) := by
  refine MetFree.of_bodySF (plainFor_of_name pn_0) hisR ?_
  intro p e s m args below meth c s₁ Bd hml0 hP hK
  obtain ⟨rfl, hZ, hh⟩ := hP
  have hx := Bd.exec
  have hby := Bd.bytes
  have hml : c.maxLocals = 1 := hml0
  have hown : s.vm.findClass "com/example/moat/moat/xpath/Handles" = some m.cls := findClass_of_methodNamed Bd.named
  have hnm := (name_of_methodNamed Bd.named Bd.method).1
  have hlk := Bd.notSynchronized
  have X0 : Stand p l e ({ frames := 0, cells := 0, slots := 0, locals := 0 } : Room) s m #[(.ref a)] below meth c s₁ [] 0 0 := Stand.of_body Bd
  have e0 : s₁.heap = h0 := by rw [← hh, Bd.state]; rfl
  have N0 := Fr.nil n0
  show Go p e below s (Qrm4 Z a n h0 n0) ({ frames := 0, cells := 0, slots := 0, locals := 0 } : Room).cells ({ frames := 0, cells := 0, slots := 0, locals := 0 } : Room).slots s₁ (entryFrame m #[(.ref a)] 1)
  refine Go.eq (ef_rm4 m a) ?_
  show Go p e below s _ _ _ s₁ (mkF m 0 #[.val (.ref a)] [])
  refine Go.st (fun _ => XS.aloadN X0.here hx rfl (hb hby d4_0) rfl rfl) ?_
  show Go p e below s _ _ _ s₁ (mkF m 1 #[.val (.ref a)] [(.ref a)])
  obtain ⟨T_1, X_1, e_1, st_1⟩ := getF X0 hx hZ hown (host := "") (Or.inl (hw _ (List.mem_of_getElem? (i := 18) rfl))) Via.refl e0 F_size_a (g := (mkF m 1 #[.val (.ref a)] [(.ref a)])) rfl rfl (hb hby d4_1)
  refine Go.st st_1 ?_
  show Go p e below s _ _ _ T_1 (mkF m 4 #[.val (.ref a)] [(.int n)])
  exact Go.retI X_1 hx hlk Bd.returns (hb hby d4_4) (by rw [e_1]; exact ⟨rfl, N0, rfl⟩) (by decide) (by decide)
theorem d5_0 : decode prog_52_method_8_code 0 = .ok (.aload_n 0, 1) := by decide +kernel
theorem d5_1 : decode prog_52_method_8_code 1 = .ok (.getfield 7, 3) := by decide +kernel
theorem d5_4 : decode prog_52_method_8_code 4 = .ok (.areturn, 1) := by decide +kernel
theorem ef_rm5 (m : MethodId) (a : Addr) : entryFrame m #[(.ref a)] 1 = mkF m 0 #[.val (.ref a)] [] := by first | (simp [entryFrame, mkF, argsToLocals, Value.category]; done) | rfl
def Qrm5 (Z : State) (a : Addr) (t : Addr) (h0 : Heap) (n0 : Nat) (rV : Option Value) (hE : Heap) (LE : List Loc) : Prop := rV = some (.ref t) ∧ Fr n0 LE ∧ hE = h0
set_option maxRecDepth 65536 in
set_option maxHeartbeats 40000000 in
theorem rm5 (l : Launch) (Z : State) (a0 : Array Value) (hw : ∀ d ∈ tables_1, d.before a0 Z = true) (ws : List Jvm.Cond) (a : Addr) (t : Addr) (h0 : Heap) (n0 : Nat) (Z0 : n0 ≤ h0.size) (F_nodes_a : Fld Z h0 a "com/example/moat/moat/xpath/Handles" "nodes" "[J" (.ref t)) :
    MetFree l (⟨"com/example/moat/moat/xpath/Handles", "array", "()[J"⟩ : MethodName) (head1 (Jvm.Cond.code (⟨"com/example/moat/moat/xpath/Handles", "array", "()[J"⟩ : MethodName) prog_52_method_8_code 1 (some (.array .long)) :: ws) ({ frames := 0, cells := 0, slots := 0, locals := 0 } : Room)) (fun aA UA => aA = #[(.ref a)] ∧ Z.Warmed39 UA.vm ∧ UA.heap = h0) (fun _ _ _ _ _ => True) (fun _ UA oA UB => ∃ rV LE, oA = .returned rV ∧ Qrm5 Z a t h0 n0 rV UB.heap LE ∧ FrameEnd UA oA UB LE ({ frames := 0, cells := 0, slots := 0, locals := 0 } : Room).cells ({ frames := 0, cells := 0, slots := 0, locals := 0 } : Room).slots) := by
  refine MetFree.of_bodySF (plainFor_of_name pn_0) hisR ?_
  intro p e s m args below meth c s₁ Bd hml0 hP hK
  obtain ⟨rfl, hZ, hh⟩ := hP
  have hx := Bd.exec
  have hby := Bd.bytes
  have hml : c.maxLocals = 1 := hml0
  have hown : s.vm.findClass "com/example/moat/moat/xpath/Handles" = some m.cls := findClass_of_methodNamed Bd.named
  have hnm := (name_of_methodNamed Bd.named Bd.method).1
  have hlk := Bd.notSynchronized
  have X0 : Stand p l e ({ frames := 0, cells := 0, slots := 0, locals := 0 } : Room) s m #[(.ref a)] below meth c s₁ [] 0 0 := Stand.of_body Bd
  have e0 : s₁.heap = h0 := by rw [← hh, Bd.state]; rfl
  have N0 := Fr.nil n0
  show Go p e below s (Qrm5 Z a t h0 n0) ({ frames := 0, cells := 0, slots := 0, locals := 0 } : Room).cells ({ frames := 0, cells := 0, slots := 0, locals := 0 } : Room).slots s₁ (entryFrame m #[(.ref a)] 1)
  refine Go.eq (ef_rm5 m a) ?_
  show Go p e below s _ _ _ s₁ (mkF m 0 #[.val (.ref a)] [])
  refine Go.st (fun _ => XS.aloadN X0.here hx rfl (hb hby d5_0) rfl rfl) ?_
  show Go p e below s _ _ _ s₁ (mkF m 1 #[.val (.ref a)] [(.ref a)])
  obtain ⟨T_1, X_1, e_1, st_1⟩ := getF X0 hx hZ hown (host := "") (Or.inl (hw _ (List.mem_of_getElem? (i := 11) rfl))) Via.refl e0 F_nodes_a (g := (mkF m 1 #[.val (.ref a)] [(.ref a)])) rfl rfl (hb hby d5_1)
  refine Go.st st_1 ?_
  show Go p e below s _ _ _ T_1 (mkF m 4 #[.val (.ref a)] [(.ref t)])
  exact Go.retA X_1 hx hlk Bd.returns rfl rfl (hb hby d5_4) (by rw [e_1]; exact ⟨rfl, N0, rfl⟩) (by decide) (by decide)
theorem d6_0 : decode method_2_code 0 = .ok (.iload_n 2, 1) := by decide +kernel
theorem d6_1 : decode method_2_code 1 = .ok (.iload_n 1, 1) := by decide +kernel
theorem d6_2 : decode method_2_code 2 = .ok (.if_icmp .ge 11, 3) := by decide +kernel
theorem d6_5 : decode method_2_code 5 = .ok (.aload_n 0, 1) := by decide +kernel
theorem d6_6 : decode method_2_code 6 = .ok (.iload_n 1, 1) := by decide +kernel
theorem d6_7 : decode method_2_code 7 = .ok (.iconst 1, 1) := by decide +kernel
theorem d6_8 : decode method_2_code 8 = .ok (.isub, 1) := by decide +kernel
theorem d6_9 : decode method_2_code 9 = .ok (.iload_n 2, 1) := by decide +kernel
theorem d6_10 : decode method_2_code 10 = .ok (.isub, 1) := by decide +kernel
theorem d6_11 : decode method_2_code 11 = .ok (.laload, 1) := by decide +kernel
theorem d6_12 : decode method_2_code 12 = .ok (.lreturn, 1) := by decide +kernel
theorem pn_1 : plainName "com/example/moat/moat/xpath/HandlesReversePinLaw" = true := by first | (simp [plainName, overriddenIn]; done) | decide +kernel
theorem ef_rmXa (m : MethodId) (t : Addr) (n : Int32) (i : Int32) : entryFrame m #[(.ref t), (.int n), (.int i)] 3 = mkF m 0 #[.val (.ref t), .val (.int n), .val (.int i)] [] := by first | (simp [entryFrame, mkF, argsToLocals, Value.category]; done) | rfl
def QrmXa (Z : State) (t : Addr) (n : Int32) (i : Int32) (kt : ClassId) (z : Int32) (vs : List Value) (dv : Value) (y : Int64) (h0 : Heap) (n0 : Nat) (rV : Option Value) (hE : Heap) (LE : List Loc) : Prop := rV = some (.long y) ∧ Fr n0 LE ∧ hE = h0
set_option maxRecDepth 65536 in
set_option maxHeartbeats 40000000 in
theorem rmXa (l : Launch) (Z : State) (a0 : Array Value) (hw : ∀ d ∈ tables_1, d.before a0 Z = true) (ws : List Jvm.Cond) (t : Addr) (n : Int32) (i : Int32) (kt : ClassId) (z : Int32) (vs : List Value) (dv : Value) (y : Int64) (h0 : Heap) (n0 : Nat) (Z0 : n0 ≤ h0.size) (V_t : Arv Z h0 t kt .long z vs dv) (hi : i < n) (hin : ¬ ((n - (1 : Int32)) - i) < 0 ∧ ((n - (1 : Int32)) - i) < z) (hget : vs.getD ((n - (1 : Int32)) - i).toNatClampNeg dv = .long y) :
    MetFree l (⟨"com/example/moat/moat/xpath/HandlesReversePinLaw", "exp", "([JII)J"⟩ : MethodName) (head1 (Jvm.Cond.code (⟨"com/example/moat/moat/xpath/HandlesReversePinLaw", "exp", "([JII)J"⟩ : MethodName) method_2_code 3 (some .long) :: ws) ({ frames := 0, cells := 0, slots := 0, locals := 0 } : Room)) (fun aA UA => aA = #[(.ref t), (.int n), (.int i)] ∧ Z.Warmed39 UA.vm ∧ UA.heap = h0) (fun _ _ _ _ _ => True) (fun _ UA oA UB => ∃ rV LE, oA = .returned rV ∧ QrmXa Z t n i kt z vs dv y h0 n0 rV UB.heap LE ∧ FrameEnd UA oA UB LE ({ frames := 0, cells := 0, slots := 0, locals := 0 } : Room).cells ({ frames := 0, cells := 0, slots := 0, locals := 0 } : Room).slots) := by
  refine MetFree.of_bodySF (plainFor_of_name pn_1) hisR ?_
  intro p e s m args below meth c s₁ Bd hml0 hP hK
  obtain ⟨rfl, hZ, hh⟩ := hP
  have hx := Bd.exec
  have hby := Bd.bytes
  have hml : c.maxLocals = 3 := hml0
  have hown : s.vm.findClass "com/example/moat/moat/xpath/HandlesReversePinLaw" = some m.cls := findClass_of_methodNamed Bd.named
  have hnm := (name_of_methodNamed Bd.named Bd.method).1
  have hlk := Bd.notSynchronized
  have X0 : Stand p l e ({ frames := 0, cells := 0, slots := 0, locals := 0 } : Room) s m #[(.ref t), (.int n), (.int i)] below meth c s₁ [] 0 0 := Stand.of_body Bd
  have e0 : s₁.heap = h0 := by rw [← hh, Bd.state]; rfl
  have N0 := Fr.nil n0
  show Go p e below s (QrmXa Z t n i kt z vs dv y h0 n0) ({ frames := 0, cells := 0, slots := 0, locals := 0 } : Room).cells ({ frames := 0, cells := 0, slots := 0, locals := 0 } : Room).slots s₁ (entryFrame m #[(.ref t), (.int n), (.int i)] 3)
  refine Go.eq (ef_rmXa m t n i) ?_
  show Go p e below s _ _ _ s₁ (mkF m 0 #[.val (.ref t), .val (.int n), .val (.int i)] [])
  refine Go.st (fun _ => XS.iloadN X0.here hx rfl (hb hby d6_0) rfl) ?_
  show Go p e below s _ _ _ s₁ (mkF m 1 #[.val (.ref t), .val (.int n), .val (.int i)] [(.int i)])
  refine Go.st (fun _ => XS.iloadN X0.here hx rfl (hb hby d6_1) rfl) ?_
  show Go p e below s _ _ _ s₁ (mkF m 2 #[.val (.ref t), .val (.int n), .val (.int i)] [(.int n), (.int i)])
  refine Go.st (fun _ => XS.icmpNo X0.here hx rfl (hb hby d6_2) rfl (tlt hi).2.1) ?_
  show Go p e below s _ _ _ s₁ (mkF m 5 #[.val (.ref t), .val (.int n), .val (.int i)] [])
  refine Go.st (fun _ => XS.aloadN X0.here hx rfl (hb hby d6_5) rfl rfl) ?_
  show Go p e below s _ _ _ s₁ (mkF m 6 #[.val (.ref t), .val (.int n), .val (.int i)] [(.ref t)])
  refine Go.st (fun _ => XS.iloadN X0.here hx rfl (hb hby d6_6) rfl) ?_
  show Go p e below s _ _ _ s₁ (mkF m 7 #[.val (.ref t), .val (.int n), .val (.int i)] [(.int n), (.ref t)])
  refine Go.st (fun _ => XS.iconst X0.here hx rfl (hb hby d6_7)) ?_
  show Go p e below s _ _ _ s₁ (mkF m 8 #[.val (.ref t), .val (.int n), .val (.int i)] [(.int (1 : Int32)), (.int n), (.ref t)])
  refine Go.st (fun _ => XS.isub X0.here hx rfl (hb hby d6_8) rfl) ?_
  show Go p e below s _ _ _ s₁ (mkF m 9 #[.val (.ref t), .val (.int n), .val (.int i)] [(.int (n - (1 : Int32))), (.ref t)])
  refine Go.st (fun _ => XS.iloadN X0.here hx rfl (hb hby d6_9) rfl) ?_
  show Go p e below s _ _ _ s₁ (mkF m 10 #[.val (.ref t), .val (.int n), .val (.int i)] [(.int i), (.int (n - (1 : Int32))), (.ref t)])
  refine Go.st (fun _ => XS.isub X0.here hx rfl (hb hby d6_10) rfl) ?_
  show Go p e below s _ _ _ s₁ (mkF m 11 #[.val (.ref t), .val (.int n), .val (.int i)] [(.int ((n - (1 : Int32)) - i)), (.ref t)])
  obtain ⟨cl_1, Ar_1, q_1, S_1, M_1, H_1, G_1⟩ := id V_t
  have hin_1 : ¬ (((n - (1 : Int32)) - i) < 0 ∨ cl_1.slots.size ≤ (((n - (1 : Int32)) - i)).toNatClampNeg) := inb_of S_1 hin
  have hat_1 : cl_1.slots[(((n - (1 : Int32)) - i)).toNatClampNeg]? = some (.long y) := H_1.at hin_1 hget
  refine Go.st (fun tG => X0.laload hx (j := ((n - (1 : Int32)) - i)) (v := (.long y)) (by rw [e0]; exact Ar_1.1) (State.isArrayOf_alike hZ.alike Ar_1.2.1) Ar_1.2.2 hin_1 hat_1 (g := (mkF m 11 #[.val (.ref t), .val (.int n), .val (.int i)] [(.int ((n - (1 : Int32)) - i)), (.ref t)])) rfl rfl (hb hby d6_11) tG) ?_
  show Go p e below s _ _ _ s₁ (mkF m 12 #[.val (.ref t), .val (.int n), .val (.int i)] [(.long y)])
  exact Go.retJ X0 hx hlk Bd.returns (hb hby d6_12) (by rw [e0]; exact ⟨rfl, N0, rfl⟩) (by decide) (by decide)
theorem d6_13 : decode method_2_code 13 = .ok (.lconst 0, 1) := by decide +kernel
theorem d6_14 : decode method_2_code 14 = .ok (.lreturn, 1) := by decide +kernel
theorem ef_rmXb (m : MethodId) (t : Addr) (n : Int32) (i : Int32) : entryFrame m #[(.ref t), (.int n), (.int i)] 3 = mkF m 0 #[.val (.ref t), .val (.int n), .val (.int i)] [] := by first | (simp [entryFrame, mkF, argsToLocals, Value.category]; done) | rfl
def QrmXb (Z : State) (t : Addr) (n : Int32) (i : Int32) (h0 : Heap) (n0 : Nat) (rV : Option Value) (hE : Heap) (LE : List Loc) : Prop := rV = some (.long (0 : Int64)) ∧ Fr n0 LE ∧ hE = h0
set_option maxRecDepth 65536 in
set_option maxHeartbeats 40000000 in
theorem rmXb (l : Launch) (Z : State) (a0 : Array Value) (hw : ∀ d ∈ tables_1, d.before a0 Z = true) (ws : List Jvm.Cond) (t : Addr) (n : Int32) (i : Int32) (h0 : Heap) (n0 : Nat) (Z0 : n0 ≤ h0.size) (hi : ¬ (i < n)) :
    MetFree l (⟨"com/example/moat/moat/xpath/HandlesReversePinLaw", "exp", "([JII)J"⟩ : MethodName) (head1 (Jvm.Cond.code (⟨"com/example/moat/moat/xpath/HandlesReversePinLaw", "exp", "([JII)J"⟩ : MethodName) method_2_code 3 (some .long) :: ws) ({ frames := 0, cells := 0, slots := 0, locals := 0 } : Room)) (fun aA UA => aA = #[(.ref t), (.int n), (.int i)] ∧ Z.Warmed39 UA.vm ∧ UA.heap = h0) (fun _ _ _ _ _ => True) (fun _ UA oA UB => ∃ rV LE, oA = .returned rV ∧ QrmXb Z t n i h0 n0 rV UB.heap LE ∧ FrameEnd UA oA UB LE ({ frames := 0, cells := 0, slots := 0, locals := 0 } : Room).cells ({ frames := 0, cells := 0, slots := 0, locals := 0 } : Room).slots) := by
  refine MetFree.of_bodySF (plainFor_of_name pn_1) hisR ?_
  intro p e s m args below meth c s₁ Bd hml0 hP hK
  obtain ⟨rfl, hZ, hh⟩ := hP
  have hx := Bd.exec
  have hby := Bd.bytes
  have hml : c.maxLocals = 3 := hml0
  have hown : s.vm.findClass "com/example/moat/moat/xpath/HandlesReversePinLaw" = some m.cls := findClass_of_methodNamed Bd.named
  have hnm := (name_of_methodNamed Bd.named Bd.method).1
  have hlk := Bd.notSynchronized
  have X0 : Stand p l e ({ frames := 0, cells := 0, slots := 0, locals := 0 } : Room) s m #[(.ref t), (.int n), (.int i)] below meth c s₁ [] 0 0 := Stand.of_body Bd
  have e0 : s₁.heap = h0 := by rw [← hh, Bd.state]; rfl
  have N0 := Fr.nil n0
  show Go p e below s (QrmXb Z t n i h0 n0) ({ frames := 0, cells := 0, slots := 0, locals := 0 } : Room).cells ({ frames := 0, cells := 0, slots := 0, locals := 0 } : Room).slots s₁ (entryFrame m #[(.ref t), (.int n), (.int i)] 3)
  refine Go.eq (ef_rmXb m t n i) ?_
  show Go p e below s _ _ _ s₁ (mkF m 0 #[.val (.ref t), .val (.int n), .val (.int i)] [])
  refine Go.st (fun _ => XS.iloadN X0.here hx rfl (hb hby d6_0) rfl) ?_
  show Go p e below s _ _ _ s₁ (mkF m 1 #[.val (.ref t), .val (.int n), .val (.int i)] [(.int i)])
  refine Go.st (fun _ => XS.iloadN X0.here hx rfl (hb hby d6_1) rfl) ?_
  show Go p e below s _ _ _ s₁ (mkF m 2 #[.val (.ref t), .val (.int n), .val (.int i)] [(.int n), (.int i)])
  refine Go.st (fun _ => XS.icmpYes X0.here hx rfl (pc0 := 2) (pc' := 13) rfl (hb hby d6_2) rfl (flt hi).2.1 (by decide) (by decide)) ?_
  show Go p e below s _ _ _ s₁ (mkF m 13 #[.val (.ref t), .val (.int n), .val (.int i)] [])
  refine Go.st (fun _ => XS.lconst X0.here hx rfl (hb hby d6_13)) ?_
  show Go p e below s _ _ _ s₁ (mkF m 14 #[.val (.ref t), .val (.int n), .val (.int i)] [(.long (0 : Int64))])
  exact Go.retJ X0 hx hlk Bd.returns (hb hby d6_14) (by rw [e0]; exact ⟨rfl, N0, rfl⟩) (by decide) (by decide)
theorem pd_0 : parseMethodDescriptor "()V" = some ⟨[], none⟩ := by decide +kernel
theorem pd_1 : parseMethodDescriptor "()I" = some ⟨[], some .int⟩ := by decide +kernel
theorem pd_2 : parseMethodDescriptor "()[J" = some ⟨[], some (.array .long)⟩ := by decide +kernel
theorem pd_3 : parseMethodDescriptor "([JII)J" = some ⟨[(.array .long), .int, .int], some .long⟩ := by decide +kernel
theorem pd_4 : parseMethodDescriptor "(J)V" = some ⟨[.long], none⟩ := by decide +kernel
theorem ef_rm0 (m : MethodId) (k : Int32) (q0 : Int64) (q1 : Int64) (q2 : Int64) (q3 : Int64) (q4 : Int64) : entryFrame m #[(.int k), (.long q0), (.long q1), (.long q2), (.long q3), (.long q4)] maxLocals = mkF m 0 #[.val (.int k), .val (.long q0), .second, .val (.long q1), .second, .val (.long q2), .second, .val (.long q3), .second, .val (.long q4), .second, .unset, .unset, .unset, .unset] [] := by first | (simp [entryFrame, mkF, argsToLocals, Value.category, maxLocals]; done) | rfl
def Qrm0 (Z : State) (k : Int32) (q0 : Int64) (q1 : Int64) (q2 : Int64) (q3 : Int64) (q4 : Int64) (h0 : Heap) (n0 : Nat) (rV : Option Value) (hE : Heap) (LE : List Loc) : Prop := rV = some (.int (1 : Int32)) ∧ Fr n0 LE
set_option maxRecDepth 65536 in
set_option maxHeartbeats 40000000 in
theorem rm0 (l : Launch) (Z : State) (a0 : Array Value) (hw : ∀ d ∈ tables_1, d.before a0 Z = true) (ws : List Jvm.Cond) (k : Int32) (q0 : Int64) (q1 : Int64) (q2 : Int64) (q3 : Int64) (q4 : Int64) (h0 : Heap) (n0 : Nat) (Z0 : n0 ≤ h0.size) :
    MetFree l x (head1 (Jvm.Cond.code x code maxLocals ret :: ws) room_1) (fun aA UA => aA = #[(.int k), (.long q0), (.long q1), (.long q2), (.long q3), (.long q4)] ∧ Z.Warmed39 UA.vm ∧ UA.heap = h0) (fun _ _ _ _ _ => True) (fun _ UA oA UB => ∃ rV LE, oA = .returned rV ∧ Qrm0 Z k q0 q1 q2 q3 q4 h0 n0 rV UB.heap LE ∧ FrameEnd UA oA UB LE room_1.cells room_1.slots) := by
  refine MetFree.of_bodySF (plainFor_of_name pn_1) hisR ?_
  intro p e s m args below meth c s₁ Bd hml0 hP hK
  obtain ⟨rfl, hZ, hh⟩ := hP
  have hx := Bd.exec
  have hby := Bd.bytes
  have hml : c.maxLocals = 15 := hml0
  have hown : s.vm.findClass "com/example/moat/moat/xpath/HandlesReversePinLaw" = some m.cls := findClass_of_methodNamed Bd.named
  have hnm := (name_of_methodNamed Bd.named Bd.method).1
  have hlk := Bd.notSynchronized
  have X0 : Stand p l e room_1 s m #[(.int k), (.long q0), (.long q1), (.long q2), (.long q3), (.long q4)] below meth c s₁ [] 0 0 := Stand.of_body Bd
  have e0 : s₁.heap = h0 := by rw [← hh, Bd.state]; rfl
  have N0 := Fr.nil n0
  show Go p e below s (Qrm0 Z k q0 q1 q2 q3 q4 h0 n0) room_1.cells room_1.slots s₁ (entryFrame m #[(.int k), (.long q0), (.long q1), (.long q2), (.long q3), (.long q4)] maxLocals)
  refine Go.eq (ef_rm0 m k q0 q1 q2 q3 q4) ?_
  show Go p e below s _ _ _ s₁ (mkF m 0 #[.val (.int k), .val (.long q0), .second, .val (.long q1), .second, .val (.long q2), .second, .val (.long q3), .second, .val (.long q4), .second, .unset, .unset, .unset, .unset] [])
  refine Go.st (fun _ => XS.iloadN X0.here hx rfl (hb hby at_0) rfl) ?_
  show Go p e below s _ _ _ s₁ (mkF m 1 #[.val (.int k), .val (.long q0), .second, .val (.long q1), .second, .val (.long q2), .second, .val (.long q3), .second, .val (.long q4), .second, .unset, .unset, .unset, .unset] [(.int k)])
  refine Go.st (fun tG => X0.ldcInt hx hown (mvT hZ (hw _ (List.mem_of_getElem? (i := 0) rfl))) (g := (mkF m 1 #[.val (.int k), .val (.long q0), .second, .val (.long q1), .second, .val (.long q2), .second, .val (.long q3), .second, .val (.long q4), .second, .unset, .unset, .unset, .unset] [(.int k)])) rfl (hb hby at_1) tG) ?_
  show Go p e below s _ _ _ s₁ (mkF m 3 #[.val (.int k), .val (.long q0), .second, .val (.long q1), .second, .val (.long q2), .second, .val (.long q3), .second, .val (.long q4), .second, .unset, .unset, .unset, .unset] [(.int (2147483647 : Int32)), (.int k)])
  refine Go.st (fun _ => XS.iand X0.here hx rfl (hb hby at_3) rfl) ?_
  show Go p e below s _ _ _ s₁ (mkF m 4 #[.val (.int k), .val (.long q0), .second, .val (.long q1), .second, .val (.long q2), .second, .val (.long q3), .second, .val (.long q4), .second, .unset, .unset, .unset, .unset] [(.int (k &&& (2147483647 : Int32)))])
  refine Go.st (fun _ => XS.bipush X0.here hx rfl (hb hby at_4)) ?_
  show Go p e below s _ _ _ s₁ (mkF m 6 #[.val (.int k), .val (.long q0), .second, .val (.long q1), .second, .val (.long q2), .second, .val (.long q3), .second, .val (.long q4), .second, .unset, .unset, .unset, .unset] [(.int (6 : Int32)), (.int (k &&& (2147483647 : Int32)))])
  refine Go.st (fun _ => iremM X0 hx rfl (hb hby at_6) rfl (by decide)) ?_
  show Go p e below s _ _ _ s₁ (mkF m 7 #[.val (.int k), .val (.long q0), .second, .val (.long q1), .second, .val (.long q2), .second, .val (.long q3), .second, .val (.long q4), .second, .unset, .unset, .unset, .unset] [(.int ((k &&& (2147483647 : Int32)) % (6 : Int32)))])
  rcases own_mod k with hd_1 | hd_1 | hd_1 | hd_1 | hd_1 | hd_1
  · rw [show ((k &&& (2147483647 : Int32)) % (6 : Int32)) = (0 : Int32) from hd_1]
    show Go p e below s _ _ _ s₁ (mkF m 7 #[.val (.int k), .val (.long q0), .second, .val (.long q1), .second, .val (.long q2), .second, .val (.long q3), .second, .val (.long q4), .second, .unset, .unset, .unset, .unset] [(.int (0 : Int32))])
    refine Go.st (fun _ => XS.istore X0.here hx rfl (hb hby at_7) rfl (l' := #[.val (.int k), .val (.long q0), .second, .val (.long q1), .second, .val (.long q2), .second, .val (.long q3), .second, .val (.long q4), .second, .val (.int (0 : Int32)), .unset, .unset, .unset]) rfl) ?_
    show Go p e below s _ _ _ s₁ (mkF m 9 #[.val (.int k), .val (.long q0), .second, .val (.long q1), .second, .val (.long q2), .second, .val (.long q3), .second, .val (.long q4), .second, .val (.int (0 : Int32)), .unset, .unset, .unset] [])
    refine Go.st (fun _ => XS.iconst X0.here hx rfl (hb hby at_9)) ?_
    show Go p e below s _ _ _ s₁ (mkF m 10 #[.val (.int k), .val (.long q0), .second, .val (.long q1), .second, .val (.long q2), .second, .val (.long q3), .second, .val (.long q4), .second, .val (.int (0 : Int32)), .unset, .unset, .unset] [(.int (5 : Int32))])
    obtain ⟨T_2, h_2, kA_2, X_2, e_2, E_2, A_2, st_2⟩ := newP X0 hx hZ (hw _ (List.mem_of_getElem? (i := 1) rfl)) e0 (g := (mkF m 10 #[.val (.int k), .val (.long q0), .second, .val (.long q1), .second, .val (.long q2), .second, .val (.long q3), .second, .val (.long q4), .second, .val (.int (0 : Int32)), .unset, .unset, .unset] [(.int (5 : Int32))])) rfl (hb hby at_10) rfl (by decide) (cap := 5) (by decide) (by decide) (by decide) (by decide)
    obtain ⟨b_2, g_2⟩ : ∃ z, z = h0.size := ⟨_, rfl⟩
    rw [← g_2] at A_2 st_2
    refine Go.st st_2 ?_
    have gg_2 : n0 ≤ b_2 := Nat.le_trans Z0 (Nat.le_of_eq g_2.symm)
    have z_2 : n0 ≤ h_2.size := Nat.le_trans Z0 E_2.1
    have V_b_2 : Arv Z h_2 b_2 kA_2 .long (5 : Int32) [(.long (0 : Int64)), (.long (0 : Int64)), (.long (0 : Int64)), (.long (0 : Int64)), (.long (0 : Int64))] (.long (0 : Int64)) := (Arv.new A_2 (by decide)).pad (pad_rep [] (.long (0 : Int64)) 5)
    show Go p e below s _ _ _ T_2 (mkF m 12 #[.val (.int k), .val (.long q0), .second, .val (.long q1), .second, .val (.long q2), .second, .val (.long q3), .second, .val (.long q4), .second, .val (.int (0 : Int32)), .unset, .unset, .unset] [(.ref b_2)])
    refine Go.st (fun _ => XS.dup X_2.here hx rfl (hb hby at_12) rfl rfl) ?_
    show Go p e below s _ _ _ T_2 (mkF m 13 #[.val (.int k), .val (.long q0), .second, .val (.long q1), .second, .val (.long q2), .second, .val (.long q3), .second, .val (.long q4), .second, .val (.int (0 : Int32)), .unset, .unset, .unset] [(.ref b_2), (.ref b_2)])
    refine Go.st (fun _ => XS.iconst X_2.here hx rfl (hb hby at_13)) ?_
    show Go p e below s _ _ _ T_2 (mkF m 14 #[.val (.int k), .val (.long q0), .second, .val (.long q1), .second, .val (.long q2), .second, .val (.long q3), .second, .val (.long q4), .second, .val (.int (0 : Int32)), .unset, .unset, .unset] [(.int (0 : Int32)), (.ref b_2), (.ref b_2)])
    refine Go.st (fun _ => XS.lloadN X_2.here hx rfl (hb hby at_14) rfl) ?_
    show Go p e below s _ _ _ T_2 (mkF m 15 #[.val (.int k), .val (.long q0), .second, .val (.long q1), .second, .val (.long q2), .second, .val (.long q3), .second, .val (.long q4), .second, .val (.int (0 : Int32)), .unset, .unset, .unset] [(.long q0), (.int (0 : Int32)), (.ref b_2), (.ref b_2)])
    obtain ⟨cl_3, Ar_3, q_3, S_3, M_3, H_3, G_3⟩ := id V_b_2
    have hin_3 : ¬ ((0 : Int32) < 0 ∨ cl_3.slots.size ≤ ((0 : Int32)).toNatClampNeg) := inb_of S_3 ⟨by decide, by decide⟩
    obtain ⟨T_3, h_3, X_3, e_3, W_3, st_3⟩ := stJ X_2 hx hZ e_2 Ar_3 (j := (0 : Int32)) hin_3 (g := (mkF m 15 #[.val (.int k), .val (.long q0), .second, .val (.long q1), .second, .val (.long q2), .second, .val (.long q3), .second, .val (.long q4), .second, .val (.int (0 : Int32)), .unset, .unset, .unset] [(.long q0), (.int (0 : Int32)), (.ref b_2), (.ref b_2)])) rfl rfl (hb hby at_15)
    refine Go.st st_3 ?_
    have V_3 : Arv Z h_3 b_2 kA_2 .long (5 : Int32) [(.long q0), (.long (0 : Int64)), (.long (0 : Int64)), (.long (0 : Int64)), (.long (0 : Int64))] (.long (0 : Int64)) := Arv.set Ar_3 q_3 S_3 M_3 H_3 G_3 rfl W_3 0 rfl (Nat.le_of_ble_eq_true rfl)
    have N_3 := Fr.snoc X_3 N0 gg_2
    have z_3 : n0 ≤ h_3.size := Nat.le_trans z_2 (Nat.le_of_eq W_3.size.symm)
    show Go p e below s _ _ _ T_3 (mkF m 16 #[.val (.int k), .val (.long q0), .second, .val (.long q1), .second, .val (.long q2), .second, .val (.long q3), .second, .val (.long q4), .second, .val (.int (0 : Int32)), .unset, .unset, .unset] [(.ref b_2)])
    refine Go.st (fun _ => XS.dup X_3.here hx rfl (hb hby at_16) rfl rfl) ?_
    show Go p e below s _ _ _ T_3 (mkF m 17 #[.val (.int k), .val (.long q0), .second, .val (.long q1), .second, .val (.long q2), .second, .val (.long q3), .second, .val (.long q4), .second, .val (.int (0 : Int32)), .unset, .unset, .unset] [(.ref b_2), (.ref b_2)])
    refine Go.st (fun _ => XS.iconst X_3.here hx rfl (hb hby at_17)) ?_
    show Go p e below s _ _ _ T_3 (mkF m 18 #[.val (.int k), .val (.long q0), .second, .val (.long q1), .second, .val (.long q2), .second, .val (.long q3), .second, .val (.long q4), .second, .val (.int (0 : Int32)), .unset, .unset, .unset] [(.int (1 : Int32)), (.ref b_2), (.ref b_2)])
    refine Go.st (fun _ => XS.lloadN X_3.here hx rfl (hb hby at_18) rfl) ?_
    show Go p e below s _ _ _ T_3 (mkF m 19 #[.val (.int k), .val (.long q0), .second, .val (.long q1), .second, .val (.long q2), .second, .val (.long q3), .second, .val (.long q4), .second, .val (.int (0 : Int32)), .unset, .unset, .unset] [(.long q1), (.int (1 : Int32)), (.ref b_2), (.ref b_2)])
    obtain ⟨cl_4, Ar_4, q_4, S_4, M_4, H_4, G_4⟩ := id V_3
    have hin_4 : ¬ ((1 : Int32) < 0 ∨ cl_4.slots.size ≤ ((1 : Int32)).toNatClampNeg) := inb_of S_4 ⟨by decide, by decide⟩
    obtain ⟨T_4, h_4, X_4, e_4, W_4, st_4⟩ := stJ X_3 hx hZ e_3 Ar_4 (j := (1 : Int32)) hin_4 (g := (mkF m 19 #[.val (.int k), .val (.long q0), .second, .val (.long q1), .second, .val (.long q2), .second, .val (.long q3), .second, .val (.long q4), .second, .val (.int (0 : Int32)), .unset, .unset, .unset] [(.long q1), (.int (1 : Int32)), (.ref b_2), (.ref b_2)])) rfl rfl (hb hby at_19)
    refine Go.st st_4 ?_
    have V_4 : Arv Z h_4 b_2 kA_2 .long (5 : Int32) [(.long q0), (.long q1), (.long (0 : Int64)), (.long (0 : Int64)), (.long (0 : Int64))] (.long (0 : Int64)) := Arv.set Ar_4 q_4 S_4 M_4 H_4 G_4 rfl W_4 1 rfl (Nat.le_of_ble_eq_true rfl)
    have N_4 := Fr.snoc X_4 N_3 gg_2
    have z_4 : n0 ≤ h_4.size := Nat.le_trans z_3 (Nat.le_of_eq W_4.size.symm)
    show Go p e below s _ _ _ T_4 (mkF m 20 #[.val (.int k), .val (.long q0), .second, .val (.long q1), .second, .val (.long q2), .second, .val (.long q3), .second, .val (.long q4), .second, .val (.int (0 : Int32)), .unset, .unset, .unset] [(.ref b_2)])
    refine Go.st (fun _ => XS.dup X_4.here hx rfl (hb hby at_20) rfl rfl) ?_
    show Go p e below s _ _ _ T_4 (mkF m 21 #[.val (.int k), .val (.long q0), .second, .val (.long q1), .second, .val (.long q2), .second, .val (.long q3), .second, .val (.long q4), .second, .val (.int (0 : Int32)), .unset, .unset, .unset] [(.ref b_2), (.ref b_2)])
    refine Go.st (fun _ => XS.iconst X_4.here hx rfl (hb hby at_21)) ?_
    show Go p e below s _ _ _ T_4 (mkF m 22 #[.val (.int k), .val (.long q0), .second, .val (.long q1), .second, .val (.long q2), .second, .val (.long q3), .second, .val (.long q4), .second, .val (.int (0 : Int32)), .unset, .unset, .unset] [(.int (2 : Int32)), (.ref b_2), (.ref b_2)])
    refine Go.st (fun _ => XS.lload X_4.here hx rfl (hb hby at_22) rfl) ?_
    show Go p e below s _ _ _ T_4 (mkF m 24 #[.val (.int k), .val (.long q0), .second, .val (.long q1), .second, .val (.long q2), .second, .val (.long q3), .second, .val (.long q4), .second, .val (.int (0 : Int32)), .unset, .unset, .unset] [(.long q2), (.int (2 : Int32)), (.ref b_2), (.ref b_2)])
    obtain ⟨cl_5, Ar_5, q_5, S_5, M_5, H_5, G_5⟩ := id V_4
    have hin_5 : ¬ ((2 : Int32) < 0 ∨ cl_5.slots.size ≤ ((2 : Int32)).toNatClampNeg) := inb_of S_5 ⟨by decide, by decide⟩
    obtain ⟨T_5, h_5, X_5, e_5, W_5, st_5⟩ := stJ X_4 hx hZ e_4 Ar_5 (j := (2 : Int32)) hin_5 (g := (mkF m 24 #[.val (.int k), .val (.long q0), .second, .val (.long q1), .second, .val (.long q2), .second, .val (.long q3), .second, .val (.long q4), .second, .val (.int (0 : Int32)), .unset, .unset, .unset] [(.long q2), (.int (2 : Int32)), (.ref b_2), (.ref b_2)])) rfl rfl (hb hby at_24)
    refine Go.st st_5 ?_
    have V_5 : Arv Z h_5 b_2 kA_2 .long (5 : Int32) [(.long q0), (.long q1), (.long q2), (.long (0 : Int64)), (.long (0 : Int64))] (.long (0 : Int64)) := Arv.set Ar_5 q_5 S_5 M_5 H_5 G_5 rfl W_5 2 rfl (Nat.le_of_ble_eq_true rfl)
    have N_5 := Fr.snoc X_5 N_4 gg_2
    have z_5 : n0 ≤ h_5.size := Nat.le_trans z_4 (Nat.le_of_eq W_5.size.symm)
    show Go p e below s _ _ _ T_5 (mkF m 25 #[.val (.int k), .val (.long q0), .second, .val (.long q1), .second, .val (.long q2), .second, .val (.long q3), .second, .val (.long q4), .second, .val (.int (0 : Int32)), .unset, .unset, .unset] [(.ref b_2)])
    refine Go.st (fun _ => XS.dup X_5.here hx rfl (hb hby at_25) rfl rfl) ?_
    show Go p e below s _ _ _ T_5 (mkF m 26 #[.val (.int k), .val (.long q0), .second, .val (.long q1), .second, .val (.long q2), .second, .val (.long q3), .second, .val (.long q4), .second, .val (.int (0 : Int32)), .unset, .unset, .unset] [(.ref b_2), (.ref b_2)])
    refine Go.st (fun _ => XS.iconst X_5.here hx rfl (hb hby at_26)) ?_
    show Go p e below s _ _ _ T_5 (mkF m 27 #[.val (.int k), .val (.long q0), .second, .val (.long q1), .second, .val (.long q2), .second, .val (.long q3), .second, .val (.long q4), .second, .val (.int (0 : Int32)), .unset, .unset, .unset] [(.int (3 : Int32)), (.ref b_2), (.ref b_2)])
    refine Go.st (fun _ => XS.lload X_5.here hx rfl (hb hby at_27) rfl) ?_
    show Go p e below s _ _ _ T_5 (mkF m 29 #[.val (.int k), .val (.long q0), .second, .val (.long q1), .second, .val (.long q2), .second, .val (.long q3), .second, .val (.long q4), .second, .val (.int (0 : Int32)), .unset, .unset, .unset] [(.long q3), (.int (3 : Int32)), (.ref b_2), (.ref b_2)])
    obtain ⟨cl_6, Ar_6, q_6, S_6, M_6, H_6, G_6⟩ := id V_5
    have hin_6 : ¬ ((3 : Int32) < 0 ∨ cl_6.slots.size ≤ ((3 : Int32)).toNatClampNeg) := inb_of S_6 ⟨by decide, by decide⟩
    obtain ⟨T_6, h_6, X_6, e_6, W_6, st_6⟩ := stJ X_5 hx hZ e_5 Ar_6 (j := (3 : Int32)) hin_6 (g := (mkF m 29 #[.val (.int k), .val (.long q0), .second, .val (.long q1), .second, .val (.long q2), .second, .val (.long q3), .second, .val (.long q4), .second, .val (.int (0 : Int32)), .unset, .unset, .unset] [(.long q3), (.int (3 : Int32)), (.ref b_2), (.ref b_2)])) rfl rfl (hb hby at_29)
    refine Go.st st_6 ?_
    have V_6 : Arv Z h_6 b_2 kA_2 .long (5 : Int32) [(.long q0), (.long q1), (.long q2), (.long q3), (.long (0 : Int64))] (.long (0 : Int64)) := Arv.set Ar_6 q_6 S_6 M_6 H_6 G_6 rfl W_6 3 rfl (Nat.le_of_ble_eq_true rfl)
    have N_6 := Fr.snoc X_6 N_5 gg_2
    have z_6 : n0 ≤ h_6.size := Nat.le_trans z_5 (Nat.le_of_eq W_6.size.symm)
    show Go p e below s _ _ _ T_6 (mkF m 30 #[.val (.int k), .val (.long q0), .second, .val (.long q1), .second, .val (.long q2), .second, .val (.long q3), .second, .val (.long q4), .second, .val (.int (0 : Int32)), .unset, .unset, .unset] [(.ref b_2)])
    refine Go.st (fun _ => XS.dup X_6.here hx rfl (hb hby at_30) rfl rfl) ?_
    show Go p e below s _ _ _ T_6 (mkF m 31 #[.val (.int k), .val (.long q0), .second, .val (.long q1), .second, .val (.long q2), .second, .val (.long q3), .second, .val (.long q4), .second, .val (.int (0 : Int32)), .unset, .unset, .unset] [(.ref b_2), (.ref b_2)])
    refine Go.st (fun _ => XS.iconst X_6.here hx rfl (hb hby at_31)) ?_
    show Go p e below s _ _ _ T_6 (mkF m 32 #[.val (.int k), .val (.long q0), .second, .val (.long q1), .second, .val (.long q2), .second, .val (.long q3), .second, .val (.long q4), .second, .val (.int (0 : Int32)), .unset, .unset, .unset] [(.int (4 : Int32)), (.ref b_2), (.ref b_2)])
    refine Go.st (fun _ => XS.lload X_6.here hx rfl (hb hby at_32) rfl) ?_
    show Go p e below s _ _ _ T_6 (mkF m 34 #[.val (.int k), .val (.long q0), .second, .val (.long q1), .second, .val (.long q2), .second, .val (.long q3), .second, .val (.long q4), .second, .val (.int (0 : Int32)), .unset, .unset, .unset] [(.long q4), (.int (4 : Int32)), (.ref b_2), (.ref b_2)])
    obtain ⟨cl_7, Ar_7, q_7, S_7, M_7, H_7, G_7⟩ := id V_6
    have hin_7 : ¬ ((4 : Int32) < 0 ∨ cl_7.slots.size ≤ ((4 : Int32)).toNatClampNeg) := inb_of S_7 ⟨by decide, by decide⟩
    obtain ⟨T_7, h_7, X_7, e_7, W_7, st_7⟩ := stJ X_6 hx hZ e_6 Ar_7 (j := (4 : Int32)) hin_7 (g := (mkF m 34 #[.val (.int k), .val (.long q0), .second, .val (.long q1), .second, .val (.long q2), .second, .val (.long q3), .second, .val (.long q4), .second, .val (.int (0 : Int32)), .unset, .unset, .unset] [(.long q4), (.int (4 : Int32)), (.ref b_2), (.ref b_2)])) rfl rfl (hb hby at_34)
    refine Go.st st_7 ?_
    have V_7 : Arv Z h_7 b_2 kA_2 .long (5 : Int32) [(.long q0), (.long q1), (.long q2), (.long q3), (.long q4)] (.long (0 : Int64)) := Arv.set Ar_7 q_7 S_7 M_7 H_7 G_7 rfl W_7 4 rfl (Nat.le_of_ble_eq_true rfl)
    have N_7 := Fr.snoc X_7 N_6 gg_2
    have z_7 : n0 ≤ h_7.size := Nat.le_trans z_6 (Nat.le_of_eq W_7.size.symm)
    show Go p e below s _ _ _ T_7 (mkF m 35 #[.val (.int k), .val (.long q0), .second, .val (.long q1), .second, .val (.long q2), .second, .val (.long q3), .second, .val (.long q4), .second, .val (.int (0 : Int32)), .unset, .unset, .unset] [(.ref b_2)])
    refine Go.st (fun _ => XS.astore X_7.here hx rfl (hb hby at_35) rfl rfl (l' := #[.val (.int k), .val (.long q0), .second, .val (.long q1), .second, .val (.long q2), .second, .val (.long q3), .second, .val (.long q4), .second, .val (.int (0 : Int32)), .val (.ref b_2), .unset, .unset]) rfl) ?_
    show Go p e below s _ _ _ T_7 (mkF m 37 #[.val (.int k), .val (.long q0), .second, .val (.long q1), .second, .val (.long q2), .second, .val (.long q3), .second, .val (.long q4), .second, .val (.int (0 : Int32)), .val (.ref b_2), .unset, .unset] [])
    obtain ⟨T_8, h_8, X_8, e_8, E_8, A_8, D_8, -, st_8⟩ := newO X_7 hx hZ hown (hw _ (List.mem_of_getElem? (i := 2) rfl)) (hw _ (List.mem_of_getElem? (i := 3) rfl)) (hw _ (List.mem_of_getElem? (i := 4) rfl)) e_7 (g := (mkF m 37 #[.val (.int k), .val (.long q0), .second, .val (.long q1), .second, .val (.long q2), .second, .val (.long q3), .second, .val (.long q4), .second, .val (.int (0 : Int32)), .val (.ref b_2), .unset, .unset] [])) rfl (hb hby at_37) (by decide) (by decide)
    obtain ⟨b_8, g_8⟩ : ∃ z, z = h_7.size := ⟨_, rfl⟩
    rw [← g_8] at A_8 D_8 st_8
    refine Go.st st_8 ?_
    have ne_b_2_b_8 : b_2 ≠ b_8 := Nat.ne_of_lt (Nat.lt_of_lt_of_eq V_7.lt g_8.symm)
    have gg_8 : n0 ≤ b_8 := Nat.le_trans z_7 (Nat.le_of_eq g_8.symm)
    have z_8 : n0 ≤ h_8.size := Nat.le_trans z_7 E_8.1
    have F_nodes_b_8 : Fld Z h_8 b_8 "com/example/moat/moat/xpath/Handles" "nodes" "[J" .null := D_8 (Or.inl (hw _ (List.mem_of_getElem? (i := 12) rfl))) (ty := (.array .long)) (by decide)
    have F_size_b_8 : Fld Z h_8 b_8 "com/example/moat/moat/xpath/Handles" "size" "I" (.int (0 : Int32)) := D_8 (Or.inl (hw _ (List.mem_of_getElem? (i := 19) rfl))) (ty := .int) (by decide)
    show Go p e below s _ _ _ T_8 (mkF m 40 #[.val (.int k), .val (.long q0), .second, .val (.long q1), .second, .val (.long q2), .second, .val (.long q3), .second, .val (.long q4), .second, .val (.int (0 : Int32)), .val (.ref b_2), .unset, .unset] [(.ref b_8)])
    refine Go.st (fun _ => XS.dup X_8.here hx rfl (hb hby at_40) rfl rfl) ?_
    show Go p e below s _ _ _ T_8 (mkF m 41 #[.val (.int k), .val (.long q0), .second, .val (.long q1), .second, .val (.long q2), .second, .val (.long q3), .second, .val (.long q4), .second, .val (.int (0 : Int32)), .val (.ref b_2), .unset, .unset] [(.ref b_8), (.ref b_8)])
    obtain ⟨_, _, ⟨T_9, L_9, kc_9, nc_9⟩, -, X_9, ⟨Lc_9, hQ_9, l_9, y_9, z_9⟩, st_9⟩ := X_8.specialBack hx (y := (⟨"com/example/moat/moat/xpath/Handles", "<init>", "()V"⟩ : MethodName)) rfl hown (mvT hZ (hw _ (List.mem_of_getElem? (i := 5) rfl))) (mvT hZ (hw _ (List.mem_of_getElem? (i := 6) rfl))) (mvT hZ (hw _ (List.mem_of_getElem? (i := 7) rfl))) (by decide) (backOf (W := 1) (rm1 l Z a0 hw [] b_8 h_8 n0 z_8 A_8 F_nodes_b_8 F_size_b_8 gg_8) hZ (hw _ (List.mem_of_getElem? (i := 7) rfl)) (hw _ (List.mem_of_getElem? (i := 4) rfl)) (by decide) (by decide)) (g := (mkF m 41 #[.val (.int k), .val (.long q0), .second, .val (.long q1), .second, .val (.long q2), .second, .val (.long q3), .second, .val (.long q4), .second, .val (.int (0 : Int32)), .val (.ref b_2), .unset, .unset] [(.ref b_8), (.ref b_8)])) rfl (by rw [hml]; rfl) (Steps.refl _) (a := b_8) (argsL := []) (rest := [(.ref b_8)]) (lenOf pd_0 rfl) rfl (by show 2 * 0 + _ ≤ _; exact Nat.le_of_eq rfl) (hb hby at_41) (fun _ _ => ⟨rfl, e_8, (by decide : 2 + 1 ≤ _), (by decide : 7 + 8 ≤ _)⟩)
    dsimp only [Pt.U, Pt.locs, Pt.cells, Pt.slots] at X_9 l_9 y_9 z_9 st_9 hQ_9
    obtain rfl : kc_9 = 3 := y_9
    obtain rfl : nc_9 = 15 := z_9
    obtain ⟨h_9, e_9⟩ : ∃ hh, T_9.heap = hh := ⟨_, rfl⟩
    rw [e_9] at hQ_9
    obtain ⟨t__9, kt__9, rfl, N_9q, K_9, p_9_0, p_9_1, p_9_2, p_9_3, p_9_4, p_9_5⟩ := hQ_9
    have N_9 : Fr n0 L_9 := by rw [l_9]; exact Fr.app N_7 N_9q
    refine Go.st (fun _ kk => st_9.trans kk) ?_
    have f_10 := (V_7.ext E_8)
    have ne_b_2_t__9 : b_2 ≠ t__9 := Nat.ne_of_lt (Nat.lt_of_lt_of_le f_10.lt p_9_1)
    have ne_b_8_t__9 : b_8 ≠ t__9 := Nat.ne_of_lt (Nat.lt_of_lt_of_le A_8.lt p_9_1)
    have z_9q : n0 ≤ h_9.size := Nat.le_trans z_8 K_9.1
    show Go p e below s _ _ _ T_9 (mkF m 44 #[.val (.int k), .val (.long q0), .second, .val (.long q1), .second, .val (.long q2), .second, .val (.long q3), .second, .val (.long q4), .second, .val (.int (0 : Int32)), .val (.ref b_2), .unset, .unset] [(.ref b_8)])
    refine Go.st (fun _ => XS.astore X_9.here hx rfl (hb hby at_44) rfl rfl (l' := #[.val (.int k), .val (.long q0), .second, .val (.long q1), .second, .val (.long q2), .second, .val (.long q3), .second, .val (.long q4), .second, .val (.int (0 : Int32)), .val (.ref b_2), .val (.ref b_8), .unset]) rfl) ?_
    show Go p e below s _ _ _ T_9 (mkF m 46 #[.val (.int k), .val (.long q0), .second, .val (.long q1), .second, .val (.long q2), .second, .val (.long q3), .second, .val (.long q4), .second, .val (.int (0 : Int32)), .val (.ref b_2), .val (.ref b_8), .unset] [])
    refine Go.st (fun _ => XS.iload X_9.here hx rfl (hb hby at_46) rfl) ?_
    show Go p e below s _ _ _ T_9 (mkF m 48 #[.val (.int k), .val (.long q0), .second, .val (.long q1), .second, .val (.long q2), .second, .val (.long q3), .second, .val (.long q4), .second, .val (.int (0 : Int32)), .val (.ref b_2), .val (.ref b_8), .unset] [(.int (0 : Int32))])
    refine Go.st (fun _ => XS.ifYes X_9.here hx rfl (pc0 := 48) (pc' := 57) rfl (hb hby at_48) rfl ((if0 _ _).trans (flt (by decide : ¬ ((0 : Int32) < (0 : Int32)))).2.2.2) (by decide) (by decide)) ?_
    show Go p e below s _ _ _ T_9 (mkF m 57 #[.val (.int k), .val (.long q0), .second, .val (.long q1), .second, .val (.long q2), .second, .val (.long q3), .second, .val (.long q4), .second, .val (.int (0 : Int32)), .val (.ref b_2), .val (.ref b_8), .unset] [])
    refine Go.st (fun _ => XS.iload X_9.here hx rfl (hb hby at_57) rfl) ?_
    show Go p e below s _ _ _ T_9 (mkF m 59 #[.val (.int k), .val (.long q0), .second, .val (.long q1), .second, .val (.long q2), .second, .val (.long q3), .second, .val (.long q4), .second, .val (.int (0 : Int32)), .val (.ref b_2), .val (.ref b_8), .unset] [(.int (0 : Int32))])
    refine Go.st (fun _ => XS.iconst X_9.here hx rfl (hb hby at_59)) ?_
    show Go p e below s _ _ _ T_9 (mkF m 60 #[.val (.int k), .val (.long q0), .second, .val (.long q1), .second, .val (.long q2), .second, .val (.long q3), .second, .val (.long q4), .second, .val (.int (0 : Int32)), .val (.ref b_2), .val (.ref b_8), .unset] [(.int (1 : Int32)), (.int (0 : Int32))])
    refine Go.st (fun _ => XS.icmpYes X_9.here hx rfl (pc0 := 60) (pc' := 69) rfl (hb hby at_60) rfl (flt (by decide : ¬ ((1 : Int32) < (0 : Int32)))).2.2.2 (by decide) (by decide)) ?_
    show Go p e below s _ _ _ T_9 (mkF m 69 #[.val (.int k), .val (.long q0), .second, .val (.long q1), .second, .val (.long q2), .second, .val (.long q3), .second, .val (.long q4), .second, .val (.int (0 : Int32)), .val (.ref b_2), .val (.ref b_8), .unset] [])
    refine Go.st (fun _ => XS.iload X_9.here hx rfl (hb hby at_69) rfl) ?_
    show Go p e below s _ _ _ T_9 (mkF m 71 #[.val (.int k), .val (.long q0), .second, .val (.long q1), .second, .val (.long q2), .second, .val (.long q3), .second, .val (.long q4), .second, .val (.int (0 : Int32)), .val (.ref b_2), .val (.ref b_8), .unset] [(.int (0 : Int32))])
    refine Go.st (fun _ => XS.iconst X_9.here hx rfl (hb hby at_71)) ?_
    show Go p e below s _ _ _ T_9 (mkF m 72 #[.val (.int k), .val (.long q0), .second, .val (.long q1), .second, .val (.long q2), .second, .val (.long q3), .second, .val (.long q4), .second, .val (.int (0 : Int32)), .val (.ref b_2), .val (.ref b_8), .unset] [(.int (2 : Int32)), (.int (0 : Int32))])
    refine Go.st (fun _ => XS.icmpYes X_9.here hx rfl (pc0 := 72) (pc' := 82) rfl (hb hby at_72) rfl (flt (by decide : ¬ ((2 : Int32) < (0 : Int32)))).2.2.2 (by decide) (by decide)) ?_
    show Go p e below s _ _ _ T_9 (mkF m 82 #[.val (.int k), .val (.long q0), .second, .val (.long q1), .second, .val (.long q2), .second, .val (.long q3), .second, .val (.long q4), .second, .val (.int (0 : Int32)), .val (.ref b_2), .val (.ref b_8), .unset] [])
    refine Go.st (fun _ => XS.iload X_9.here hx rfl (hb hby at_82) rfl) ?_
    show Go p e below s _ _ _ T_9 (mkF m 84 #[.val (.int k), .val (.long q0), .second, .val (.long q1), .second, .val (.long q2), .second, .val (.long q3), .second, .val (.long q4), .second, .val (.int (0 : Int32)), .val (.ref b_2), .val (.ref b_8), .unset] [(.int (0 : Int32))])
    refine Go.st (fun _ => XS.iconst X_9.here hx rfl (hb hby at_84)) ?_
    show Go p e below s _ _ _ T_9 (mkF m 85 #[.val (.int k), .val (.long q0), .second, .val (.long q1), .second, .val (.long q2), .second, .val (.long q3), .second, .val (.long q4), .second, .val (.int (0 : Int32)), .val (.ref b_2), .val (.ref b_8), .unset] [(.int (3 : Int32)), (.int (0 : Int32))])
    refine Go.st (fun _ => XS.icmpYes X_9.here hx rfl (pc0 := 85) (pc' := 95) rfl (hb hby at_85) rfl (flt (by decide : ¬ ((3 : Int32) < (0 : Int32)))).2.2.2 (by decide) (by decide)) ?_
    show Go p e below s _ _ _ T_9 (mkF m 95 #[.val (.int k), .val (.long q0), .second, .val (.long q1), .second, .val (.long q2), .second, .val (.long q3), .second, .val (.long q4), .second, .val (.int (0 : Int32)), .val (.ref b_2), .val (.ref b_8), .unset] [])
    refine Go.st (fun _ => XS.iload X_9.here hx rfl (hb hby at_95) rfl) ?_
    show Go p e below s _ _ _ T_9 (mkF m 97 #[.val (.int k), .val (.long q0), .second, .val (.long q1), .second, .val (.long q2), .second, .val (.long q3), .second, .val (.long q4), .second, .val (.int (0 : Int32)), .val (.ref b_2), .val (.ref b_8), .unset] [(.int (0 : Int32))])
    refine Go.st (fun _ => XS.iconst X_9.here hx rfl (hb hby at_97)) ?_
    show Go p e below s _ _ _ T_9 (mkF m 98 #[.val (.int k), .val (.long q0), .second, .val (.long q1), .second, .val (.long q2), .second, .val (.long q3), .second, .val (.long q4), .second, .val (.int (0 : Int32)), .val (.ref b_2), .val (.ref b_8), .unset] [(.int (4 : Int32)), (.int (0 : Int32))])
    refine Go.st (fun _ => XS.icmpYes X_9.here hx rfl (pc0 := 98) (pc' := 108) rfl (hb hby at_98) rfl (flt (by decide : ¬ ((4 : Int32) < (0 : Int32)))).2.2.2 (by decide) (by decide)) ?_
    show Go p e below s _ _ _ T_9 (mkF m 108 #[.val (.int k), .val (.long q0), .second, .val (.long q1), .second, .val (.long q2), .second, .val (.long q3), .second, .val (.long q4), .second, .val (.int (0 : Int32)), .val (.ref b_2), .val (.ref b_8), .unset] [])
    refine Go.st (fun _ => XS.aload X_9.here hx rfl (hb hby at_108) rfl rfl) ?_
    show Go p e below s _ _ _ T_9 (mkF m 110 #[.val (.int k), .val (.long q0), .second, .val (.long q1), .second, .val (.long q2), .second, .val (.long q3), .second, .val (.long q4), .second, .val (.int (0 : Int32)), .val (.ref b_2), .val (.ref b_8), .unset] [(.ref b_8)])
    obtain ⟨cq_11, kq_11, q_11a, q_11b, q_11c⟩ := isOf hZ e_9 p_9_2
    obtain ⟨_, _, ⟨T_11, L_11, kc_11, nc_11⟩, -, X_11, ⟨Lc_11, hQ_11, l_11, y_11, z_11⟩, st_11⟩ := X_9.virtualBack hx (y := (⟨"com/example/moat/moat/xpath/Handles", "reverse", "()V"⟩ : MethodName)) (z := (⟨"com/example/moat/moat/xpath/Handles", "reverse", "()V"⟩ : MethodName)) hown (mvT hZ (hw _ (List.mem_of_getElem? (i := 13) rfl))) (mvT hZ (hw _ (List.mem_of_getElem? (i := 14) rfl))) (notFace_of_selects (args := #[]) (mvT hZ (hw _ (List.mem_of_getElem? (i := 16) rfl)))) (mvT hZ (hw _ (List.mem_of_getElem? (i := 16) rfl))) (mvT hZ (hw _ (List.mem_of_getElem? (i := 15) rfl))) (by decide) (backOf (W := 0) (rmR0 l Z a0 hw [] b_8 t__9 kt__9 (0 : Int64) (0 : Int64) (0 : Int64) (0 : Int64) (0 : Int64) (0 : Int64) (0 : Int64) (0 : Int64) h_9 n0 z_9q p_9_3 p_9_4 p_9_5 p_9_0 ne_b_8_t__9) hZ (hw _ (List.mem_of_getElem? (i := 17) rfl)) (hw _ (List.mem_of_getElem? (i := 4) rfl)) (by decide) (by decide)) q_11a q_11c (g := (mkF m 110 #[.val (.int k), .val (.long q0), .second, .val (.long q1), .second, .val (.long q2), .second, .val (.long q3), .second, .val (.long q4), .second, .val (.int (0 : Int32)), .val (.ref b_2), .val (.ref b_8), .unset] [(.ref b_8)])) rfl (by rw [hml]; rfl) (Steps.refl _) (argsL := []) (rest := []) (lenOf pd_0 rfl) rfl (by show 2 * 0 + _ ≤ _; exact Nat.le_of_eq rfl) (hb hby at_110) (fun _ _ => ⟨rfl, e_9, (by decide : 3 + 0 ≤ _), (by decide : 15 + 0 ≤ _)⟩)
    dsimp only [Pt.U, Pt.locs, Pt.cells, Pt.slots] at X_11 l_11 y_11 z_11 st_11 hQ_11
    obtain rfl : kc_11 = 3 := y_11
    obtain rfl : nc_11 = 15 := z_11
    obtain ⟨h_11, e_11⟩ : ∃ hh, T_11.heap = hh := ⟨_, rfl⟩
    rw [e_11] at hQ_11
    obtain ⟨rfl, N_11q, K_11, p_11_0⟩ := hQ_11
    have N_11 : Fr n0 L_11 := by rw [l_11]; exact Fr.app N_9 N_11q
    refine Go.st (fun _ kk => st_11.trans kk) ?_
    have z_11q : n0 ≤ h_11.size := Nat.le_trans z_9q K_11.1
    show Go p e below s _ _ _ T_11 (mkF m 113 #[.val (.int k), .val (.long q0), .second, .val (.long q1), .second, .val (.long q2), .second, .val (.long q3), .second, .val (.long q4), .second, .val (.int (0 : Int32)), .val (.ref b_2), .val (.ref b_8), .unset] [])
    refine Go.st (fun _ => XS.aload X_11.here hx rfl (hb hby at_113) rfl rfl) ?_
    show Go p e below s _ _ _ T_11 (mkF m 115 #[.val (.int k), .val (.long q0), .second, .val (.long q1), .second, .val (.long q2), .second, .val (.long q3), .second, .val (.long q4), .second, .val (.int (0 : Int32)), .val (.ref b_2), .val (.ref b_8), .unset] [(.ref b_8)])
    have f_13 := (p_9_4.keep K_11 (ninS ne_b_8_t__9 nin0))
    have f_14 := (p_9_2.keep K_11)
    obtain ⟨cq_12, kq_12, q_12a, q_12b, q_12c⟩ := isOf hZ e_11 f_14
    obtain ⟨_, _, ⟨T_12, L_12, kc_12, nc_12⟩, -, X_12, ⟨Lc_12, hQ_12, l_12, y_12, z_12⟩, st_12⟩ := X_11.virtualBack hx (y := (⟨"com/example/moat/moat/xpath/Handles", "size", "()I"⟩ : MethodName)) (z := (⟨"com/example/moat/moat/xpath/Handles", "size", "()I"⟩ : MethodName)) hown (mvT hZ (hw _ (List.mem_of_getElem? (i := 20) rfl))) (mvT hZ (hw _ (List.mem_of_getElem? (i := 21) rfl))) (notFace_of_selects (args := #[]) (mvT hZ (hw _ (List.mem_of_getElem? (i := 23) rfl)))) (mvT hZ (hw _ (List.mem_of_getElem? (i := 23) rfl))) (mvT hZ (hw _ (List.mem_of_getElem? (i := 22) rfl))) (by decide) (backOf (W := 0) (rm4 l Z a0 hw [] b_8 (0 : Int32) h_11 n0 z_11q f_13) hZ (hw _ (List.mem_of_getElem? (i := 24) rfl)) (hw _ (List.mem_of_getElem? (i := 4) rfl)) (by decide) (by decide)) q_12a q_12c (g := (mkF m 115 #[.val (.int k), .val (.long q0), .second, .val (.long q1), .second, .val (.long q2), .second, .val (.long q3), .second, .val (.long q4), .second, .val (.int (0 : Int32)), .val (.ref b_2), .val (.ref b_8), .unset] [(.ref b_8)])) rfl (by rw [hml]; rfl) (Steps.refl _) (argsL := []) (rest := []) (lenOf pd_1 rfl) rfl (by show 2 * 0 + _ ≤ _; exact Nat.le_of_eq rfl) (hb hby at_115) (fun _ _ => ⟨rfl, e_11, (by decide : 3 + 0 ≤ _), (by decide : 15 + 0 ≤ _)⟩)
    dsimp only [Pt.U, Pt.locs, Pt.cells, Pt.slots] at X_12 l_12 y_12 z_12 st_12 hQ_12
    obtain rfl : kc_12 = 3 := y_12
    obtain rfl : nc_12 = 15 := z_12
    obtain ⟨h_12, e_12⟩ : ∃ hh, T_12.heap = hh := ⟨_, rfl⟩
    rw [e_12] at hQ_12
    obtain ⟨rfl, N_12q, sm_12⟩ := hQ_12
    have N_12 : Fr n0 L_12 := by rw [l_12]; exact Fr.app N_11 N_12q
    refine Go.st (fun _ kk => st_12.trans kk) ?_
    rw [sm_12] at e_12
    show Go p e below s _ _ _ T_12 (mkF m 118 #[.val (.int k), .val (.long q0), .second, .val (.long q1), .second, .val (.long q2), .second, .val (.long q3), .second, .val (.long q4), .second, .val (.int (0 : Int32)), .val (.ref b_2), .val (.ref b_8), .unset] [(.int (0 : Int32))])
    refine Go.st (fun _ => XS.iload X_12.here hx rfl (hb hby at_118) rfl) ?_
    show Go p e below s _ _ _ T_12 (mkF m 120 #[.val (.int k), .val (.long q0), .second, .val (.long q1), .second, .val (.long q2), .second, .val (.long q3), .second, .val (.long q4), .second, .val (.int (0 : Int32)), .val (.ref b_2), .val (.ref b_8), .unset] [(.int (0 : Int32)), (.int (0 : Int32))])
    refine Go.st (fun _ => XS.icmpYes X_12.here hx rfl (pc0 := 120) (pc' := 125) rfl (hb hby at_120) rfl (teq (by decide : (0 : Int32) = (0 : Int32))).1 (by decide) (by decide)) ?_
    show Go p e below s _ _ _ T_12 (mkF m 125 #[.val (.int k), .val (.long q0), .second, .val (.long q1), .second, .val (.long q2), .second, .val (.long q3), .second, .val (.long q4), .second, .val (.int (0 : Int32)), .val (.ref b_2), .val (.ref b_8), .unset] [])
    refine Go.st (fun _ => XS.aload X_12.here hx rfl (hb hby at_125) rfl rfl) ?_
    show Go p e below s _ _ _ T_12 (mkF m 127 #[.val (.int k), .val (.long q0), .second, .val (.long q1), .second, .val (.long q2), .second, .val (.long q3), .second, .val (.long q4), .second, .val (.int (0 : Int32)), .val (.ref b_2), .val (.ref b_8), .unset] [(.ref b_8)])
    have f_16 := (p_9_3.keep K_11 (ninS ne_b_8_t__9 nin0))
    obtain ⟨cq_15, kq_15, q_15a, q_15b, q_15c⟩ := isOf hZ e_12 f_14
    obtain ⟨_, _, ⟨T_15, L_15, kc_15, nc_15⟩, -, X_15, ⟨Lc_15, hQ_15, l_15, y_15, z_15⟩, st_15⟩ := X_12.virtualBack hx (y := (⟨"com/example/moat/moat/xpath/Handles", "array", "()[J"⟩ : MethodName)) (z := (⟨"com/example/moat/moat/xpath/Handles", "array", "()[J"⟩ : MethodName)) hown (mvT hZ (hw _ (List.mem_of_getElem? (i := 25) rfl))) (mvT hZ (hw _ (List.mem_of_getElem? (i := 26) rfl))) (notFace_of_selects (args := #[]) (mvT hZ (hw _ (List.mem_of_getElem? (i := 28) rfl)))) (mvT hZ (hw _ (List.mem_of_getElem? (i := 28) rfl))) (mvT hZ (hw _ (List.mem_of_getElem? (i := 27) rfl))) (by decide) (backOf (W := 0) (rm5 l Z a0 hw [] b_8 t__9 h_11 n0 z_11q f_16) hZ (hw _ (List.mem_of_getElem? (i := 29) rfl)) (hw _ (List.mem_of_getElem? (i := 4) rfl)) (by decide) (by decide)) q_15a q_15c (g := (mkF m 127 #[.val (.int k), .val (.long q0), .second, .val (.long q1), .second, .val (.long q2), .second, .val (.long q3), .second, .val (.long q4), .second, .val (.int (0 : Int32)), .val (.ref b_2), .val (.ref b_8), .unset] [(.ref b_8)])) rfl (by rw [hml]; rfl) (Steps.refl _) (argsL := []) (rest := []) (lenOf pd_2 rfl) rfl (by show 2 * 0 + _ ≤ _; exact Nat.le_of_eq rfl) (hb hby at_127) (fun _ _ => ⟨rfl, e_12, (by decide : 3 + 0 ≤ _), (by decide : 15 + 0 ≤ _)⟩)
    dsimp only [Pt.U, Pt.locs, Pt.cells, Pt.slots] at X_15 l_15 y_15 z_15 st_15 hQ_15
    obtain rfl : kc_15 = 3 := y_15
    obtain rfl : nc_15 = 15 := z_15
    obtain ⟨h_15, e_15⟩ : ∃ hh, T_15.heap = hh := ⟨_, rfl⟩
    rw [e_15] at hQ_15
    obtain ⟨rfl, N_15q, sm_15⟩ := hQ_15
    have N_15 : Fr n0 L_15 := by rw [l_15]; exact Fr.app N_12 N_15q
    refine Go.st (fun _ kk => st_15.trans kk) ?_
    rw [sm_15] at e_15
    show Go p e below s _ _ _ T_15 (mkF m 130 #[.val (.int k), .val (.long q0), .second, .val (.long q1), .second, .val (.long q2), .second, .val (.long q3), .second, .val (.long q4), .second, .val (.int (0 : Int32)), .val (.ref b_2), .val (.ref b_8), .unset] [(.ref t__9)])
    refine Go.st (fun _ => XS.astore X_15.here hx rfl (hb hby at_130) rfl rfl (l' := #[.val (.int k), .val (.long q0), .second, .val (.long q1), .second, .val (.long q2), .second, .val (.long q3), .second, .val (.long q4), .second, .val (.int (0 : Int32)), .val (.ref b_2), .val (.ref b_8), .val (.ref t__9)]) rfl) ?_
    show Go p e below s _ _ _ T_15 (mkF m 132 #[.val (.int k), .val (.long q0), .second, .val (.long q1), .second, .val (.long q2), .second, .val (.long q3), .second, .val (.long q4), .second, .val (.int (0 : Int32)), .val (.ref b_2), .val (.ref b_8), .val (.ref t__9)] [])
    refine Go.st (fun _ => XS.aload X_15.here hx rfl (hb hby at_132) rfl rfl) ?_
    show Go p e below s _ _ _ T_15 (mkF m 134 #[.val (.int k), .val (.long q0), .second, .val (.long q1), .second, .val (.long q2), .second, .val (.long q3), .second, .val (.long q4), .second, .val (.int (0 : Int32)), .val (.ref b_2), .val (.ref b_8), .val (.ref t__9)] [(.ref t__9)])
    obtain ⟨cl_17, Ar_17, q_17, S_17, M_17, H_17, G_17⟩ := id p_11_0
    refine Go.st (fun tG => X_15.arraylength hx (by rw [e_15]; exact Ar_17.1) (State.isArrayOf_alike hZ.alike Ar_17.2.1) (g := (mkF m 134 #[.val (.int k), .val (.long q0), .second, .val (.long q1), .second, .val (.long q2), .second, .val (.long q3), .second, .val (.long q4), .second, .val (.int (0 : Int32)), .val (.ref b_2), .val (.ref b_8), .val (.ref t__9)] [(.ref t__9)])) rfl rfl (hb hby at_134) tG) ?_
    rw [len_of S_17 M_17]
    show Go p e below s _ _ _ T_15 (mkF m 135 #[.val (.int k), .val (.long q0), .second, .val (.long q1), .second, .val (.long q2), .second, .val (.long q3), .second, .val (.long q4), .second, .val (.int (0 : Int32)), .val (.ref b_2), .val (.ref b_8), .val (.ref t__9)] [(.int (8 : Int32))])
    refine Go.st (fun _ => XS.bipush X_15.here hx rfl (hb hby at_135)) ?_
    show Go p e below s _ _ _ T_15 (mkF m 137 #[.val (.int k), .val (.long q0), .second, .val (.long q1), .second, .val (.long q2), .second, .val (.long q3), .second, .val (.long q4), .second, .val (.int (0 : Int32)), .val (.ref b_2), .val (.ref b_8), .val (.ref t__9)] [(.int (8 : Int32)), (.int (8 : Int32))])
    refine Go.st (fun _ => XS.icmpYes X_15.here hx rfl (pc0 := 137) (pc' := 142) rfl (hb hby at_137) rfl (teq (by decide : (8 : Int32) = (8 : Int32))).1 (by decide) (by decide)) ?_
    show Go p e below s _ _ _ T_15 (mkF m 142 #[.val (.int k), .val (.long q0), .second, .val (.long q1), .second, .val (.long q2), .second, .val (.long q3), .second, .val (.long q4), .second, .val (.int (0 : Int32)), .val (.ref b_2), .val (.ref b_8), .val (.ref t__9)] [])
    refine Go.st (fun _ => XS.aload X_15.here hx rfl (hb hby at_142) rfl rfl) ?_
    show Go p e below s _ _ _ T_15 (mkF m 144 #[.val (.int k), .val (.long q0), .second, .val (.long q1), .second, .val (.long q2), .second, .val (.long q3), .second, .val (.long q4), .second, .val (.int (0 : Int32)), .val (.ref b_2), .val (.ref b_8), .val (.ref t__9)] [(.ref t__9)])
    refine Go.st (fun _ => XS.iconst X_15.here hx rfl (hb hby at_144)) ?_
    show Go p e below s _ _ _ T_15 (mkF m 145 #[.val (.int k), .val (.long q0), .second, .val (.long q1), .second, .val (.long q2), .second, .val (.long q3), .second, .val (.long q4), .second, .val (.int (0 : Int32)), .val (.ref b_2), .val (.ref b_8), .val (.ref t__9)] [(.int (0 : Int32)), (.ref t__9)])
    obtain ⟨cl_18, Ar_18, q_18, S_18, M_18, H_18, G_18⟩ := id p_11_0
    have hin_18 : ¬ ((0 : Int32) < 0 ∨ cl_18.slots.size ≤ ((0 : Int32)).toNatClampNeg) := inb_of S_18 ⟨by decide, by decide⟩
    have hat_18 : cl_18.slots[((0 : Int32)).toNatClampNeg]? = some (.long (0 : Int64)) := H_18.at hin_18 rfl
    refine Go.st (fun tG => X_15.laload hx (j := (0 : Int32)) (v := (.long (0 : Int64))) (by rw [e_15]; exact Ar_18.1) (State.isArrayOf_alike hZ.alike Ar_18.2.1) Ar_18.2.2 hin_18 hat_18 (g := (mkF m 145 #[.val (.int k), .val (.long q0), .second, .val (.long q1), .second, .val (.long q2), .second, .val (.long q3), .second, .val (.long q4), .second, .val (.int (0 : Int32)), .val (.ref b_2), .val (.ref b_8), .val (.ref t__9)] [(.int (0 : Int32)), (.ref t__9)])) rfl rfl (hb hby at_145) tG) ?_
    show Go p e below s _ _ _ T_15 (mkF m 146 #[.val (.int k), .val (.long q0), .second, .val (.long q1), .second, .val (.long q2), .second, .val (.long q3), .second, .val (.long q4), .second, .val (.int (0 : Int32)), .val (.ref b_2), .val (.ref b_8), .val (.ref t__9)] [(.long (0 : Int64))])
    refine Go.st (fun _ => XS.aload X_15.here hx rfl (hb hby at_146) rfl rfl) ?_
    show Go p e below s _ _ _ T_15 (mkF m 148 #[.val (.int k), .val (.long q0), .second, .val (.long q1), .second, .val (.long q2), .second, .val (.long q3), .second, .val (.long q4), .second, .val (.int (0 : Int32)), .val (.ref b_2), .val (.ref b_8), .val (.ref t__9)] [(.ref b_2), (.long (0 : Int64))])
    refine Go.st (fun _ => XS.iload X_15.here hx rfl (hb hby at_148) rfl) ?_
    show Go p e below s _ _ _ T_15 (mkF m 150 #[.val (.int k), .val (.long q0), .second, .val (.long q1), .second, .val (.long q2), .second, .val (.long q3), .second, .val (.long q4), .second, .val (.int (0 : Int32)), .val (.ref b_2), .val (.ref b_8), .val (.ref t__9)] [(.int (0 : Int32)), (.ref b_2), (.long (0 : Int64))])
    refine Go.st (fun _ => XS.iconst X_15.here hx rfl (hb hby at_150)) ?_
    show Go p e below s _ _ _ T_15 (mkF m 151 #[.val (.int k), .val (.long q0), .second, .val (.long q1), .second, .val (.long q2), .second, .val (.long q3), .second, .val (.long q4), .second, .val (.int (0 : Int32)), .val (.ref b_2), .val (.ref b_8), .val (.ref t__9)] [(.int (0 : Int32)), (.int (0 : Int32)), (.ref b_2), (.long (0 : Int64))])
    obtain ⟨_, _, ⟨T_19, L_19, kc_19, nc_19⟩, -, X_19, ⟨Lc_19, hQ_19, l_19, y_19, z_19⟩, st_19⟩ := Jvm.LawKit.callS X_15 hx (y := (⟨"com/example/moat/moat/xpath/HandlesReversePinLaw", "exp", "([JII)J"⟩ : MethodName)) hown (mvT hZ (hw _ (List.mem_of_getElem? (i := 30) rfl))) (mvT hZ (hw _ (List.mem_of_getElem? (i := 31) rfl))) (mvT hZ (hw _ (List.mem_of_getElem? (i := 32) rfl))) (mvT hZ (hw _ (List.mem_of_getElem? (i := 33) rfl))) (by decide) (backOf (W := 2) (rmXb l Z a0 hw [] b_2 (0 : Int32) (0 : Int32) h_11 n0 z_11q (by decide)) hZ (hw _ (List.mem_of_getElem? (i := 33) rfl)) (hw _ (List.mem_of_getElem? (i := 32) rfl)) (by decide) (by decide)) (g := (mkF m 151 #[.val (.int k), .val (.long q0), .second, .val (.long q1), .second, .val (.long q2), .second, .val (.long q3), .second, .val (.long q4), .second, .val (.int (0 : Int32)), .val (.ref b_2), .val (.ref b_8), .val (.ref t__9)] [(.int (0 : Int32)), (.int (0 : Int32)), (.ref b_2), (.long (0 : Int64))])) rfl (by rw [hml]; rfl) (argsL := [(.ref b_2), (.int (0 : Int32)), (.int (0 : Int32))]) (rest := [(.long (0 : Int64))]) (lenOf pd_3 rfl) rfl (by show 2 * 0 + _ ≤ _; exact Nat.le_of_eq rfl) (hb hby at_151) (fun _ _ => ⟨rfl, e_15, (by decide : 3 + 0 ≤ _), (by decide : 15 + 0 ≤ _)⟩)
    dsimp only [Pt.U, Pt.locs, Pt.cells, Pt.slots] at X_19 l_19 y_19 z_19 st_19 hQ_19
    obtain rfl : kc_19 = 3 := y_19
    obtain rfl : nc_19 = 15 := z_19
    obtain ⟨h_19, e_19⟩ : ∃ hh, T_19.heap = hh := ⟨_, rfl⟩
    rw [e_19] at hQ_19
    obtain ⟨rfl, N_19q, sm_19⟩ := hQ_19
    have N_19 : Fr n0 L_19 := by rw [l_19]; exact Fr.app N_15 N_19q
    refine Go.st st_19 ?_
    rw [sm_19] at e_19
    show Go p e below s _ _ _ T_19 (mkF m 154 #[.val (.int k), .val (.long q0), .second, .val (.long q1), .second, .val (.long q2), .second, .val (.long q3), .second, .val (.long q4), .second, .val (.int (0 : Int32)), .val (.ref b_2), .val (.ref b_8), .val (.ref t__9)] [(.long (0 : Int64)), (.long (0 : Int64))])
    refine Go.st (fun _ => XS.lcmp X_19.here hx rfl (hb hby at_154) rfl) ?_
    show Go p e below s _ _ _ T_19 (mkF m 155 #[.val (.int k), .val (.long q0), .second, .val (.long q1), .second, .val (.long q2), .second, .val (.long q3), .second, .val (.long q4), .second, .val (.int (0 : Int32)), .val (.ref b_2), .val (.ref b_8), .val (.ref t__9)] [(.int (lcmpW (0 : Int64) (0 : Int64)))])
    refine Go.st (fun _ => XS.ifNo X_19.here hx rfl (hb hby at_155) rfl ((if0 _ _).trans (teq ((lw_eq (0 : Int64) (0 : Int64)).mpr (by decide : (0 : Int64) = (0 : Int64)))).2)) ?_
    show Go p e below s _ _ _ T_19 (mkF m 158 #[.val (.int k), .val (.long q0), .second, .val (.long q1), .second, .val (.long q2), .second, .val (.long q3), .second, .val (.long q4), .second, .val (.int (0 : Int32)), .val (.ref b_2), .val (.ref b_8), .val (.ref t__9)] [])
    refine Go.st (fun _ => XS.aload X_19.here hx rfl (hb hby at_158) rfl rfl) ?_
    show Go p e below s _ _ _ T_19 (mkF m 160 #[.val (.int k), .val (.long q0), .second, .val (.long q1), .second, .val (.long q2), .second, .val (.long q3), .second, .val (.long q4), .second, .val (.int (0 : Int32)), .val (.ref b_2), .val (.ref b_8), .val (.ref t__9)] [(.ref t__9)])
    refine Go.st (fun _ => XS.iconst X_19.here hx rfl (hb hby at_160)) ?_
    show Go p e below s _ _ _ T_19 (mkF m 161 #[.val (.int k), .val (.long q0), .second, .val (.long q1), .second, .val (.long q2), .second, .val (.long q3), .second, .val (.long q4), .second, .val (.int (0 : Int32)), .val (.ref b_2), .val (.ref b_8), .val (.ref t__9)] [(.int (1 : Int32)), (.ref t__9)])
    obtain ⟨cl_20, Ar_20, q_20, S_20, M_20, H_20, G_20⟩ := id p_11_0
    have hin_20 : ¬ ((1 : Int32) < 0 ∨ cl_20.slots.size ≤ ((1 : Int32)).toNatClampNeg) := inb_of S_20 ⟨by decide, by decide⟩
    have hat_20 : cl_20.slots[((1 : Int32)).toNatClampNeg]? = some (.long (0 : Int64)) := H_20.at hin_20 rfl
    refine Go.st (fun tG => X_19.laload hx (j := (1 : Int32)) (v := (.long (0 : Int64))) (by rw [e_19]; exact Ar_20.1) (State.isArrayOf_alike hZ.alike Ar_20.2.1) Ar_20.2.2 hin_20 hat_20 (g := (mkF m 161 #[.val (.int k), .val (.long q0), .second, .val (.long q1), .second, .val (.long q2), .second, .val (.long q3), .second, .val (.long q4), .second, .val (.int (0 : Int32)), .val (.ref b_2), .val (.ref b_8), .val (.ref t__9)] [(.int (1 : Int32)), (.ref t__9)])) rfl rfl (hb hby at_161) tG) ?_
    show Go p e below s _ _ _ T_19 (mkF m 162 #[.val (.int k), .val (.long q0), .second, .val (.long q1), .second, .val (.long q2), .second, .val (.long q3), .second, .val (.long q4), .second, .val (.int (0 : Int32)), .val (.ref b_2), .val (.ref b_8), .val (.ref t__9)] [(.long (0 : Int64))])
    refine Go.st (fun _ => XS.aload X_19.here hx rfl (hb hby at_162) rfl rfl) ?_
    show Go p e below s _ _ _ T_19 (mkF m 164 #[.val (.int k), .val (.long q0), .second, .val (.long q1), .second, .val (.long q2), .second, .val (.long q3), .second, .val (.long q4), .second, .val (.int (0 : Int32)), .val (.ref b_2), .val (.ref b_8), .val (.ref t__9)] [(.ref b_2), (.long (0 : Int64))])
    refine Go.st (fun _ => XS.iload X_19.here hx rfl (hb hby at_164) rfl) ?_
    show Go p e below s _ _ _ T_19 (mkF m 166 #[.val (.int k), .val (.long q0), .second, .val (.long q1), .second, .val (.long q2), .second, .val (.long q3), .second, .val (.long q4), .second, .val (.int (0 : Int32)), .val (.ref b_2), .val (.ref b_8), .val (.ref t__9)] [(.int (0 : Int32)), (.ref b_2), (.long (0 : Int64))])
    refine Go.st (fun _ => XS.iconst X_19.here hx rfl (hb hby at_166)) ?_
    show Go p e below s _ _ _ T_19 (mkF m 167 #[.val (.int k), .val (.long q0), .second, .val (.long q1), .second, .val (.long q2), .second, .val (.long q3), .second, .val (.long q4), .second, .val (.int (0 : Int32)), .val (.ref b_2), .val (.ref b_8), .val (.ref t__9)] [(.int (1 : Int32)), (.int (0 : Int32)), (.ref b_2), (.long (0 : Int64))])
    obtain ⟨_, _, ⟨T_21, L_21, kc_21, nc_21⟩, -, X_21, ⟨Lc_21, hQ_21, l_21, y_21, z_21⟩, st_21⟩ := Jvm.LawKit.callS X_19 hx (y := (⟨"com/example/moat/moat/xpath/HandlesReversePinLaw", "exp", "([JII)J"⟩ : MethodName)) hown (mvT hZ (hw _ (List.mem_of_getElem? (i := 30) rfl))) (mvT hZ (hw _ (List.mem_of_getElem? (i := 31) rfl))) (mvT hZ (hw _ (List.mem_of_getElem? (i := 32) rfl))) (mvT hZ (hw _ (List.mem_of_getElem? (i := 33) rfl))) (by decide) (backOf (W := 2) (rmXb l Z a0 hw [] b_2 (0 : Int32) (1 : Int32) h_11 n0 z_11q (by decide)) hZ (hw _ (List.mem_of_getElem? (i := 33) rfl)) (hw _ (List.mem_of_getElem? (i := 32) rfl)) (by decide) (by decide)) (g := (mkF m 167 #[.val (.int k), .val (.long q0), .second, .val (.long q1), .second, .val (.long q2), .second, .val (.long q3), .second, .val (.long q4), .second, .val (.int (0 : Int32)), .val (.ref b_2), .val (.ref b_8), .val (.ref t__9)] [(.int (1 : Int32)), (.int (0 : Int32)), (.ref b_2), (.long (0 : Int64))])) rfl (by rw [hml]; rfl) (argsL := [(.ref b_2), (.int (0 : Int32)), (.int (1 : Int32))]) (rest := [(.long (0 : Int64))]) (lenOf pd_3 rfl) rfl (by show 2 * 0 + _ ≤ _; exact Nat.le_of_eq rfl) (hb hby at_167) (fun _ _ => ⟨rfl, e_19, (by decide : 3 + 0 ≤ _), (by decide : 15 + 0 ≤ _)⟩)
    dsimp only [Pt.U, Pt.locs, Pt.cells, Pt.slots] at X_21 l_21 y_21 z_21 st_21 hQ_21
    obtain rfl : kc_21 = 3 := y_21
    obtain rfl : nc_21 = 15 := z_21
    obtain ⟨h_21, e_21⟩ : ∃ hh, T_21.heap = hh := ⟨_, rfl⟩
    rw [e_21] at hQ_21
    obtain ⟨rfl, N_21q, sm_21⟩ := hQ_21
    have N_21 : Fr n0 L_21 := by rw [l_21]; exact Fr.app N_19 N_21q
    refine Go.st st_21 ?_
    rw [sm_21] at e_21
    show Go p e below s _ _ _ T_21 (mkF m 170 #[.val (.int k), .val (.long q0), .second, .val (.long q1), .second, .val (.long q2), .second, .val (.long q3), .second, .val (.long q4), .second, .val (.int (0 : Int32)), .val (.ref b_2), .val (.ref b_8), .val (.ref t__9)] [(.long (0 : Int64)), (.long (0 : Int64))])
    refine Go.st (fun _ => XS.lcmp X_21.here hx rfl (hb hby at_170) rfl) ?_
    show Go p e below s _ _ _ T_21 (mkF m 171 #[.val (.int k), .val (.long q0), .second, .val (.long q1), .second, .val (.long q2), .second, .val (.long q3), .second, .val (.long q4), .second, .val (.int (0 : Int32)), .val (.ref b_2), .val (.ref b_8), .val (.ref t__9)] [(.int (lcmpW (0 : Int64) (0 : Int64)))])
    refine Go.st (fun _ => XS.ifNo X_21.here hx rfl (hb hby at_171) rfl ((if0 _ _).trans (teq ((lw_eq (0 : Int64) (0 : Int64)).mpr (by decide : (0 : Int64) = (0 : Int64)))).2)) ?_
    show Go p e below s _ _ _ T_21 (mkF m 174 #[.val (.int k), .val (.long q0), .second, .val (.long q1), .second, .val (.long q2), .second, .val (.long q3), .second, .val (.long q4), .second, .val (.int (0 : Int32)), .val (.ref b_2), .val (.ref b_8), .val (.ref t__9)] [])
    refine Go.st (fun _ => XS.aload X_21.here hx rfl (hb hby at_174) rfl rfl) ?_
    show Go p e below s _ _ _ T_21 (mkF m 176 #[.val (.int k), .val (.long q0), .second, .val (.long q1), .second, .val (.long q2), .second, .val (.long q3), .second, .val (.long q4), .second, .val (.int (0 : Int32)), .val (.ref b_2), .val (.ref b_8), .val (.ref t__9)] [(.ref t__9)])
    refine Go.st (fun _ => XS.iconst X_21.here hx rfl (hb hby at_176)) ?_
    show Go p e below s _ _ _ T_21 (mkF m 177 #[.val (.int k), .val (.long q0), .second, .val (.long q1), .second, .val (.long q2), .second, .val (.long q3), .second, .val (.long q4), .second, .val (.int (0 : Int32)), .val (.ref b_2), .val (.ref b_8), .val (.ref t__9)] [(.int (2 : Int32)), (.ref t__9)])
    obtain ⟨cl_22, Ar_22, q_22, S_22, M_22, H_22, G_22⟩ := id p_11_0
    have hin_22 : ¬ ((2 : Int32) < 0 ∨ cl_22.slots.size ≤ ((2 : Int32)).toNatClampNeg) := inb_of S_22 ⟨by decide, by decide⟩
    have hat_22 : cl_22.slots[((2 : Int32)).toNatClampNeg]? = some (.long (0 : Int64)) := H_22.at hin_22 rfl
    refine Go.st (fun tG => X_21.laload hx (j := (2 : Int32)) (v := (.long (0 : Int64))) (by rw [e_21]; exact Ar_22.1) (State.isArrayOf_alike hZ.alike Ar_22.2.1) Ar_22.2.2 hin_22 hat_22 (g := (mkF m 177 #[.val (.int k), .val (.long q0), .second, .val (.long q1), .second, .val (.long q2), .second, .val (.long q3), .second, .val (.long q4), .second, .val (.int (0 : Int32)), .val (.ref b_2), .val (.ref b_8), .val (.ref t__9)] [(.int (2 : Int32)), (.ref t__9)])) rfl rfl (hb hby at_177) tG) ?_
    show Go p e below s _ _ _ T_21 (mkF m 178 #[.val (.int k), .val (.long q0), .second, .val (.long q1), .second, .val (.long q2), .second, .val (.long q3), .second, .val (.long q4), .second, .val (.int (0 : Int32)), .val (.ref b_2), .val (.ref b_8), .val (.ref t__9)] [(.long (0 : Int64))])
    refine Go.st (fun _ => XS.aload X_21.here hx rfl (hb hby at_178) rfl rfl) ?_
    show Go p e below s _ _ _ T_21 (mkF m 180 #[.val (.int k), .val (.long q0), .second, .val (.long q1), .second, .val (.long q2), .second, .val (.long q3), .second, .val (.long q4), .second, .val (.int (0 : Int32)), .val (.ref b_2), .val (.ref b_8), .val (.ref t__9)] [(.ref b_2), (.long (0 : Int64))])
    refine Go.st (fun _ => XS.iload X_21.here hx rfl (hb hby at_180) rfl) ?_
    show Go p e below s _ _ _ T_21 (mkF m 182 #[.val (.int k), .val (.long q0), .second, .val (.long q1), .second, .val (.long q2), .second, .val (.long q3), .second, .val (.long q4), .second, .val (.int (0 : Int32)), .val (.ref b_2), .val (.ref b_8), .val (.ref t__9)] [(.int (0 : Int32)), (.ref b_2), (.long (0 : Int64))])
    refine Go.st (fun _ => XS.iconst X_21.here hx rfl (hb hby at_182)) ?_
    show Go p e below s _ _ _ T_21 (mkF m 183 #[.val (.int k), .val (.long q0), .second, .val (.long q1), .second, .val (.long q2), .second, .val (.long q3), .second, .val (.long q4), .second, .val (.int (0 : Int32)), .val (.ref b_2), .val (.ref b_8), .val (.ref t__9)] [(.int (2 : Int32)), (.int (0 : Int32)), (.ref b_2), (.long (0 : Int64))])
    obtain ⟨_, _, ⟨T_23, L_23, kc_23, nc_23⟩, -, X_23, ⟨Lc_23, hQ_23, l_23, y_23, z_23⟩, st_23⟩ := Jvm.LawKit.callS X_21 hx (y := (⟨"com/example/moat/moat/xpath/HandlesReversePinLaw", "exp", "([JII)J"⟩ : MethodName)) hown (mvT hZ (hw _ (List.mem_of_getElem? (i := 30) rfl))) (mvT hZ (hw _ (List.mem_of_getElem? (i := 31) rfl))) (mvT hZ (hw _ (List.mem_of_getElem? (i := 32) rfl))) (mvT hZ (hw _ (List.mem_of_getElem? (i := 33) rfl))) (by decide) (backOf (W := 2) (rmXb l Z a0 hw [] b_2 (0 : Int32) (2 : Int32) h_11 n0 z_11q (by decide)) hZ (hw _ (List.mem_of_getElem? (i := 33) rfl)) (hw _ (List.mem_of_getElem? (i := 32) rfl)) (by decide) (by decide)) (g := (mkF m 183 #[.val (.int k), .val (.long q0), .second, .val (.long q1), .second, .val (.long q2), .second, .val (.long q3), .second, .val (.long q4), .second, .val (.int (0 : Int32)), .val (.ref b_2), .val (.ref b_8), .val (.ref t__9)] [(.int (2 : Int32)), (.int (0 : Int32)), (.ref b_2), (.long (0 : Int64))])) rfl (by rw [hml]; rfl) (argsL := [(.ref b_2), (.int (0 : Int32)), (.int (2 : Int32))]) (rest := [(.long (0 : Int64))]) (lenOf pd_3 rfl) rfl (by show 2 * 0 + _ ≤ _; exact Nat.le_of_eq rfl) (hb hby at_183) (fun _ _ => ⟨rfl, e_21, (by decide : 3 + 0 ≤ _), (by decide : 15 + 0 ≤ _)⟩)
    dsimp only [Pt.U, Pt.locs, Pt.cells, Pt.slots] at X_23 l_23 y_23 z_23 st_23 hQ_23
    obtain rfl : kc_23 = 3 := y_23
    obtain rfl : nc_23 = 15 := z_23
    obtain ⟨h_23, e_23⟩ : ∃ hh, T_23.heap = hh := ⟨_, rfl⟩
    rw [e_23] at hQ_23
    obtain ⟨rfl, N_23q, sm_23⟩ := hQ_23
    have N_23 : Fr n0 L_23 := by rw [l_23]; exact Fr.app N_21 N_23q
    refine Go.st st_23 ?_
    rw [sm_23] at e_23
    show Go p e below s _ _ _ T_23 (mkF m 186 #[.val (.int k), .val (.long q0), .second, .val (.long q1), .second, .val (.long q2), .second, .val (.long q3), .second, .val (.long q4), .second, .val (.int (0 : Int32)), .val (.ref b_2), .val (.ref b_8), .val (.ref t__9)] [(.long (0 : Int64)), (.long (0 : Int64))])
    refine Go.st (fun _ => XS.lcmp X_23.here hx rfl (hb hby at_186) rfl) ?_
    show Go p e below s _ _ _ T_23 (mkF m 187 #[.val (.int k), .val (.long q0), .second, .val (.long q1), .second, .val (.long q2), .second, .val (.long q3), .second, .val (.long q4), .second, .val (.int (0 : Int32)), .val (.ref b_2), .val (.ref b_8), .val (.ref t__9)] [(.int (lcmpW (0 : Int64) (0 : Int64)))])
    refine Go.st (fun _ => XS.ifNo X_23.here hx rfl (hb hby at_187) rfl ((if0 _ _).trans (teq ((lw_eq (0 : Int64) (0 : Int64)).mpr (by decide : (0 : Int64) = (0 : Int64)))).2)) ?_
    show Go p e below s _ _ _ T_23 (mkF m 190 #[.val (.int k), .val (.long q0), .second, .val (.long q1), .second, .val (.long q2), .second, .val (.long q3), .second, .val (.long q4), .second, .val (.int (0 : Int32)), .val (.ref b_2), .val (.ref b_8), .val (.ref t__9)] [])
    refine Go.st (fun _ => XS.aload X_23.here hx rfl (hb hby at_190) rfl rfl) ?_
    show Go p e below s _ _ _ T_23 (mkF m 192 #[.val (.int k), .val (.long q0), .second, .val (.long q1), .second, .val (.long q2), .second, .val (.long q3), .second, .val (.long q4), .second, .val (.int (0 : Int32)), .val (.ref b_2), .val (.ref b_8), .val (.ref t__9)] [(.ref t__9)])
    refine Go.st (fun _ => XS.iconst X_23.here hx rfl (hb hby at_192)) ?_
    show Go p e below s _ _ _ T_23 (mkF m 193 #[.val (.int k), .val (.long q0), .second, .val (.long q1), .second, .val (.long q2), .second, .val (.long q3), .second, .val (.long q4), .second, .val (.int (0 : Int32)), .val (.ref b_2), .val (.ref b_8), .val (.ref t__9)] [(.int (3 : Int32)), (.ref t__9)])
    obtain ⟨cl_24, Ar_24, q_24, S_24, M_24, H_24, G_24⟩ := id p_11_0
    have hin_24 : ¬ ((3 : Int32) < 0 ∨ cl_24.slots.size ≤ ((3 : Int32)).toNatClampNeg) := inb_of S_24 ⟨by decide, by decide⟩
    have hat_24 : cl_24.slots[((3 : Int32)).toNatClampNeg]? = some (.long (0 : Int64)) := H_24.at hin_24 rfl
    refine Go.st (fun tG => X_23.laload hx (j := (3 : Int32)) (v := (.long (0 : Int64))) (by rw [e_23]; exact Ar_24.1) (State.isArrayOf_alike hZ.alike Ar_24.2.1) Ar_24.2.2 hin_24 hat_24 (g := (mkF m 193 #[.val (.int k), .val (.long q0), .second, .val (.long q1), .second, .val (.long q2), .second, .val (.long q3), .second, .val (.long q4), .second, .val (.int (0 : Int32)), .val (.ref b_2), .val (.ref b_8), .val (.ref t__9)] [(.int (3 : Int32)), (.ref t__9)])) rfl rfl (hb hby at_193) tG) ?_
    show Go p e below s _ _ _ T_23 (mkF m 194 #[.val (.int k), .val (.long q0), .second, .val (.long q1), .second, .val (.long q2), .second, .val (.long q3), .second, .val (.long q4), .second, .val (.int (0 : Int32)), .val (.ref b_2), .val (.ref b_8), .val (.ref t__9)] [(.long (0 : Int64))])
    refine Go.st (fun _ => XS.aload X_23.here hx rfl (hb hby at_194) rfl rfl) ?_
    show Go p e below s _ _ _ T_23 (mkF m 196 #[.val (.int k), .val (.long q0), .second, .val (.long q1), .second, .val (.long q2), .second, .val (.long q3), .second, .val (.long q4), .second, .val (.int (0 : Int32)), .val (.ref b_2), .val (.ref b_8), .val (.ref t__9)] [(.ref b_2), (.long (0 : Int64))])
    refine Go.st (fun _ => XS.iload X_23.here hx rfl (hb hby at_196) rfl) ?_
    show Go p e below s _ _ _ T_23 (mkF m 198 #[.val (.int k), .val (.long q0), .second, .val (.long q1), .second, .val (.long q2), .second, .val (.long q3), .second, .val (.long q4), .second, .val (.int (0 : Int32)), .val (.ref b_2), .val (.ref b_8), .val (.ref t__9)] [(.int (0 : Int32)), (.ref b_2), (.long (0 : Int64))])
    refine Go.st (fun _ => XS.iconst X_23.here hx rfl (hb hby at_198)) ?_
    show Go p e below s _ _ _ T_23 (mkF m 199 #[.val (.int k), .val (.long q0), .second, .val (.long q1), .second, .val (.long q2), .second, .val (.long q3), .second, .val (.long q4), .second, .val (.int (0 : Int32)), .val (.ref b_2), .val (.ref b_8), .val (.ref t__9)] [(.int (3 : Int32)), (.int (0 : Int32)), (.ref b_2), (.long (0 : Int64))])
    obtain ⟨_, _, ⟨T_25, L_25, kc_25, nc_25⟩, -, X_25, ⟨Lc_25, hQ_25, l_25, y_25, z_25⟩, st_25⟩ := Jvm.LawKit.callS X_23 hx (y := (⟨"com/example/moat/moat/xpath/HandlesReversePinLaw", "exp", "([JII)J"⟩ : MethodName)) hown (mvT hZ (hw _ (List.mem_of_getElem? (i := 30) rfl))) (mvT hZ (hw _ (List.mem_of_getElem? (i := 31) rfl))) (mvT hZ (hw _ (List.mem_of_getElem? (i := 32) rfl))) (mvT hZ (hw _ (List.mem_of_getElem? (i := 33) rfl))) (by decide) (backOf (W := 2) (rmXb l Z a0 hw [] b_2 (0 : Int32) (3 : Int32) h_11 n0 z_11q (by decide)) hZ (hw _ (List.mem_of_getElem? (i := 33) rfl)) (hw _ (List.mem_of_getElem? (i := 32) rfl)) (by decide) (by decide)) (g := (mkF m 199 #[.val (.int k), .val (.long q0), .second, .val (.long q1), .second, .val (.long q2), .second, .val (.long q3), .second, .val (.long q4), .second, .val (.int (0 : Int32)), .val (.ref b_2), .val (.ref b_8), .val (.ref t__9)] [(.int (3 : Int32)), (.int (0 : Int32)), (.ref b_2), (.long (0 : Int64))])) rfl (by rw [hml]; rfl) (argsL := [(.ref b_2), (.int (0 : Int32)), (.int (3 : Int32))]) (rest := [(.long (0 : Int64))]) (lenOf pd_3 rfl) rfl (by show 2 * 0 + _ ≤ _; exact Nat.le_of_eq rfl) (hb hby at_199) (fun _ _ => ⟨rfl, e_23, (by decide : 3 + 0 ≤ _), (by decide : 15 + 0 ≤ _)⟩)
    dsimp only [Pt.U, Pt.locs, Pt.cells, Pt.slots] at X_25 l_25 y_25 z_25 st_25 hQ_25
    obtain rfl : kc_25 = 3 := y_25
    obtain rfl : nc_25 = 15 := z_25
    obtain ⟨h_25, e_25⟩ : ∃ hh, T_25.heap = hh := ⟨_, rfl⟩
    rw [e_25] at hQ_25
    obtain ⟨rfl, N_25q, sm_25⟩ := hQ_25
    have N_25 : Fr n0 L_25 := by rw [l_25]; exact Fr.app N_23 N_25q
    refine Go.st st_25 ?_
    rw [sm_25] at e_25
    show Go p e below s _ _ _ T_25 (mkF m 202 #[.val (.int k), .val (.long q0), .second, .val (.long q1), .second, .val (.long q2), .second, .val (.long q3), .second, .val (.long q4), .second, .val (.int (0 : Int32)), .val (.ref b_2), .val (.ref b_8), .val (.ref t__9)] [(.long (0 : Int64)), (.long (0 : Int64))])
    refine Go.st (fun _ => XS.lcmp X_25.here hx rfl (hb hby at_202) rfl) ?_
    show Go p e below s _ _ _ T_25 (mkF m 203 #[.val (.int k), .val (.long q0), .second, .val (.long q1), .second, .val (.long q2), .second, .val (.long q3), .second, .val (.long q4), .second, .val (.int (0 : Int32)), .val (.ref b_2), .val (.ref b_8), .val (.ref t__9)] [(.int (lcmpW (0 : Int64) (0 : Int64)))])
    refine Go.st (fun _ => XS.ifNo X_25.here hx rfl (hb hby at_203) rfl ((if0 _ _).trans (teq ((lw_eq (0 : Int64) (0 : Int64)).mpr (by decide : (0 : Int64) = (0 : Int64)))).2)) ?_
    show Go p e below s _ _ _ T_25 (mkF m 206 #[.val (.int k), .val (.long q0), .second, .val (.long q1), .second, .val (.long q2), .second, .val (.long q3), .second, .val (.long q4), .second, .val (.int (0 : Int32)), .val (.ref b_2), .val (.ref b_8), .val (.ref t__9)] [])
    refine Go.st (fun _ => XS.aload X_25.here hx rfl (hb hby at_206) rfl rfl) ?_
    show Go p e below s _ _ _ T_25 (mkF m 208 #[.val (.int k), .val (.long q0), .second, .val (.long q1), .second, .val (.long q2), .second, .val (.long q3), .second, .val (.long q4), .second, .val (.int (0 : Int32)), .val (.ref b_2), .val (.ref b_8), .val (.ref t__9)] [(.ref t__9)])
    refine Go.st (fun _ => XS.iconst X_25.here hx rfl (hb hby at_208)) ?_
    show Go p e below s _ _ _ T_25 (mkF m 209 #[.val (.int k), .val (.long q0), .second, .val (.long q1), .second, .val (.long q2), .second, .val (.long q3), .second, .val (.long q4), .second, .val (.int (0 : Int32)), .val (.ref b_2), .val (.ref b_8), .val (.ref t__9)] [(.int (4 : Int32)), (.ref t__9)])
    obtain ⟨cl_26, Ar_26, q_26, S_26, M_26, H_26, G_26⟩ := id p_11_0
    have hin_26 : ¬ ((4 : Int32) < 0 ∨ cl_26.slots.size ≤ ((4 : Int32)).toNatClampNeg) := inb_of S_26 ⟨by decide, by decide⟩
    have hat_26 : cl_26.slots[((4 : Int32)).toNatClampNeg]? = some (.long (0 : Int64)) := H_26.at hin_26 rfl
    refine Go.st (fun tG => X_25.laload hx (j := (4 : Int32)) (v := (.long (0 : Int64))) (by rw [e_25]; exact Ar_26.1) (State.isArrayOf_alike hZ.alike Ar_26.2.1) Ar_26.2.2 hin_26 hat_26 (g := (mkF m 209 #[.val (.int k), .val (.long q0), .second, .val (.long q1), .second, .val (.long q2), .second, .val (.long q3), .second, .val (.long q4), .second, .val (.int (0 : Int32)), .val (.ref b_2), .val (.ref b_8), .val (.ref t__9)] [(.int (4 : Int32)), (.ref t__9)])) rfl rfl (hb hby at_209) tG) ?_
    show Go p e below s _ _ _ T_25 (mkF m 210 #[.val (.int k), .val (.long q0), .second, .val (.long q1), .second, .val (.long q2), .second, .val (.long q3), .second, .val (.long q4), .second, .val (.int (0 : Int32)), .val (.ref b_2), .val (.ref b_8), .val (.ref t__9)] [(.long (0 : Int64))])
    refine Go.st (fun _ => XS.aload X_25.here hx rfl (hb hby at_210) rfl rfl) ?_
    show Go p e below s _ _ _ T_25 (mkF m 212 #[.val (.int k), .val (.long q0), .second, .val (.long q1), .second, .val (.long q2), .second, .val (.long q3), .second, .val (.long q4), .second, .val (.int (0 : Int32)), .val (.ref b_2), .val (.ref b_8), .val (.ref t__9)] [(.ref b_2), (.long (0 : Int64))])
    refine Go.st (fun _ => XS.iload X_25.here hx rfl (hb hby at_212) rfl) ?_
    show Go p e below s _ _ _ T_25 (mkF m 214 #[.val (.int k), .val (.long q0), .second, .val (.long q1), .second, .val (.long q2), .second, .val (.long q3), .second, .val (.long q4), .second, .val (.int (0 : Int32)), .val (.ref b_2), .val (.ref b_8), .val (.ref t__9)] [(.int (0 : Int32)), (.ref b_2), (.long (0 : Int64))])
    refine Go.st (fun _ => XS.iconst X_25.here hx rfl (hb hby at_214)) ?_
    show Go p e below s _ _ _ T_25 (mkF m 215 #[.val (.int k), .val (.long q0), .second, .val (.long q1), .second, .val (.long q2), .second, .val (.long q3), .second, .val (.long q4), .second, .val (.int (0 : Int32)), .val (.ref b_2), .val (.ref b_8), .val (.ref t__9)] [(.int (4 : Int32)), (.int (0 : Int32)), (.ref b_2), (.long (0 : Int64))])
    obtain ⟨_, _, ⟨T_27, L_27, kc_27, nc_27⟩, -, X_27, ⟨Lc_27, hQ_27, l_27, y_27, z_27⟩, st_27⟩ := Jvm.LawKit.callS X_25 hx (y := (⟨"com/example/moat/moat/xpath/HandlesReversePinLaw", "exp", "([JII)J"⟩ : MethodName)) hown (mvT hZ (hw _ (List.mem_of_getElem? (i := 30) rfl))) (mvT hZ (hw _ (List.mem_of_getElem? (i := 31) rfl))) (mvT hZ (hw _ (List.mem_of_getElem? (i := 32) rfl))) (mvT hZ (hw _ (List.mem_of_getElem? (i := 33) rfl))) (by decide) (backOf (W := 2) (rmXb l Z a0 hw [] b_2 (0 : Int32) (4 : Int32) h_11 n0 z_11q (by decide)) hZ (hw _ (List.mem_of_getElem? (i := 33) rfl)) (hw _ (List.mem_of_getElem? (i := 32) rfl)) (by decide) (by decide)) (g := (mkF m 215 #[.val (.int k), .val (.long q0), .second, .val (.long q1), .second, .val (.long q2), .second, .val (.long q3), .second, .val (.long q4), .second, .val (.int (0 : Int32)), .val (.ref b_2), .val (.ref b_8), .val (.ref t__9)] [(.int (4 : Int32)), (.int (0 : Int32)), (.ref b_2), (.long (0 : Int64))])) rfl (by rw [hml]; rfl) (argsL := [(.ref b_2), (.int (0 : Int32)), (.int (4 : Int32))]) (rest := [(.long (0 : Int64))]) (lenOf pd_3 rfl) rfl (by show 2 * 0 + _ ≤ _; exact Nat.le_of_eq rfl) (hb hby at_215) (fun _ _ => ⟨rfl, e_25, (by decide : 3 + 0 ≤ _), (by decide : 15 + 0 ≤ _)⟩)
    dsimp only [Pt.U, Pt.locs, Pt.cells, Pt.slots] at X_27 l_27 y_27 z_27 st_27 hQ_27
    obtain rfl : kc_27 = 3 := y_27
    obtain rfl : nc_27 = 15 := z_27
    obtain ⟨h_27, e_27⟩ : ∃ hh, T_27.heap = hh := ⟨_, rfl⟩
    rw [e_27] at hQ_27
    obtain ⟨rfl, N_27q, sm_27⟩ := hQ_27
    have N_27 : Fr n0 L_27 := by rw [l_27]; exact Fr.app N_25 N_27q
    refine Go.st st_27 ?_
    rw [sm_27] at e_27
    show Go p e below s _ _ _ T_27 (mkF m 218 #[.val (.int k), .val (.long q0), .second, .val (.long q1), .second, .val (.long q2), .second, .val (.long q3), .second, .val (.long q4), .second, .val (.int (0 : Int32)), .val (.ref b_2), .val (.ref b_8), .val (.ref t__9)] [(.long (0 : Int64)), (.long (0 : Int64))])
    refine Go.st (fun _ => XS.lcmp X_27.here hx rfl (hb hby at_218) rfl) ?_
    show Go p e below s _ _ _ T_27 (mkF m 219 #[.val (.int k), .val (.long q0), .second, .val (.long q1), .second, .val (.long q2), .second, .val (.long q3), .second, .val (.long q4), .second, .val (.int (0 : Int32)), .val (.ref b_2), .val (.ref b_8), .val (.ref t__9)] [(.int (lcmpW (0 : Int64) (0 : Int64)))])
    refine Go.st (fun _ => XS.ifNo X_27.here hx rfl (hb hby at_219) rfl ((if0 _ _).trans (teq ((lw_eq (0 : Int64) (0 : Int64)).mpr (by decide : (0 : Int64) = (0 : Int64)))).2)) ?_
    show Go p e below s _ _ _ T_27 (mkF m 222 #[.val (.int k), .val (.long q0), .second, .val (.long q1), .second, .val (.long q2), .second, .val (.long q3), .second, .val (.long q4), .second, .val (.int (0 : Int32)), .val (.ref b_2), .val (.ref b_8), .val (.ref t__9)] [])
    refine Go.st (fun _ => XS.aload X_27.here hx rfl (hb hby at_222) rfl rfl) ?_
    show Go p e below s _ _ _ T_27 (mkF m 224 #[.val (.int k), .val (.long q0), .second, .val (.long q1), .second, .val (.long q2), .second, .val (.long q3), .second, .val (.long q4), .second, .val (.int (0 : Int32)), .val (.ref b_2), .val (.ref b_8), .val (.ref t__9)] [(.ref t__9)])
    refine Go.st (fun _ => XS.iconst X_27.here hx rfl (hb hby at_224)) ?_
    show Go p e below s _ _ _ T_27 (mkF m 225 #[.val (.int k), .val (.long q0), .second, .val (.long q1), .second, .val (.long q2), .second, .val (.long q3), .second, .val (.long q4), .second, .val (.int (0 : Int32)), .val (.ref b_2), .val (.ref b_8), .val (.ref t__9)] [(.int (5 : Int32)), (.ref t__9)])
    obtain ⟨cl_28, Ar_28, q_28, S_28, M_28, H_28, G_28⟩ := id p_11_0
    have hin_28 : ¬ ((5 : Int32) < 0 ∨ cl_28.slots.size ≤ ((5 : Int32)).toNatClampNeg) := inb_of S_28 ⟨by decide, by decide⟩
    have hat_28 : cl_28.slots[((5 : Int32)).toNatClampNeg]? = some (.long (0 : Int64)) := H_28.at hin_28 rfl
    refine Go.st (fun tG => X_27.laload hx (j := (5 : Int32)) (v := (.long (0 : Int64))) (by rw [e_27]; exact Ar_28.1) (State.isArrayOf_alike hZ.alike Ar_28.2.1) Ar_28.2.2 hin_28 hat_28 (g := (mkF m 225 #[.val (.int k), .val (.long q0), .second, .val (.long q1), .second, .val (.long q2), .second, .val (.long q3), .second, .val (.long q4), .second, .val (.int (0 : Int32)), .val (.ref b_2), .val (.ref b_8), .val (.ref t__9)] [(.int (5 : Int32)), (.ref t__9)])) rfl rfl (hb hby at_225) tG) ?_
    show Go p e below s _ _ _ T_27 (mkF m 226 #[.val (.int k), .val (.long q0), .second, .val (.long q1), .second, .val (.long q2), .second, .val (.long q3), .second, .val (.long q4), .second, .val (.int (0 : Int32)), .val (.ref b_2), .val (.ref b_8), .val (.ref t__9)] [(.long (0 : Int64))])
    refine Go.st (fun _ => XS.aload X_27.here hx rfl (hb hby at_226) rfl rfl) ?_
    show Go p e below s _ _ _ T_27 (mkF m 228 #[.val (.int k), .val (.long q0), .second, .val (.long q1), .second, .val (.long q2), .second, .val (.long q3), .second, .val (.long q4), .second, .val (.int (0 : Int32)), .val (.ref b_2), .val (.ref b_8), .val (.ref t__9)] [(.ref b_2), (.long (0 : Int64))])
    refine Go.st (fun _ => XS.iload X_27.here hx rfl (hb hby at_228) rfl) ?_
    show Go p e below s _ _ _ T_27 (mkF m 230 #[.val (.int k), .val (.long q0), .second, .val (.long q1), .second, .val (.long q2), .second, .val (.long q3), .second, .val (.long q4), .second, .val (.int (0 : Int32)), .val (.ref b_2), .val (.ref b_8), .val (.ref t__9)] [(.int (0 : Int32)), (.ref b_2), (.long (0 : Int64))])
    refine Go.st (fun _ => XS.iconst X_27.here hx rfl (hb hby at_230)) ?_
    show Go p e below s _ _ _ T_27 (mkF m 231 #[.val (.int k), .val (.long q0), .second, .val (.long q1), .second, .val (.long q2), .second, .val (.long q3), .second, .val (.long q4), .second, .val (.int (0 : Int32)), .val (.ref b_2), .val (.ref b_8), .val (.ref t__9)] [(.int (5 : Int32)), (.int (0 : Int32)), (.ref b_2), (.long (0 : Int64))])
    obtain ⟨_, _, ⟨T_29, L_29, kc_29, nc_29⟩, -, X_29, ⟨Lc_29, hQ_29, l_29, y_29, z_29⟩, st_29⟩ := Jvm.LawKit.callS X_27 hx (y := (⟨"com/example/moat/moat/xpath/HandlesReversePinLaw", "exp", "([JII)J"⟩ : MethodName)) hown (mvT hZ (hw _ (List.mem_of_getElem? (i := 30) rfl))) (mvT hZ (hw _ (List.mem_of_getElem? (i := 31) rfl))) (mvT hZ (hw _ (List.mem_of_getElem? (i := 32) rfl))) (mvT hZ (hw _ (List.mem_of_getElem? (i := 33) rfl))) (by decide) (backOf (W := 2) (rmXb l Z a0 hw [] b_2 (0 : Int32) (5 : Int32) h_11 n0 z_11q (by decide)) hZ (hw _ (List.mem_of_getElem? (i := 33) rfl)) (hw _ (List.mem_of_getElem? (i := 32) rfl)) (by decide) (by decide)) (g := (mkF m 231 #[.val (.int k), .val (.long q0), .second, .val (.long q1), .second, .val (.long q2), .second, .val (.long q3), .second, .val (.long q4), .second, .val (.int (0 : Int32)), .val (.ref b_2), .val (.ref b_8), .val (.ref t__9)] [(.int (5 : Int32)), (.int (0 : Int32)), (.ref b_2), (.long (0 : Int64))])) rfl (by rw [hml]; rfl) (argsL := [(.ref b_2), (.int (0 : Int32)), (.int (5 : Int32))]) (rest := [(.long (0 : Int64))]) (lenOf pd_3 rfl) rfl (by show 2 * 0 + _ ≤ _; exact Nat.le_of_eq rfl) (hb hby at_231) (fun _ _ => ⟨rfl, e_27, (by decide : 3 + 0 ≤ _), (by decide : 15 + 0 ≤ _)⟩)
    dsimp only [Pt.U, Pt.locs, Pt.cells, Pt.slots] at X_29 l_29 y_29 z_29 st_29 hQ_29
    obtain rfl : kc_29 = 3 := y_29
    obtain rfl : nc_29 = 15 := z_29
    obtain ⟨h_29, e_29⟩ : ∃ hh, T_29.heap = hh := ⟨_, rfl⟩
    rw [e_29] at hQ_29
    obtain ⟨rfl, N_29q, sm_29⟩ := hQ_29
    have N_29 : Fr n0 L_29 := by rw [l_29]; exact Fr.app N_27 N_29q
    refine Go.st st_29 ?_
    rw [sm_29] at e_29
    show Go p e below s _ _ _ T_29 (mkF m 234 #[.val (.int k), .val (.long q0), .second, .val (.long q1), .second, .val (.long q2), .second, .val (.long q3), .second, .val (.long q4), .second, .val (.int (0 : Int32)), .val (.ref b_2), .val (.ref b_8), .val (.ref t__9)] [(.long (0 : Int64)), (.long (0 : Int64))])
    refine Go.st (fun _ => XS.lcmp X_29.here hx rfl (hb hby at_234) rfl) ?_
    show Go p e below s _ _ _ T_29 (mkF m 235 #[.val (.int k), .val (.long q0), .second, .val (.long q1), .second, .val (.long q2), .second, .val (.long q3), .second, .val (.long q4), .second, .val (.int (0 : Int32)), .val (.ref b_2), .val (.ref b_8), .val (.ref t__9)] [(.int (lcmpW (0 : Int64) (0 : Int64)))])
    refine Go.st (fun _ => XS.ifNo X_29.here hx rfl (hb hby at_235) rfl ((if0 _ _).trans (teq ((lw_eq (0 : Int64) (0 : Int64)).mpr (by decide : (0 : Int64) = (0 : Int64)))).2)) ?_
    show Go p e below s _ _ _ T_29 (mkF m 238 #[.val (.int k), .val (.long q0), .second, .val (.long q1), .second, .val (.long q2), .second, .val (.long q3), .second, .val (.long q4), .second, .val (.int (0 : Int32)), .val (.ref b_2), .val (.ref b_8), .val (.ref t__9)] [])
    refine Go.st (fun _ => XS.aload X_29.here hx rfl (hb hby at_238) rfl rfl) ?_
    show Go p e below s _ _ _ T_29 (mkF m 240 #[.val (.int k), .val (.long q0), .second, .val (.long q1), .second, .val (.long q2), .second, .val (.long q3), .second, .val (.long q4), .second, .val (.int (0 : Int32)), .val (.ref b_2), .val (.ref b_8), .val (.ref t__9)] [(.ref t__9)])
    refine Go.st (fun _ => XS.bipush X_29.here hx rfl (hb hby at_240)) ?_
    show Go p e below s _ _ _ T_29 (mkF m 242 #[.val (.int k), .val (.long q0), .second, .val (.long q1), .second, .val (.long q2), .second, .val (.long q3), .second, .val (.long q4), .second, .val (.int (0 : Int32)), .val (.ref b_2), .val (.ref b_8), .val (.ref t__9)] [(.int (6 : Int32)), (.ref t__9)])
    obtain ⟨cl_30, Ar_30, q_30, S_30, M_30, H_30, G_30⟩ := id p_11_0
    have hin_30 : ¬ ((6 : Int32) < 0 ∨ cl_30.slots.size ≤ ((6 : Int32)).toNatClampNeg) := inb_of S_30 ⟨by decide, by decide⟩
    have hat_30 : cl_30.slots[((6 : Int32)).toNatClampNeg]? = some (.long (0 : Int64)) := H_30.at hin_30 rfl
    refine Go.st (fun tG => X_29.laload hx (j := (6 : Int32)) (v := (.long (0 : Int64))) (by rw [e_29]; exact Ar_30.1) (State.isArrayOf_alike hZ.alike Ar_30.2.1) Ar_30.2.2 hin_30 hat_30 (g := (mkF m 242 #[.val (.int k), .val (.long q0), .second, .val (.long q1), .second, .val (.long q2), .second, .val (.long q3), .second, .val (.long q4), .second, .val (.int (0 : Int32)), .val (.ref b_2), .val (.ref b_8), .val (.ref t__9)] [(.int (6 : Int32)), (.ref t__9)])) rfl rfl (hb hby at_242) tG) ?_
    show Go p e below s _ _ _ T_29 (mkF m 243 #[.val (.int k), .val (.long q0), .second, .val (.long q1), .second, .val (.long q2), .second, .val (.long q3), .second, .val (.long q4), .second, .val (.int (0 : Int32)), .val (.ref b_2), .val (.ref b_8), .val (.ref t__9)] [(.long (0 : Int64))])
    refine Go.st (fun _ => XS.aload X_29.here hx rfl (hb hby at_243) rfl rfl) ?_
    show Go p e below s _ _ _ T_29 (mkF m 245 #[.val (.int k), .val (.long q0), .second, .val (.long q1), .second, .val (.long q2), .second, .val (.long q3), .second, .val (.long q4), .second, .val (.int (0 : Int32)), .val (.ref b_2), .val (.ref b_8), .val (.ref t__9)] [(.ref b_2), (.long (0 : Int64))])
    refine Go.st (fun _ => XS.iload X_29.here hx rfl (hb hby at_245) rfl) ?_
    show Go p e below s _ _ _ T_29 (mkF m 247 #[.val (.int k), .val (.long q0), .second, .val (.long q1), .second, .val (.long q2), .second, .val (.long q3), .second, .val (.long q4), .second, .val (.int (0 : Int32)), .val (.ref b_2), .val (.ref b_8), .val (.ref t__9)] [(.int (0 : Int32)), (.ref b_2), (.long (0 : Int64))])
    refine Go.st (fun _ => XS.bipush X_29.here hx rfl (hb hby at_247)) ?_
    show Go p e below s _ _ _ T_29 (mkF m 249 #[.val (.int k), .val (.long q0), .second, .val (.long q1), .second, .val (.long q2), .second, .val (.long q3), .second, .val (.long q4), .second, .val (.int (0 : Int32)), .val (.ref b_2), .val (.ref b_8), .val (.ref t__9)] [(.int (6 : Int32)), (.int (0 : Int32)), (.ref b_2), (.long (0 : Int64))])
    obtain ⟨_, _, ⟨T_31, L_31, kc_31, nc_31⟩, -, X_31, ⟨Lc_31, hQ_31, l_31, y_31, z_31⟩, st_31⟩ := Jvm.LawKit.callS X_29 hx (y := (⟨"com/example/moat/moat/xpath/HandlesReversePinLaw", "exp", "([JII)J"⟩ : MethodName)) hown (mvT hZ (hw _ (List.mem_of_getElem? (i := 30) rfl))) (mvT hZ (hw _ (List.mem_of_getElem? (i := 31) rfl))) (mvT hZ (hw _ (List.mem_of_getElem? (i := 32) rfl))) (mvT hZ (hw _ (List.mem_of_getElem? (i := 33) rfl))) (by decide) (backOf (W := 2) (rmXb l Z a0 hw [] b_2 (0 : Int32) (6 : Int32) h_11 n0 z_11q (by decide)) hZ (hw _ (List.mem_of_getElem? (i := 33) rfl)) (hw _ (List.mem_of_getElem? (i := 32) rfl)) (by decide) (by decide)) (g := (mkF m 249 #[.val (.int k), .val (.long q0), .second, .val (.long q1), .second, .val (.long q2), .second, .val (.long q3), .second, .val (.long q4), .second, .val (.int (0 : Int32)), .val (.ref b_2), .val (.ref b_8), .val (.ref t__9)] [(.int (6 : Int32)), (.int (0 : Int32)), (.ref b_2), (.long (0 : Int64))])) rfl (by rw [hml]; rfl) (argsL := [(.ref b_2), (.int (0 : Int32)), (.int (6 : Int32))]) (rest := [(.long (0 : Int64))]) (lenOf pd_3 rfl) rfl (by show 2 * 0 + _ ≤ _; exact Nat.le_of_eq rfl) (hb hby at_249) (fun _ _ => ⟨rfl, e_29, (by decide : 3 + 0 ≤ _), (by decide : 15 + 0 ≤ _)⟩)
    dsimp only [Pt.U, Pt.locs, Pt.cells, Pt.slots] at X_31 l_31 y_31 z_31 st_31 hQ_31
    obtain rfl : kc_31 = 3 := y_31
    obtain rfl : nc_31 = 15 := z_31
    obtain ⟨h_31, e_31⟩ : ∃ hh, T_31.heap = hh := ⟨_, rfl⟩
    rw [e_31] at hQ_31
    obtain ⟨rfl, N_31q, sm_31⟩ := hQ_31
    have N_31 : Fr n0 L_31 := by rw [l_31]; exact Fr.app N_29 N_31q
    refine Go.st st_31 ?_
    rw [sm_31] at e_31
    show Go p e below s _ _ _ T_31 (mkF m 252 #[.val (.int k), .val (.long q0), .second, .val (.long q1), .second, .val (.long q2), .second, .val (.long q3), .second, .val (.long q4), .second, .val (.int (0 : Int32)), .val (.ref b_2), .val (.ref b_8), .val (.ref t__9)] [(.long (0 : Int64)), (.long (0 : Int64))])
    refine Go.st (fun _ => XS.lcmp X_31.here hx rfl (hb hby at_252) rfl) ?_
    show Go p e below s _ _ _ T_31 (mkF m 253 #[.val (.int k), .val (.long q0), .second, .val (.long q1), .second, .val (.long q2), .second, .val (.long q3), .second, .val (.long q4), .second, .val (.int (0 : Int32)), .val (.ref b_2), .val (.ref b_8), .val (.ref t__9)] [(.int (lcmpW (0 : Int64) (0 : Int64)))])
    refine Go.st (fun _ => XS.ifNo X_31.here hx rfl (hb hby at_253) rfl ((if0 _ _).trans (teq ((lw_eq (0 : Int64) (0 : Int64)).mpr (by decide : (0 : Int64) = (0 : Int64)))).2)) ?_
    show Go p e below s _ _ _ T_31 (mkF m 256 #[.val (.int k), .val (.long q0), .second, .val (.long q1), .second, .val (.long q2), .second, .val (.long q3), .second, .val (.long q4), .second, .val (.int (0 : Int32)), .val (.ref b_2), .val (.ref b_8), .val (.ref t__9)] [])
    refine Go.st (fun _ => XS.aload X_31.here hx rfl (hb hby at_256) rfl rfl) ?_
    show Go p e below s _ _ _ T_31 (mkF m 258 #[.val (.int k), .val (.long q0), .second, .val (.long q1), .second, .val (.long q2), .second, .val (.long q3), .second, .val (.long q4), .second, .val (.int (0 : Int32)), .val (.ref b_2), .val (.ref b_8), .val (.ref t__9)] [(.ref t__9)])
    refine Go.st (fun _ => XS.bipush X_31.here hx rfl (hb hby at_258)) ?_
    show Go p e below s _ _ _ T_31 (mkF m 260 #[.val (.int k), .val (.long q0), .second, .val (.long q1), .second, .val (.long q2), .second, .val (.long q3), .second, .val (.long q4), .second, .val (.int (0 : Int32)), .val (.ref b_2), .val (.ref b_8), .val (.ref t__9)] [(.int (7 : Int32)), (.ref t__9)])
    obtain ⟨cl_32, Ar_32, q_32, S_32, M_32, H_32, G_32⟩ := id p_11_0
    have hin_32 : ¬ ((7 : Int32) < 0 ∨ cl_32.slots.size ≤ ((7 : Int32)).toNatClampNeg) := inb_of S_32 ⟨by decide, by decide⟩
    have hat_32 : cl_32.slots[((7 : Int32)).toNatClampNeg]? = some (.long (0 : Int64)) := H_32.at hin_32 rfl
    refine Go.st (fun tG => X_31.laload hx (j := (7 : Int32)) (v := (.long (0 : Int64))) (by rw [e_31]; exact Ar_32.1) (State.isArrayOf_alike hZ.alike Ar_32.2.1) Ar_32.2.2 hin_32 hat_32 (g := (mkF m 260 #[.val (.int k), .val (.long q0), .second, .val (.long q1), .second, .val (.long q2), .second, .val (.long q3), .second, .val (.long q4), .second, .val (.int (0 : Int32)), .val (.ref b_2), .val (.ref b_8), .val (.ref t__9)] [(.int (7 : Int32)), (.ref t__9)])) rfl rfl (hb hby at_260) tG) ?_
    show Go p e below s _ _ _ T_31 (mkF m 261 #[.val (.int k), .val (.long q0), .second, .val (.long q1), .second, .val (.long q2), .second, .val (.long q3), .second, .val (.long q4), .second, .val (.int (0 : Int32)), .val (.ref b_2), .val (.ref b_8), .val (.ref t__9)] [(.long (0 : Int64))])
    refine Go.st (fun _ => XS.aload X_31.here hx rfl (hb hby at_261) rfl rfl) ?_
    show Go p e below s _ _ _ T_31 (mkF m 263 #[.val (.int k), .val (.long q0), .second, .val (.long q1), .second, .val (.long q2), .second, .val (.long q3), .second, .val (.long q4), .second, .val (.int (0 : Int32)), .val (.ref b_2), .val (.ref b_8), .val (.ref t__9)] [(.ref b_2), (.long (0 : Int64))])
    refine Go.st (fun _ => XS.iload X_31.here hx rfl (hb hby at_263) rfl) ?_
    show Go p e below s _ _ _ T_31 (mkF m 265 #[.val (.int k), .val (.long q0), .second, .val (.long q1), .second, .val (.long q2), .second, .val (.long q3), .second, .val (.long q4), .second, .val (.int (0 : Int32)), .val (.ref b_2), .val (.ref b_8), .val (.ref t__9)] [(.int (0 : Int32)), (.ref b_2), (.long (0 : Int64))])
    refine Go.st (fun _ => XS.bipush X_31.here hx rfl (hb hby at_265)) ?_
    show Go p e below s _ _ _ T_31 (mkF m 267 #[.val (.int k), .val (.long q0), .second, .val (.long q1), .second, .val (.long q2), .second, .val (.long q3), .second, .val (.long q4), .second, .val (.int (0 : Int32)), .val (.ref b_2), .val (.ref b_8), .val (.ref t__9)] [(.int (7 : Int32)), (.int (0 : Int32)), (.ref b_2), (.long (0 : Int64))])
    obtain ⟨_, _, ⟨T_33, L_33, kc_33, nc_33⟩, -, X_33, ⟨Lc_33, hQ_33, l_33, y_33, z_33⟩, st_33⟩ := Jvm.LawKit.callS X_31 hx (y := (⟨"com/example/moat/moat/xpath/HandlesReversePinLaw", "exp", "([JII)J"⟩ : MethodName)) hown (mvT hZ (hw _ (List.mem_of_getElem? (i := 30) rfl))) (mvT hZ (hw _ (List.mem_of_getElem? (i := 31) rfl))) (mvT hZ (hw _ (List.mem_of_getElem? (i := 32) rfl))) (mvT hZ (hw _ (List.mem_of_getElem? (i := 33) rfl))) (by decide) (backOf (W := 2) (rmXb l Z a0 hw [] b_2 (0 : Int32) (7 : Int32) h_11 n0 z_11q (by decide)) hZ (hw _ (List.mem_of_getElem? (i := 33) rfl)) (hw _ (List.mem_of_getElem? (i := 32) rfl)) (by decide) (by decide)) (g := (mkF m 267 #[.val (.int k), .val (.long q0), .second, .val (.long q1), .second, .val (.long q2), .second, .val (.long q3), .second, .val (.long q4), .second, .val (.int (0 : Int32)), .val (.ref b_2), .val (.ref b_8), .val (.ref t__9)] [(.int (7 : Int32)), (.int (0 : Int32)), (.ref b_2), (.long (0 : Int64))])) rfl (by rw [hml]; rfl) (argsL := [(.ref b_2), (.int (0 : Int32)), (.int (7 : Int32))]) (rest := [(.long (0 : Int64))]) (lenOf pd_3 rfl) rfl (by show 2 * 0 + _ ≤ _; exact Nat.le_of_eq rfl) (hb hby at_267) (fun _ _ => ⟨rfl, e_31, (by decide : 3 + 0 ≤ _), (by decide : 15 + 0 ≤ _)⟩)
    dsimp only [Pt.U, Pt.locs, Pt.cells, Pt.slots] at X_33 l_33 y_33 z_33 st_33 hQ_33
    obtain rfl : kc_33 = 3 := y_33
    obtain rfl : nc_33 = 15 := z_33
    obtain ⟨h_33, e_33⟩ : ∃ hh, T_33.heap = hh := ⟨_, rfl⟩
    rw [e_33] at hQ_33
    obtain ⟨rfl, N_33q, sm_33⟩ := hQ_33
    have N_33 : Fr n0 L_33 := by rw [l_33]; exact Fr.app N_31 N_33q
    refine Go.st st_33 ?_
    rw [sm_33] at e_33
    show Go p e below s _ _ _ T_33 (mkF m 270 #[.val (.int k), .val (.long q0), .second, .val (.long q1), .second, .val (.long q2), .second, .val (.long q3), .second, .val (.long q4), .second, .val (.int (0 : Int32)), .val (.ref b_2), .val (.ref b_8), .val (.ref t__9)] [(.long (0 : Int64)), (.long (0 : Int64))])
    refine Go.st (fun _ => XS.lcmp X_33.here hx rfl (hb hby at_270) rfl) ?_
    show Go p e below s _ _ _ T_33 (mkF m 271 #[.val (.int k), .val (.long q0), .second, .val (.long q1), .second, .val (.long q2), .second, .val (.long q3), .second, .val (.long q4), .second, .val (.int (0 : Int32)), .val (.ref b_2), .val (.ref b_8), .val (.ref t__9)] [(.int (lcmpW (0 : Int64) (0 : Int64)))])
    refine Go.st (fun _ => XS.ifNo X_33.here hx rfl (hb hby at_271) rfl ((if0 _ _).trans (teq ((lw_eq (0 : Int64) (0 : Int64)).mpr (by decide : (0 : Int64) = (0 : Int64)))).2)) ?_
    show Go p e below s _ _ _ T_33 (mkF m 274 #[.val (.int k), .val (.long q0), .second, .val (.long q1), .second, .val (.long q2), .second, .val (.long q3), .second, .val (.long q4), .second, .val (.int (0 : Int32)), .val (.ref b_2), .val (.ref b_8), .val (.ref t__9)] [])
    refine Go.st (fun _ => XS.iconst X_33.here hx rfl (hb hby at_274)) ?_
    show Go p e below s _ _ _ T_33 (mkF m 275 #[.val (.int k), .val (.long q0), .second, .val (.long q1), .second, .val (.long q2), .second, .val (.long q3), .second, .val (.long q4), .second, .val (.int (0 : Int32)), .val (.ref b_2), .val (.ref b_8), .val (.ref t__9)] [(.int (1 : Int32))])
    refine Go.st (fun _ => XS.goto X_33.here hx rfl (pc0 := 275) (pc' := 279) rfl (hb hby at_275) (by decide) (by decide)) ?_
    show Go p e below s _ _ _ T_33 (mkF m 279 #[.val (.int k), .val (.long q0), .second, .val (.long q1), .second, .val (.long q2), .second, .val (.long q3), .second, .val (.long q4), .second, .val (.int (0 : Int32)), .val (.ref b_2), .val (.ref b_8), .val (.ref t__9)] [(.int (1 : Int32))])
    exact Go.retZ X_33 hx hlk Bd.returns (hb hby at_279) rfl (by rw [e_33]; exact ⟨rfl, N_33⟩) (by decide) (by decide)
  · rw [show ((k &&& (2147483647 : Int32)) % (6 : Int32)) = (1 : Int32) from hd_1]
    show Go p e below s _ _ _ s₁ (mkF m 7 #[.val (.int k), .val (.long q0), .second, .val (.long q1), .second, .val (.long q2), .second, .val (.long q3), .second, .val (.long q4), .second, .unset, .unset, .unset, .unset] [(.int (1 : Int32))])
    refine Go.st (fun _ => XS.istore X0.here hx rfl (hb hby at_7) rfl (l' := #[.val (.int k), .val (.long q0), .second, .val (.long q1), .second, .val (.long q2), .second, .val (.long q3), .second, .val (.long q4), .second, .val (.int (1 : Int32)), .unset, .unset, .unset]) rfl) ?_
    show Go p e below s _ _ _ s₁ (mkF m 9 #[.val (.int k), .val (.long q0), .second, .val (.long q1), .second, .val (.long q2), .second, .val (.long q3), .second, .val (.long q4), .second, .val (.int (1 : Int32)), .unset, .unset, .unset] [])
    refine Go.st (fun _ => XS.iconst X0.here hx rfl (hb hby at_9)) ?_
    show Go p e below s _ _ _ s₁ (mkF m 10 #[.val (.int k), .val (.long q0), .second, .val (.long q1), .second, .val (.long q2), .second, .val (.long q3), .second, .val (.long q4), .second, .val (.int (1 : Int32)), .unset, .unset, .unset] [(.int (5 : Int32))])
    obtain ⟨T_34, h_34, kA_34, X_34, e_34, E_34, A_34, st_34⟩ := newP X0 hx hZ (hw _ (List.mem_of_getElem? (i := 1) rfl)) e0 (g := (mkF m 10 #[.val (.int k), .val (.long q0), .second, .val (.long q1), .second, .val (.long q2), .second, .val (.long q3), .second, .val (.long q4), .second, .val (.int (1 : Int32)), .unset, .unset, .unset] [(.int (5 : Int32))])) rfl (hb hby at_10) rfl (by decide) (cap := 5) (by decide) (by decide) (by decide) (by decide)
    obtain ⟨b_34, g_34⟩ : ∃ z, z = h0.size := ⟨_, rfl⟩
    rw [← g_34] at A_34 st_34
    refine Go.st st_34 ?_
    have gg_34 : n0 ≤ b_34 := Nat.le_trans Z0 (Nat.le_of_eq g_34.symm)
    have z_34 : n0 ≤ h_34.size := Nat.le_trans Z0 E_34.1
    have V_b_34 : Arv Z h_34 b_34 kA_34 .long (5 : Int32) [(.long (0 : Int64)), (.long (0 : Int64)), (.long (0 : Int64)), (.long (0 : Int64)), (.long (0 : Int64))] (.long (0 : Int64)) := (Arv.new A_34 (by decide)).pad (pad_rep [] (.long (0 : Int64)) 5)
    show Go p e below s _ _ _ T_34 (mkF m 12 #[.val (.int k), .val (.long q0), .second, .val (.long q1), .second, .val (.long q2), .second, .val (.long q3), .second, .val (.long q4), .second, .val (.int (1 : Int32)), .unset, .unset, .unset] [(.ref b_34)])
    refine Go.st (fun _ => XS.dup X_34.here hx rfl (hb hby at_12) rfl rfl) ?_
    show Go p e below s _ _ _ T_34 (mkF m 13 #[.val (.int k), .val (.long q0), .second, .val (.long q1), .second, .val (.long q2), .second, .val (.long q3), .second, .val (.long q4), .second, .val (.int (1 : Int32)), .unset, .unset, .unset] [(.ref b_34), (.ref b_34)])
    refine Go.st (fun _ => XS.iconst X_34.here hx rfl (hb hby at_13)) ?_
    show Go p e below s _ _ _ T_34 (mkF m 14 #[.val (.int k), .val (.long q0), .second, .val (.long q1), .second, .val (.long q2), .second, .val (.long q3), .second, .val (.long q4), .second, .val (.int (1 : Int32)), .unset, .unset, .unset] [(.int (0 : Int32)), (.ref b_34), (.ref b_34)])
    refine Go.st (fun _ => XS.lloadN X_34.here hx rfl (hb hby at_14) rfl) ?_
    show Go p e below s _ _ _ T_34 (mkF m 15 #[.val (.int k), .val (.long q0), .second, .val (.long q1), .second, .val (.long q2), .second, .val (.long q3), .second, .val (.long q4), .second, .val (.int (1 : Int32)), .unset, .unset, .unset] [(.long q0), (.int (0 : Int32)), (.ref b_34), (.ref b_34)])
    obtain ⟨cl_35, Ar_35, q_35, S_35, M_35, H_35, G_35⟩ := id V_b_34
    have hin_35 : ¬ ((0 : Int32) < 0 ∨ cl_35.slots.size ≤ ((0 : Int32)).toNatClampNeg) := inb_of S_35 ⟨by decide, by decide⟩
    obtain ⟨T_35, h_35, X_35, e_35, W_35, st_35⟩ := stJ X_34 hx hZ e_34 Ar_35 (j := (0 : Int32)) hin_35 (g := (mkF m 15 #[.val (.int k), .val (.long q0), .second, .val (.long q1), .second, .val (.long q2), .second, .val (.long q3), .second, .val (.long q4), .second, .val (.int (1 : Int32)), .unset, .unset, .unset] [(.long q0), (.int (0 : Int32)), (.ref b_34), (.ref b_34)])) rfl rfl (hb hby at_15)
    refine Go.st st_35 ?_
    have V_35 : Arv Z h_35 b_34 kA_34 .long (5 : Int32) [(.long q0), (.long (0 : Int64)), (.long (0 : Int64)), (.long (0 : Int64)), (.long (0 : Int64))] (.long (0 : Int64)) := Arv.set Ar_35 q_35 S_35 M_35 H_35 G_35 rfl W_35 0 rfl (Nat.le_of_ble_eq_true rfl)
    have N_35 := Fr.snoc X_35 N0 gg_34
    have z_35 : n0 ≤ h_35.size := Nat.le_trans z_34 (Nat.le_of_eq W_35.size.symm)
    show Go p e below s _ _ _ T_35 (mkF m 16 #[.val (.int k), .val (.long q0), .second, .val (.long q1), .second, .val (.long q2), .second, .val (.long q3), .second, .val (.long q4), .second, .val (.int (1 : Int32)), .unset, .unset, .unset] [(.ref b_34)])
    refine Go.st (fun _ => XS.dup X_35.here hx rfl (hb hby at_16) rfl rfl) ?_
    show Go p e below s _ _ _ T_35 (mkF m 17 #[.val (.int k), .val (.long q0), .second, .val (.long q1), .second, .val (.long q2), .second, .val (.long q3), .second, .val (.long q4), .second, .val (.int (1 : Int32)), .unset, .unset, .unset] [(.ref b_34), (.ref b_34)])
    refine Go.st (fun _ => XS.iconst X_35.here hx rfl (hb hby at_17)) ?_
    show Go p e below s _ _ _ T_35 (mkF m 18 #[.val (.int k), .val (.long q0), .second, .val (.long q1), .second, .val (.long q2), .second, .val (.long q3), .second, .val (.long q4), .second, .val (.int (1 : Int32)), .unset, .unset, .unset] [(.int (1 : Int32)), (.ref b_34), (.ref b_34)])
    refine Go.st (fun _ => XS.lloadN X_35.here hx rfl (hb hby at_18) rfl) ?_
    show Go p e below s _ _ _ T_35 (mkF m 19 #[.val (.int k), .val (.long q0), .second, .val (.long q1), .second, .val (.long q2), .second, .val (.long q3), .second, .val (.long q4), .second, .val (.int (1 : Int32)), .unset, .unset, .unset] [(.long q1), (.int (1 : Int32)), (.ref b_34), (.ref b_34)])
    obtain ⟨cl_36, Ar_36, q_36, S_36, M_36, H_36, G_36⟩ := id V_35
    have hin_36 : ¬ ((1 : Int32) < 0 ∨ cl_36.slots.size ≤ ((1 : Int32)).toNatClampNeg) := inb_of S_36 ⟨by decide, by decide⟩
    obtain ⟨T_36, h_36, X_36, e_36, W_36, st_36⟩ := stJ X_35 hx hZ e_35 Ar_36 (j := (1 : Int32)) hin_36 (g := (mkF m 19 #[.val (.int k), .val (.long q0), .second, .val (.long q1), .second, .val (.long q2), .second, .val (.long q3), .second, .val (.long q4), .second, .val (.int (1 : Int32)), .unset, .unset, .unset] [(.long q1), (.int (1 : Int32)), (.ref b_34), (.ref b_34)])) rfl rfl (hb hby at_19)
    refine Go.st st_36 ?_
    have V_36 : Arv Z h_36 b_34 kA_34 .long (5 : Int32) [(.long q0), (.long q1), (.long (0 : Int64)), (.long (0 : Int64)), (.long (0 : Int64))] (.long (0 : Int64)) := Arv.set Ar_36 q_36 S_36 M_36 H_36 G_36 rfl W_36 1 rfl (Nat.le_of_ble_eq_true rfl)
    have N_36 := Fr.snoc X_36 N_35 gg_34
    have z_36 : n0 ≤ h_36.size := Nat.le_trans z_35 (Nat.le_of_eq W_36.size.symm)
    show Go p e below s _ _ _ T_36 (mkF m 20 #[.val (.int k), .val (.long q0), .second, .val (.long q1), .second, .val (.long q2), .second, .val (.long q3), .second, .val (.long q4), .second, .val (.int (1 : Int32)), .unset, .unset, .unset] [(.ref b_34)])
    refine Go.st (fun _ => XS.dup X_36.here hx rfl (hb hby at_20) rfl rfl) ?_
    show Go p e below s _ _ _ T_36 (mkF m 21 #[.val (.int k), .val (.long q0), .second, .val (.long q1), .second, .val (.long q2), .second, .val (.long q3), .second, .val (.long q4), .second, .val (.int (1 : Int32)), .unset, .unset, .unset] [(.ref b_34), (.ref b_34)])
    refine Go.st (fun _ => XS.iconst X_36.here hx rfl (hb hby at_21)) ?_
    show Go p e below s _ _ _ T_36 (mkF m 22 #[.val (.int k), .val (.long q0), .second, .val (.long q1), .second, .val (.long q2), .second, .val (.long q3), .second, .val (.long q4), .second, .val (.int (1 : Int32)), .unset, .unset, .unset] [(.int (2 : Int32)), (.ref b_34), (.ref b_34)])
    refine Go.st (fun _ => XS.lload X_36.here hx rfl (hb hby at_22) rfl) ?_
    show Go p e below s _ _ _ T_36 (mkF m 24 #[.val (.int k), .val (.long q0), .second, .val (.long q1), .second, .val (.long q2), .second, .val (.long q3), .second, .val (.long q4), .second, .val (.int (1 : Int32)), .unset, .unset, .unset] [(.long q2), (.int (2 : Int32)), (.ref b_34), (.ref b_34)])
    obtain ⟨cl_37, Ar_37, q_37, S_37, M_37, H_37, G_37⟩ := id V_36
    have hin_37 : ¬ ((2 : Int32) < 0 ∨ cl_37.slots.size ≤ ((2 : Int32)).toNatClampNeg) := inb_of S_37 ⟨by decide, by decide⟩
    obtain ⟨T_37, h_37, X_37, e_37, W_37, st_37⟩ := stJ X_36 hx hZ e_36 Ar_37 (j := (2 : Int32)) hin_37 (g := (mkF m 24 #[.val (.int k), .val (.long q0), .second, .val (.long q1), .second, .val (.long q2), .second, .val (.long q3), .second, .val (.long q4), .second, .val (.int (1 : Int32)), .unset, .unset, .unset] [(.long q2), (.int (2 : Int32)), (.ref b_34), (.ref b_34)])) rfl rfl (hb hby at_24)
    refine Go.st st_37 ?_
    have V_37 : Arv Z h_37 b_34 kA_34 .long (5 : Int32) [(.long q0), (.long q1), (.long q2), (.long (0 : Int64)), (.long (0 : Int64))] (.long (0 : Int64)) := Arv.set Ar_37 q_37 S_37 M_37 H_37 G_37 rfl W_37 2 rfl (Nat.le_of_ble_eq_true rfl)
    have N_37 := Fr.snoc X_37 N_36 gg_34
    have z_37 : n0 ≤ h_37.size := Nat.le_trans z_36 (Nat.le_of_eq W_37.size.symm)
    show Go p e below s _ _ _ T_37 (mkF m 25 #[.val (.int k), .val (.long q0), .second, .val (.long q1), .second, .val (.long q2), .second, .val (.long q3), .second, .val (.long q4), .second, .val (.int (1 : Int32)), .unset, .unset, .unset] [(.ref b_34)])
    refine Go.st (fun _ => XS.dup X_37.here hx rfl (hb hby at_25) rfl rfl) ?_
    show Go p e below s _ _ _ T_37 (mkF m 26 #[.val (.int k), .val (.long q0), .second, .val (.long q1), .second, .val (.long q2), .second, .val (.long q3), .second, .val (.long q4), .second, .val (.int (1 : Int32)), .unset, .unset, .unset] [(.ref b_34), (.ref b_34)])
    refine Go.st (fun _ => XS.iconst X_37.here hx rfl (hb hby at_26)) ?_
    show Go p e below s _ _ _ T_37 (mkF m 27 #[.val (.int k), .val (.long q0), .second, .val (.long q1), .second, .val (.long q2), .second, .val (.long q3), .second, .val (.long q4), .second, .val (.int (1 : Int32)), .unset, .unset, .unset] [(.int (3 : Int32)), (.ref b_34), (.ref b_34)])
    refine Go.st (fun _ => XS.lload X_37.here hx rfl (hb hby at_27) rfl) ?_
    show Go p e below s _ _ _ T_37 (mkF m 29 #[.val (.int k), .val (.long q0), .second, .val (.long q1), .second, .val (.long q2), .second, .val (.long q3), .second, .val (.long q4), .second, .val (.int (1 : Int32)), .unset, .unset, .unset] [(.long q3), (.int (3 : Int32)), (.ref b_34), (.ref b_34)])
    obtain ⟨cl_38, Ar_38, q_38, S_38, M_38, H_38, G_38⟩ := id V_37
    have hin_38 : ¬ ((3 : Int32) < 0 ∨ cl_38.slots.size ≤ ((3 : Int32)).toNatClampNeg) := inb_of S_38 ⟨by decide, by decide⟩
    obtain ⟨T_38, h_38, X_38, e_38, W_38, st_38⟩ := stJ X_37 hx hZ e_37 Ar_38 (j := (3 : Int32)) hin_38 (g := (mkF m 29 #[.val (.int k), .val (.long q0), .second, .val (.long q1), .second, .val (.long q2), .second, .val (.long q3), .second, .val (.long q4), .second, .val (.int (1 : Int32)), .unset, .unset, .unset] [(.long q3), (.int (3 : Int32)), (.ref b_34), (.ref b_34)])) rfl rfl (hb hby at_29)
    refine Go.st st_38 ?_
    have V_38 : Arv Z h_38 b_34 kA_34 .long (5 : Int32) [(.long q0), (.long q1), (.long q2), (.long q3), (.long (0 : Int64))] (.long (0 : Int64)) := Arv.set Ar_38 q_38 S_38 M_38 H_38 G_38 rfl W_38 3 rfl (Nat.le_of_ble_eq_true rfl)
    have N_38 := Fr.snoc X_38 N_37 gg_34
    have z_38 : n0 ≤ h_38.size := Nat.le_trans z_37 (Nat.le_of_eq W_38.size.symm)
    show Go p e below s _ _ _ T_38 (mkF m 30 #[.val (.int k), .val (.long q0), .second, .val (.long q1), .second, .val (.long q2), .second, .val (.long q3), .second, .val (.long q4), .second, .val (.int (1 : Int32)), .unset, .unset, .unset] [(.ref b_34)])
    refine Go.st (fun _ => XS.dup X_38.here hx rfl (hb hby at_30) rfl rfl) ?_
    show Go p e below s _ _ _ T_38 (mkF m 31 #[.val (.int k), .val (.long q0), .second, .val (.long q1), .second, .val (.long q2), .second, .val (.long q3), .second, .val (.long q4), .second, .val (.int (1 : Int32)), .unset, .unset, .unset] [(.ref b_34), (.ref b_34)])
    refine Go.st (fun _ => XS.iconst X_38.here hx rfl (hb hby at_31)) ?_
    show Go p e below s _ _ _ T_38 (mkF m 32 #[.val (.int k), .val (.long q0), .second, .val (.long q1), .second, .val (.long q2), .second, .val (.long q3), .second, .val (.long q4), .second, .val (.int (1 : Int32)), .unset, .unset, .unset] [(.int (4 : Int32)), (.ref b_34), (.ref b_34)])
    refine Go.st (fun _ => XS.lload X_38.here hx rfl (hb hby at_32) rfl) ?_
    show Go p e below s _ _ _ T_38 (mkF m 34 #[.val (.int k), .val (.long q0), .second, .val (.long q1), .second, .val (.long q2), .second, .val (.long q3), .second, .val (.long q4), .second, .val (.int (1 : Int32)), .unset, .unset, .unset] [(.long q4), (.int (4 : Int32)), (.ref b_34), (.ref b_34)])
    obtain ⟨cl_39, Ar_39, q_39, S_39, M_39, H_39, G_39⟩ := id V_38
    have hin_39 : ¬ ((4 : Int32) < 0 ∨ cl_39.slots.size ≤ ((4 : Int32)).toNatClampNeg) := inb_of S_39 ⟨by decide, by decide⟩
    obtain ⟨T_39, h_39, X_39, e_39, W_39, st_39⟩ := stJ X_38 hx hZ e_38 Ar_39 (j := (4 : Int32)) hin_39 (g := (mkF m 34 #[.val (.int k), .val (.long q0), .second, .val (.long q1), .second, .val (.long q2), .second, .val (.long q3), .second, .val (.long q4), .second, .val (.int (1 : Int32)), .unset, .unset, .unset] [(.long q4), (.int (4 : Int32)), (.ref b_34), (.ref b_34)])) rfl rfl (hb hby at_34)
    refine Go.st st_39 ?_
    have V_39 : Arv Z h_39 b_34 kA_34 .long (5 : Int32) [(.long q0), (.long q1), (.long q2), (.long q3), (.long q4)] (.long (0 : Int64)) := Arv.set Ar_39 q_39 S_39 M_39 H_39 G_39 rfl W_39 4 rfl (Nat.le_of_ble_eq_true rfl)
    have N_39 := Fr.snoc X_39 N_38 gg_34
    have z_39 : n0 ≤ h_39.size := Nat.le_trans z_38 (Nat.le_of_eq W_39.size.symm)
    show Go p e below s _ _ _ T_39 (mkF m 35 #[.val (.int k), .val (.long q0), .second, .val (.long q1), .second, .val (.long q2), .second, .val (.long q3), .second, .val (.long q4), .second, .val (.int (1 : Int32)), .unset, .unset, .unset] [(.ref b_34)])
    refine Go.st (fun _ => XS.astore X_39.here hx rfl (hb hby at_35) rfl rfl (l' := #[.val (.int k), .val (.long q0), .second, .val (.long q1), .second, .val (.long q2), .second, .val (.long q3), .second, .val (.long q4), .second, .val (.int (1 : Int32)), .val (.ref b_34), .unset, .unset]) rfl) ?_
    show Go p e below s _ _ _ T_39 (mkF m 37 #[.val (.int k), .val (.long q0), .second, .val (.long q1), .second, .val (.long q2), .second, .val (.long q3), .second, .val (.long q4), .second, .val (.int (1 : Int32)), .val (.ref b_34), .unset, .unset] [])
    obtain ⟨T_40, h_40, X_40, e_40, E_40, A_40, D_40, -, st_40⟩ := newO X_39 hx hZ hown (hw _ (List.mem_of_getElem? (i := 2) rfl)) (hw _ (List.mem_of_getElem? (i := 3) rfl)) (hw _ (List.mem_of_getElem? (i := 4) rfl)) e_39 (g := (mkF m 37 #[.val (.int k), .val (.long q0), .second, .val (.long q1), .second, .val (.long q2), .second, .val (.long q3), .second, .val (.long q4), .second, .val (.int (1 : Int32)), .val (.ref b_34), .unset, .unset] [])) rfl (hb hby at_37) (by decide) (by decide)
    obtain ⟨b_40, g_40⟩ : ∃ z, z = h_39.size := ⟨_, rfl⟩
    rw [← g_40] at A_40 D_40 st_40
    refine Go.st st_40 ?_
    have ne_b_34_b_40 : b_34 ≠ b_40 := Nat.ne_of_lt (Nat.lt_of_lt_of_eq V_39.lt g_40.symm)
    have gg_40 : n0 ≤ b_40 := Nat.le_trans z_39 (Nat.le_of_eq g_40.symm)
    have z_40 : n0 ≤ h_40.size := Nat.le_trans z_39 E_40.1
    have F_nodes_b_40 : Fld Z h_40 b_40 "com/example/moat/moat/xpath/Handles" "nodes" "[J" .null := D_40 (Or.inl (hw _ (List.mem_of_getElem? (i := 12) rfl))) (ty := (.array .long)) (by decide)
    have F_size_b_40 : Fld Z h_40 b_40 "com/example/moat/moat/xpath/Handles" "size" "I" (.int (0 : Int32)) := D_40 (Or.inl (hw _ (List.mem_of_getElem? (i := 19) rfl))) (ty := .int) (by decide)
    show Go p e below s _ _ _ T_40 (mkF m 40 #[.val (.int k), .val (.long q0), .second, .val (.long q1), .second, .val (.long q2), .second, .val (.long q3), .second, .val (.long q4), .second, .val (.int (1 : Int32)), .val (.ref b_34), .unset, .unset] [(.ref b_40)])
    refine Go.st (fun _ => XS.dup X_40.here hx rfl (hb hby at_40) rfl rfl) ?_
    show Go p e below s _ _ _ T_40 (mkF m 41 #[.val (.int k), .val (.long q0), .second, .val (.long q1), .second, .val (.long q2), .second, .val (.long q3), .second, .val (.long q4), .second, .val (.int (1 : Int32)), .val (.ref b_34), .unset, .unset] [(.ref b_40), (.ref b_40)])
    obtain ⟨_, _, ⟨T_41, L_41, kc_41, nc_41⟩, -, X_41, ⟨Lc_41, hQ_41, l_41, y_41, z_41⟩, st_41⟩ := X_40.specialBack hx (y := (⟨"com/example/moat/moat/xpath/Handles", "<init>", "()V"⟩ : MethodName)) rfl hown (mvT hZ (hw _ (List.mem_of_getElem? (i := 5) rfl))) (mvT hZ (hw _ (List.mem_of_getElem? (i := 6) rfl))) (mvT hZ (hw _ (List.mem_of_getElem? (i := 7) rfl))) (by decide) (backOf (W := 1) (rm1 l Z a0 hw [] b_40 h_40 n0 z_40 A_40 F_nodes_b_40 F_size_b_40 gg_40) hZ (hw _ (List.mem_of_getElem? (i := 7) rfl)) (hw _ (List.mem_of_getElem? (i := 4) rfl)) (by decide) (by decide)) (g := (mkF m 41 #[.val (.int k), .val (.long q0), .second, .val (.long q1), .second, .val (.long q2), .second, .val (.long q3), .second, .val (.long q4), .second, .val (.int (1 : Int32)), .val (.ref b_34), .unset, .unset] [(.ref b_40), (.ref b_40)])) rfl (by rw [hml]; rfl) (Steps.refl _) (a := b_40) (argsL := []) (rest := [(.ref b_40)]) (lenOf pd_0 rfl) rfl (by show 2 * 0 + _ ≤ _; exact Nat.le_of_eq rfl) (hb hby at_41) (fun _ _ => ⟨rfl, e_40, (by decide : 2 + 1 ≤ _), (by decide : 7 + 8 ≤ _)⟩)
    dsimp only [Pt.U, Pt.locs, Pt.cells, Pt.slots] at X_41 l_41 y_41 z_41 st_41 hQ_41
    obtain rfl : kc_41 = 3 := y_41
    obtain rfl : nc_41 = 15 := z_41
    obtain ⟨h_41, e_41⟩ : ∃ hh, T_41.heap = hh := ⟨_, rfl⟩
    rw [e_41] at hQ_41
    obtain ⟨t__41, kt__41, rfl, N_41q, K_41, p_41_0, p_41_1, p_41_2, p_41_3, p_41_4, p_41_5⟩ := hQ_41
    have N_41 : Fr n0 L_41 := by rw [l_41]; exact Fr.app N_39 N_41q
    refine Go.st (fun _ kk => st_41.trans kk) ?_
    have f_42 := (V_39.ext E_40)
    have ne_b_34_t__41 : b_34 ≠ t__41 := Nat.ne_of_lt (Nat.lt_of_lt_of_le f_42.lt p_41_1)
    have ne_b_40_t__41 : b_40 ≠ t__41 := Nat.ne_of_lt (Nat.lt_of_lt_of_le A_40.lt p_41_1)
    have z_41q : n0 ≤ h_41.size := Nat.le_trans z_40 K_41.1
    show Go p e below s _ _ _ T_41 (mkF m 44 #[.val (.int k), .val (.long q0), .second, .val (.long q1), .second, .val (.long q2), .second, .val (.long q3), .second, .val (.long q4), .second, .val (.int (1 : Int32)), .val (.ref b_34), .unset, .unset] [(.ref b_40)])
    refine Go.st (fun _ => XS.astore X_41.here hx rfl (hb hby at_44) rfl rfl (l' := #[.val (.int k), .val (.long q0), .second, .val (.long q1), .second, .val (.long q2), .second, .val (.long q3), .second, .val (.long q4), .second, .val (.int (1 : Int32)), .val (.ref b_34), .val (.ref b_40), .unset]) rfl) ?_
    show Go p e below s _ _ _ T_41 (mkF m 46 #[.val (.int k), .val (.long q0), .second, .val (.long q1), .second, .val (.long q2), .second, .val (.long q3), .second, .val (.long q4), .second, .val (.int (1 : Int32)), .val (.ref b_34), .val (.ref b_40), .unset] [])
    refine Go.st (fun _ => XS.iload X_41.here hx rfl (hb hby at_46) rfl) ?_
    show Go p e below s _ _ _ T_41 (mkF m 48 #[.val (.int k), .val (.long q0), .second, .val (.long q1), .second, .val (.long q2), .second, .val (.long q3), .second, .val (.long q4), .second, .val (.int (1 : Int32)), .val (.ref b_34), .val (.ref b_40), .unset] [(.int (1 : Int32))])
    refine Go.st (fun _ => XS.ifNo X_41.here hx rfl (hb hby at_48) rfl ((if0 _ _).trans (tlt (by decide : (0 : Int32) < (1 : Int32))).2.2.2)) ?_
    show Go p e below s _ _ _ T_41 (mkF m 51 #[.val (.int k), .val (.long q0), .second, .val (.long q1), .second, .val (.long q2), .second, .val (.long q3), .second, .val (.long q4), .second, .val (.int (1 : Int32)), .val (.ref b_34), .val (.ref b_40), .unset] [])
    refine Go.st (fun _ => XS.aload X_41.here hx rfl (hb hby at_51) rfl rfl) ?_
    show Go p e below s _ _ _ T_41 (mkF m 53 #[.val (.int k), .val (.long q0), .second, .val (.long q1), .second, .val (.long q2), .second, .val (.long q3), .second, .val (.long q4), .second, .val (.int (1 : Int32)), .val (.ref b_34), .val (.ref b_40), .unset] [(.ref b_40)])
    refine Go.st (fun _ => XS.lloadN X_41.here hx rfl (hb hby at_53) rfl) ?_
    show Go p e below s _ _ _ T_41 (mkF m 54 #[.val (.int k), .val (.long q0), .second, .val (.long q1), .second, .val (.long q2), .second, .val (.long q3), .second, .val (.long q4), .second, .val (.int (1 : Int32)), .val (.ref b_34), .val (.ref b_40), .unset] [(.long q0), (.ref b_40)])
    obtain ⟨cq_43, kq_43, q_43a, q_43b, q_43c⟩ := isOf hZ e_41 p_41_2
    obtain ⟨_, _, ⟨T_43, L_43, kc_43, nc_43⟩, -, X_43, ⟨Lc_43, hQ_43, l_43, y_43, z_43⟩, st_43⟩ := X_41.virtualBack hx (y := (⟨"com/example/moat/moat/xpath/Handles", "add", "(J)V"⟩ : MethodName)) (z := (⟨"com/example/moat/moat/xpath/Handles", "add", "(J)V"⟩ : MethodName)) hown (mvT hZ (hw _ (List.mem_of_getElem? (i := 34) rfl))) (mvT hZ (hw _ (List.mem_of_getElem? (i := 35) rfl))) (notFace_of_selects (args := #[]) (mvT hZ (hw _ (List.mem_of_getElem? (i := 37) rfl)))) (mvT hZ (hw _ (List.mem_of_getElem? (i := 37) rfl))) (mvT hZ (hw _ (List.mem_of_getElem? (i := 36) rfl))) (by decide) (backOf (W := 0) (rm7 l Z a0 hw [] b_40 q0 t__41 kt__41 (0 : Int32) [(.long (0 : Int64)), (.long (0 : Int64)), (.long (0 : Int64)), (.long (0 : Int64)), (.long (0 : Int64)), (.long (0 : Int64)), (.long (0 : Int64)), (.long (0 : Int64))] (.long (0 : Int64)) h_41 n0 z_41q p_41_2 p_41_3 p_41_4 p_41_5 gg_40 p_41_0 ne_b_40_t__41 (by decide) (by decide) (show ((0 : Int32)).toNatClampNeg < 8 from by decide)) hZ (hw _ (List.mem_of_getElem? (i := 38) rfl)) (hw _ (List.mem_of_getElem? (i := 4) rfl)) (by decide) (by decide)) q_43a q_43c (g := (mkF m 54 #[.val (.int k), .val (.long q0), .second, .val (.long q1), .second, .val (.long q2), .second, .val (.long q3), .second, .val (.long q4), .second, .val (.int (1 : Int32)), .val (.ref b_34), .val (.ref b_40), .unset] [(.long q0), (.ref b_40)])) rfl (by rw [hml]; rfl) (Steps.refl _) (argsL := [(.long q0)]) (rest := []) (lenOf pd_4 rfl) rfl (by show 2 * 0 + _ ≤ _; exact Nat.le_of_eq rfl) (hb hby at_54) (fun _ _ => ⟨rfl, e_41, (by decide : 3 + 0 ≤ _), (by decide : 15 + 0 ≤ _)⟩)
    dsimp only [Pt.U, Pt.locs, Pt.cells, Pt.slots] at X_43 l_43 y_43 z_43 st_43 hQ_43
    obtain rfl : kc_43 = 3 := y_43
    obtain rfl : nc_43 = 15 := z_43
    obtain ⟨h_43, e_43⟩ : ∃ hh, T_43.heap = hh := ⟨_, rfl⟩
    rw [e_43] at hQ_43
    obtain ⟨rfl, N_43q, K_43, p_43_0, p_43_1, p_43_2, p_43_3⟩ := hQ_43
    have N_43 : Fr n0 L_43 := by rw [l_43]; exact Fr.app N_41 N_43q
    refine Go.st (fun _ kk => st_43.trans kk) ?_
    have z_43q : n0 ≤ h_43.size := Nat.le_trans z_41q K_43.1
    rw [show ((0 : Int32) + (1 : Int32)) = (1 : Int32) from by decide] at p_43_2
    have p_43_3' : Arv Z h_43 t__41 kt__41 .long (8 : Int32) [(.long q0), (.long (0 : Int64)), (.long (0 : Int64)), (.long (0 : Int64)), (.long (0 : Int64)), (.long (0 : Int64)), (.long (0 : Int64)), (.long (0 : Int64))] (.long (0 : Int64)) := p_43_3
    show Go p e below s _ _ _ T_43 (mkF m 57 #[.val (.int k), .val (.long q0), .second, .val (.long q1), .second, .val (.long q2), .second, .val (.long q3), .second, .val (.long q4), .second, .val (.int (1 : Int32)), .val (.ref b_34), .val (.ref b_40), .unset] [])
    refine Go.st (fun _ => XS.iload X_43.here hx rfl (hb hby at_57) rfl) ?_
    show Go p e below s _ _ _ T_43 (mkF m 59 #[.val (.int k), .val (.long q0), .second, .val (.long q1), .second, .val (.long q2), .second, .val (.long q3), .second, .val (.long q4), .second, .val (.int (1 : Int32)), .val (.ref b_34), .val (.ref b_40), .unset] [(.int (1 : Int32))])
    refine Go.st (fun _ => XS.iconst X_43.here hx rfl (hb hby at_59)) ?_
    show Go p e below s _ _ _ T_43 (mkF m 60 #[.val (.int k), .val (.long q0), .second, .val (.long q1), .second, .val (.long q2), .second, .val (.long q3), .second, .val (.long q4), .second, .val (.int (1 : Int32)), .val (.ref b_34), .val (.ref b_40), .unset] [(.int (1 : Int32)), (.int (1 : Int32))])
    refine Go.st (fun _ => XS.icmpYes X_43.here hx rfl (pc0 := 60) (pc' := 69) rfl (hb hby at_60) rfl (flt (by decide : ¬ ((1 : Int32) < (1 : Int32)))).2.2.2 (by decide) (by decide)) ?_
    show Go p e below s _ _ _ T_43 (mkF m 69 #[.val (.int k), .val (.long q0), .second, .val (.long q1), .second, .val (.long q2), .second, .val (.long q3), .second, .val (.long q4), .second, .val (.int (1 : Int32)), .val (.ref b_34), .val (.ref b_40), .unset] [])
    refine Go.st (fun _ => XS.iload X_43.here hx rfl (hb hby at_69) rfl) ?_
    show Go p e below s _ _ _ T_43 (mkF m 71 #[.val (.int k), .val (.long q0), .second, .val (.long q1), .second, .val (.long q2), .second, .val (.long q3), .second, .val (.long q4), .second, .val (.int (1 : Int32)), .val (.ref b_34), .val (.ref b_40), .unset] [(.int (1 : Int32))])
    refine Go.st (fun _ => XS.iconst X_43.here hx rfl (hb hby at_71)) ?_
    show Go p e below s _ _ _ T_43 (mkF m 72 #[.val (.int k), .val (.long q0), .second, .val (.long q1), .second, .val (.long q2), .second, .val (.long q3), .second, .val (.long q4), .second, .val (.int (1 : Int32)), .val (.ref b_34), .val (.ref b_40), .unset] [(.int (2 : Int32)), (.int (1 : Int32))])
    refine Go.st (fun _ => XS.icmpYes X_43.here hx rfl (pc0 := 72) (pc' := 82) rfl (hb hby at_72) rfl (flt (by decide : ¬ ((2 : Int32) < (1 : Int32)))).2.2.2 (by decide) (by decide)) ?_
    show Go p e below s _ _ _ T_43 (mkF m 82 #[.val (.int k), .val (.long q0), .second, .val (.long q1), .second, .val (.long q2), .second, .val (.long q3), .second, .val (.long q4), .second, .val (.int (1 : Int32)), .val (.ref b_34), .val (.ref b_40), .unset] [])
    refine Go.st (fun _ => XS.iload X_43.here hx rfl (hb hby at_82) rfl) ?_
    show Go p e below s _ _ _ T_43 (mkF m 84 #[.val (.int k), .val (.long q0), .second, .val (.long q1), .second, .val (.long q2), .second, .val (.long q3), .second, .val (.long q4), .second, .val (.int (1 : Int32)), .val (.ref b_34), .val (.ref b_40), .unset] [(.int (1 : Int32))])
    refine Go.st (fun _ => XS.iconst X_43.here hx rfl (hb hby at_84)) ?_
    show Go p e below s _ _ _ T_43 (mkF m 85 #[.val (.int k), .val (.long q0), .second, .val (.long q1), .second, .val (.long q2), .second, .val (.long q3), .second, .val (.long q4), .second, .val (.int (1 : Int32)), .val (.ref b_34), .val (.ref b_40), .unset] [(.int (3 : Int32)), (.int (1 : Int32))])
    refine Go.st (fun _ => XS.icmpYes X_43.here hx rfl (pc0 := 85) (pc' := 95) rfl (hb hby at_85) rfl (flt (by decide : ¬ ((3 : Int32) < (1 : Int32)))).2.2.2 (by decide) (by decide)) ?_
    show Go p e below s _ _ _ T_43 (mkF m 95 #[.val (.int k), .val (.long q0), .second, .val (.long q1), .second, .val (.long q2), .second, .val (.long q3), .second, .val (.long q4), .second, .val (.int (1 : Int32)), .val (.ref b_34), .val (.ref b_40), .unset] [])
    refine Go.st (fun _ => XS.iload X_43.here hx rfl (hb hby at_95) rfl) ?_
    show Go p e below s _ _ _ T_43 (mkF m 97 #[.val (.int k), .val (.long q0), .second, .val (.long q1), .second, .val (.long q2), .second, .val (.long q3), .second, .val (.long q4), .second, .val (.int (1 : Int32)), .val (.ref b_34), .val (.ref b_40), .unset] [(.int (1 : Int32))])
    refine Go.st (fun _ => XS.iconst X_43.here hx rfl (hb hby at_97)) ?_
    show Go p e below s _ _ _ T_43 (mkF m 98 #[.val (.int k), .val (.long q0), .second, .val (.long q1), .second, .val (.long q2), .second, .val (.long q3), .second, .val (.long q4), .second, .val (.int (1 : Int32)), .val (.ref b_34), .val (.ref b_40), .unset] [(.int (4 : Int32)), (.int (1 : Int32))])
    refine Go.st (fun _ => XS.icmpYes X_43.here hx rfl (pc0 := 98) (pc' := 108) rfl (hb hby at_98) rfl (flt (by decide : ¬ ((4 : Int32) < (1 : Int32)))).2.2.2 (by decide) (by decide)) ?_
    show Go p e below s _ _ _ T_43 (mkF m 108 #[.val (.int k), .val (.long q0), .second, .val (.long q1), .second, .val (.long q2), .second, .val (.long q3), .second, .val (.long q4), .second, .val (.int (1 : Int32)), .val (.ref b_34), .val (.ref b_40), .unset] [])
    refine Go.st (fun _ => XS.aload X_43.here hx rfl (hb hby at_108) rfl rfl) ?_
    show Go p e below s _ _ _ T_43 (mkF m 110 #[.val (.int k), .val (.long q0), .second, .val (.long q1), .second, .val (.long q2), .second, .val (.long q3), .second, .val (.long q4), .second, .val (.int (1 : Int32)), .val (.ref b_34), .val (.ref b_40), .unset] [(.ref b_40)])
    obtain ⟨cq_44, kq_44, q_44a, q_44b, q_44c⟩ := isOf hZ e_43 p_43_0
    obtain ⟨_, _, ⟨T_44, L_44, kc_44, nc_44⟩, -, X_44, ⟨Lc_44, hQ_44, l_44, y_44, z_44⟩, st_44⟩ := X_43.virtualBack hx (y := (⟨"com/example/moat/moat/xpath/Handles", "reverse", "()V"⟩ : MethodName)) (z := (⟨"com/example/moat/moat/xpath/Handles", "reverse", "()V"⟩ : MethodName)) hown (mvT hZ (hw _ (List.mem_of_getElem? (i := 13) rfl))) (mvT hZ (hw _ (List.mem_of_getElem? (i := 14) rfl))) (notFace_of_selects (args := #[]) (mvT hZ (hw _ (List.mem_of_getElem? (i := 16) rfl)))) (mvT hZ (hw _ (List.mem_of_getElem? (i := 16) rfl))) (mvT hZ (hw _ (List.mem_of_getElem? (i := 15) rfl))) (by decide) (backOf (W := 0) (rmR1 l Z a0 hw [] b_40 t__41 kt__41 q0 (0 : Int64) (0 : Int64) (0 : Int64) (0 : Int64) (0 : Int64) (0 : Int64) (0 : Int64) h_43 n0 z_43q p_43_1 p_43_2 p_43_3' p_41_0 ne_b_40_t__41) hZ (hw _ (List.mem_of_getElem? (i := 17) rfl)) (hw _ (List.mem_of_getElem? (i := 4) rfl)) (by decide) (by decide)) q_44a q_44c (g := (mkF m 110 #[.val (.int k), .val (.long q0), .second, .val (.long q1), .second, .val (.long q2), .second, .val (.long q3), .second, .val (.long q4), .second, .val (.int (1 : Int32)), .val (.ref b_34), .val (.ref b_40), .unset] [(.ref b_40)])) rfl (by rw [hml]; rfl) (Steps.refl _) (argsL := []) (rest := []) (lenOf pd_0 rfl) rfl (by show 2 * 0 + _ ≤ _; exact Nat.le_of_eq rfl) (hb hby at_110) (fun _ _ => ⟨rfl, e_43, (by decide : 3 + 0 ≤ _), (by decide : 15 + 0 ≤ _)⟩)
    dsimp only [Pt.U, Pt.locs, Pt.cells, Pt.slots] at X_44 l_44 y_44 z_44 st_44 hQ_44
    obtain rfl : kc_44 = 3 := y_44
    obtain rfl : nc_44 = 15 := z_44
    obtain ⟨h_44, e_44⟩ : ∃ hh, T_44.heap = hh := ⟨_, rfl⟩
    rw [e_44] at hQ_44
    obtain ⟨rfl, N_44q, K_44, p_44_0⟩ := hQ_44
    have N_44 : Fr n0 L_44 := by rw [l_44]; exact Fr.app N_43 N_44q
    refine Go.st (fun _ kk => st_44.trans kk) ?_
    have z_44q : n0 ≤ h_44.size := Nat.le_trans z_43q K_44.1
    show Go p e below s _ _ _ T_44 (mkF m 113 #[.val (.int k), .val (.long q0), .second, .val (.long q1), .second, .val (.long q2), .second, .val (.long q3), .second, .val (.long q4), .second, .val (.int (1 : Int32)), .val (.ref b_34), .val (.ref b_40), .unset] [])
    refine Go.st (fun _ => XS.aload X_44.here hx rfl (hb hby at_113) rfl rfl) ?_
    show Go p e below s _ _ _ T_44 (mkF m 115 #[.val (.int k), .val (.long q0), .second, .val (.long q1), .second, .val (.long q2), .second, .val (.long q3), .second, .val (.long q4), .second, .val (.int (1 : Int32)), .val (.ref b_34), .val (.ref b_40), .unset] [(.ref b_40)])
    have f_46 := (p_43_2.keep K_44 (ninS ne_b_40_t__41 nin0))
    have f_47 := (p_43_0.keep K_44)
    obtain ⟨cq_45, kq_45, q_45a, q_45b, q_45c⟩ := isOf hZ e_44 f_47
    obtain ⟨_, _, ⟨T_45, L_45, kc_45, nc_45⟩, -, X_45, ⟨Lc_45, hQ_45, l_45, y_45, z_45⟩, st_45⟩ := X_44.virtualBack hx (y := (⟨"com/example/moat/moat/xpath/Handles", "size", "()I"⟩ : MethodName)) (z := (⟨"com/example/moat/moat/xpath/Handles", "size", "()I"⟩ : MethodName)) hown (mvT hZ (hw _ (List.mem_of_getElem? (i := 20) rfl))) (mvT hZ (hw _ (List.mem_of_getElem? (i := 21) rfl))) (notFace_of_selects (args := #[]) (mvT hZ (hw _ (List.mem_of_getElem? (i := 23) rfl)))) (mvT hZ (hw _ (List.mem_of_getElem? (i := 23) rfl))) (mvT hZ (hw _ (List.mem_of_getElem? (i := 22) rfl))) (by decide) (backOf (W := 0) (rm4 l Z a0 hw [] b_40 (1 : Int32) h_44 n0 z_44q f_46) hZ (hw _ (List.mem_of_getElem? (i := 24) rfl)) (hw _ (List.mem_of_getElem? (i := 4) rfl)) (by decide) (by decide)) q_45a q_45c (g := (mkF m 115 #[.val (.int k), .val (.long q0), .second, .val (.long q1), .second, .val (.long q2), .second, .val (.long q3), .second, .val (.long q4), .second, .val (.int (1 : Int32)), .val (.ref b_34), .val (.ref b_40), .unset] [(.ref b_40)])) rfl (by rw [hml]; rfl) (Steps.refl _) (argsL := []) (rest := []) (lenOf pd_1 rfl) rfl (by show 2 * 0 + _ ≤ _; exact Nat.le_of_eq rfl) (hb hby at_115) (fun _ _ => ⟨rfl, e_44, (by decide : 3 + 0 ≤ _), (by decide : 15 + 0 ≤ _)⟩)
    dsimp only [Pt.U, Pt.locs, Pt.cells, Pt.slots] at X_45 l_45 y_45 z_45 st_45 hQ_45
    obtain rfl : kc_45 = 3 := y_45
    obtain rfl : nc_45 = 15 := z_45
    obtain ⟨h_45, e_45⟩ : ∃ hh, T_45.heap = hh := ⟨_, rfl⟩
    rw [e_45] at hQ_45
    obtain ⟨rfl, N_45q, sm_45⟩ := hQ_45
    have N_45 : Fr n0 L_45 := by rw [l_45]; exact Fr.app N_44 N_45q
    refine Go.st (fun _ kk => st_45.trans kk) ?_
    rw [sm_45] at e_45
    show Go p e below s _ _ _ T_45 (mkF m 118 #[.val (.int k), .val (.long q0), .second, .val (.long q1), .second, .val (.long q2), .second, .val (.long q3), .second, .val (.long q4), .second, .val (.int (1 : Int32)), .val (.ref b_34), .val (.ref b_40), .unset] [(.int (1 : Int32))])
    refine Go.st (fun _ => XS.iload X_45.here hx rfl (hb hby at_118) rfl) ?_
    show Go p e below s _ _ _ T_45 (mkF m 120 #[.val (.int k), .val (.long q0), .second, .val (.long q1), .second, .val (.long q2), .second, .val (.long q3), .second, .val (.long q4), .second, .val (.int (1 : Int32)), .val (.ref b_34), .val (.ref b_40), .unset] [(.int (1 : Int32)), (.int (1 : Int32))])
    refine Go.st (fun _ => XS.icmpYes X_45.here hx rfl (pc0 := 120) (pc' := 125) rfl (hb hby at_120) rfl (teq (by decide : (1 : Int32) = (1 : Int32))).1 (by decide) (by decide)) ?_
    show Go p e below s _ _ _ T_45 (mkF m 125 #[.val (.int k), .val (.long q0), .second, .val (.long q1), .second, .val (.long q2), .second, .val (.long q3), .second, .val (.long q4), .second, .val (.int (1 : Int32)), .val (.ref b_34), .val (.ref b_40), .unset] [])
    refine Go.st (fun _ => XS.aload X_45.here hx rfl (hb hby at_125) rfl rfl) ?_
    show Go p e below s _ _ _ T_45 (mkF m 127 #[.val (.int k), .val (.long q0), .second, .val (.long q1), .second, .val (.long q2), .second, .val (.long q3), .second, .val (.long q4), .second, .val (.int (1 : Int32)), .val (.ref b_34), .val (.ref b_40), .unset] [(.ref b_40)])
    have f_49 := (p_43_1.keep K_44 (ninS ne_b_40_t__41 nin0))
    obtain ⟨cq_48, kq_48, q_48a, q_48b, q_48c⟩ := isOf hZ e_45 f_47
    obtain ⟨_, _, ⟨T_48, L_48, kc_48, nc_48⟩, -, X_48, ⟨Lc_48, hQ_48, l_48, y_48, z_48⟩, st_48⟩ := X_45.virtualBack hx (y := (⟨"com/example/moat/moat/xpath/Handles", "array", "()[J"⟩ : MethodName)) (z := (⟨"com/example/moat/moat/xpath/Handles", "array", "()[J"⟩ : MethodName)) hown (mvT hZ (hw _ (List.mem_of_getElem? (i := 25) rfl))) (mvT hZ (hw _ (List.mem_of_getElem? (i := 26) rfl))) (notFace_of_selects (args := #[]) (mvT hZ (hw _ (List.mem_of_getElem? (i := 28) rfl)))) (mvT hZ (hw _ (List.mem_of_getElem? (i := 28) rfl))) (mvT hZ (hw _ (List.mem_of_getElem? (i := 27) rfl))) (by decide) (backOf (W := 0) (rm5 l Z a0 hw [] b_40 t__41 h_44 n0 z_44q f_49) hZ (hw _ (List.mem_of_getElem? (i := 29) rfl)) (hw _ (List.mem_of_getElem? (i := 4) rfl)) (by decide) (by decide)) q_48a q_48c (g := (mkF m 127 #[.val (.int k), .val (.long q0), .second, .val (.long q1), .second, .val (.long q2), .second, .val (.long q3), .second, .val (.long q4), .second, .val (.int (1 : Int32)), .val (.ref b_34), .val (.ref b_40), .unset] [(.ref b_40)])) rfl (by rw [hml]; rfl) (Steps.refl _) (argsL := []) (rest := []) (lenOf pd_2 rfl) rfl (by show 2 * 0 + _ ≤ _; exact Nat.le_of_eq rfl) (hb hby at_127) (fun _ _ => ⟨rfl, e_45, (by decide : 3 + 0 ≤ _), (by decide : 15 + 0 ≤ _)⟩)
    dsimp only [Pt.U, Pt.locs, Pt.cells, Pt.slots] at X_48 l_48 y_48 z_48 st_48 hQ_48
    obtain rfl : kc_48 = 3 := y_48
    obtain rfl : nc_48 = 15 := z_48
    obtain ⟨h_48, e_48⟩ : ∃ hh, T_48.heap = hh := ⟨_, rfl⟩
    rw [e_48] at hQ_48
    obtain ⟨rfl, N_48q, sm_48⟩ := hQ_48
    have N_48 : Fr n0 L_48 := by rw [l_48]; exact Fr.app N_45 N_48q
    refine Go.st (fun _ kk => st_48.trans kk) ?_
    rw [sm_48] at e_48
    show Go p e below s _ _ _ T_48 (mkF m 130 #[.val (.int k), .val (.long q0), .second, .val (.long q1), .second, .val (.long q2), .second, .val (.long q3), .second, .val (.long q4), .second, .val (.int (1 : Int32)), .val (.ref b_34), .val (.ref b_40), .unset] [(.ref t__41)])
    refine Go.st (fun _ => XS.astore X_48.here hx rfl (hb hby at_130) rfl rfl (l' := #[.val (.int k), .val (.long q0), .second, .val (.long q1), .second, .val (.long q2), .second, .val (.long q3), .second, .val (.long q4), .second, .val (.int (1 : Int32)), .val (.ref b_34), .val (.ref b_40), .val (.ref t__41)]) rfl) ?_
    show Go p e below s _ _ _ T_48 (mkF m 132 #[.val (.int k), .val (.long q0), .second, .val (.long q1), .second, .val (.long q2), .second, .val (.long q3), .second, .val (.long q4), .second, .val (.int (1 : Int32)), .val (.ref b_34), .val (.ref b_40), .val (.ref t__41)] [])
    refine Go.st (fun _ => XS.aload X_48.here hx rfl (hb hby at_132) rfl rfl) ?_
    show Go p e below s _ _ _ T_48 (mkF m 134 #[.val (.int k), .val (.long q0), .second, .val (.long q1), .second, .val (.long q2), .second, .val (.long q3), .second, .val (.long q4), .second, .val (.int (1 : Int32)), .val (.ref b_34), .val (.ref b_40), .val (.ref t__41)] [(.ref t__41)])
    obtain ⟨cl_50, Ar_50, q_50, S_50, M_50, H_50, G_50⟩ := id p_44_0
    refine Go.st (fun tG => X_48.arraylength hx (by rw [e_48]; exact Ar_50.1) (State.isArrayOf_alike hZ.alike Ar_50.2.1) (g := (mkF m 134 #[.val (.int k), .val (.long q0), .second, .val (.long q1), .second, .val (.long q2), .second, .val (.long q3), .second, .val (.long q4), .second, .val (.int (1 : Int32)), .val (.ref b_34), .val (.ref b_40), .val (.ref t__41)] [(.ref t__41)])) rfl rfl (hb hby at_134) tG) ?_
    rw [len_of S_50 M_50]
    show Go p e below s _ _ _ T_48 (mkF m 135 #[.val (.int k), .val (.long q0), .second, .val (.long q1), .second, .val (.long q2), .second, .val (.long q3), .second, .val (.long q4), .second, .val (.int (1 : Int32)), .val (.ref b_34), .val (.ref b_40), .val (.ref t__41)] [(.int (8 : Int32))])
    refine Go.st (fun _ => XS.bipush X_48.here hx rfl (hb hby at_135)) ?_
    show Go p e below s _ _ _ T_48 (mkF m 137 #[.val (.int k), .val (.long q0), .second, .val (.long q1), .second, .val (.long q2), .second, .val (.long q3), .second, .val (.long q4), .second, .val (.int (1 : Int32)), .val (.ref b_34), .val (.ref b_40), .val (.ref t__41)] [(.int (8 : Int32)), (.int (8 : Int32))])
    refine Go.st (fun _ => XS.icmpYes X_48.here hx rfl (pc0 := 137) (pc' := 142) rfl (hb hby at_137) rfl (teq (by decide : (8 : Int32) = (8 : Int32))).1 (by decide) (by decide)) ?_
    show Go p e below s _ _ _ T_48 (mkF m 142 #[.val (.int k), .val (.long q0), .second, .val (.long q1), .second, .val (.long q2), .second, .val (.long q3), .second, .val (.long q4), .second, .val (.int (1 : Int32)), .val (.ref b_34), .val (.ref b_40), .val (.ref t__41)] [])
    refine Go.st (fun _ => XS.aload X_48.here hx rfl (hb hby at_142) rfl rfl) ?_
    show Go p e below s _ _ _ T_48 (mkF m 144 #[.val (.int k), .val (.long q0), .second, .val (.long q1), .second, .val (.long q2), .second, .val (.long q3), .second, .val (.long q4), .second, .val (.int (1 : Int32)), .val (.ref b_34), .val (.ref b_40), .val (.ref t__41)] [(.ref t__41)])
    refine Go.st (fun _ => XS.iconst X_48.here hx rfl (hb hby at_144)) ?_
    show Go p e below s _ _ _ T_48 (mkF m 145 #[.val (.int k), .val (.long q0), .second, .val (.long q1), .second, .val (.long q2), .second, .val (.long q3), .second, .val (.long q4), .second, .val (.int (1 : Int32)), .val (.ref b_34), .val (.ref b_40), .val (.ref t__41)] [(.int (0 : Int32)), (.ref t__41)])
    obtain ⟨cl_51, Ar_51, q_51, S_51, M_51, H_51, G_51⟩ := id p_44_0
    have hin_51 : ¬ ((0 : Int32) < 0 ∨ cl_51.slots.size ≤ ((0 : Int32)).toNatClampNeg) := inb_of S_51 ⟨by decide, by decide⟩
    have hat_51 : cl_51.slots[((0 : Int32)).toNatClampNeg]? = some (.long q0) := H_51.at hin_51 rfl
    refine Go.st (fun tG => X_48.laload hx (j := (0 : Int32)) (v := (.long q0)) (by rw [e_48]; exact Ar_51.1) (State.isArrayOf_alike hZ.alike Ar_51.2.1) Ar_51.2.2 hin_51 hat_51 (g := (mkF m 145 #[.val (.int k), .val (.long q0), .second, .val (.long q1), .second, .val (.long q2), .second, .val (.long q3), .second, .val (.long q4), .second, .val (.int (1 : Int32)), .val (.ref b_34), .val (.ref b_40), .val (.ref t__41)] [(.int (0 : Int32)), (.ref t__41)])) rfl rfl (hb hby at_145) tG) ?_
    show Go p e below s _ _ _ T_48 (mkF m 146 #[.val (.int k), .val (.long q0), .second, .val (.long q1), .second, .val (.long q2), .second, .val (.long q3), .second, .val (.long q4), .second, .val (.int (1 : Int32)), .val (.ref b_34), .val (.ref b_40), .val (.ref t__41)] [(.long q0)])
    refine Go.st (fun _ => XS.aload X_48.here hx rfl (hb hby at_146) rfl rfl) ?_
    show Go p e below s _ _ _ T_48 (mkF m 148 #[.val (.int k), .val (.long q0), .second, .val (.long q1), .second, .val (.long q2), .second, .val (.long q3), .second, .val (.long q4), .second, .val (.int (1 : Int32)), .val (.ref b_34), .val (.ref b_40), .val (.ref t__41)] [(.ref b_34), (.long q0)])
    refine Go.st (fun _ => XS.iload X_48.here hx rfl (hb hby at_148) rfl) ?_
    show Go p e below s _ _ _ T_48 (mkF m 150 #[.val (.int k), .val (.long q0), .second, .val (.long q1), .second, .val (.long q2), .second, .val (.long q3), .second, .val (.long q4), .second, .val (.int (1 : Int32)), .val (.ref b_34), .val (.ref b_40), .val (.ref t__41)] [(.int (1 : Int32)), (.ref b_34), (.long q0)])
    refine Go.st (fun _ => XS.iconst X_48.here hx rfl (hb hby at_150)) ?_
    show Go p e below s _ _ _ T_48 (mkF m 151 #[.val (.int k), .val (.long q0), .second, .val (.long q1), .second, .val (.long q2), .second, .val (.long q3), .second, .val (.long q4), .second, .val (.int (1 : Int32)), .val (.ref b_34), .val (.ref b_40), .val (.ref t__41)] [(.int (0 : Int32)), (.int (1 : Int32)), (.ref b_34), (.long q0)])
    have f_53 := (((f_42.keep K_41 (ninS ne_b_34_b_40 nin0)).keep K_43 (ninS ne_b_34_b_40 (ninS ne_b_34_t__41 nin0))).keep K_44 (ninS ne_b_34_t__41 nin0))
    obtain ⟨_, _, ⟨T_52, L_52, kc_52, nc_52⟩, -, X_52, ⟨Lc_52, hQ_52, l_52, y_52, z_52⟩, st_52⟩ := Jvm.LawKit.callS X_48 hx (y := (⟨"com/example/moat/moat/xpath/HandlesReversePinLaw", "exp", "([JII)J"⟩ : MethodName)) hown (mvT hZ (hw _ (List.mem_of_getElem? (i := 30) rfl))) (mvT hZ (hw _ (List.mem_of_getElem? (i := 31) rfl))) (mvT hZ (hw _ (List.mem_of_getElem? (i := 32) rfl))) (mvT hZ (hw _ (List.mem_of_getElem? (i := 33) rfl))) (by decide) (backOf (W := 2) (rmXa l Z a0 hw [] b_34 (1 : Int32) (0 : Int32) kA_34 (5 : Int32) [(.long q0), (.long q1), (.long q2), (.long q3), (.long q4)] (.long (0 : Int64)) q0 h_44 n0 z_44q f_53 (by decide) (by decide) rfl) hZ (hw _ (List.mem_of_getElem? (i := 33) rfl)) (hw _ (List.mem_of_getElem? (i := 32) rfl)) (by decide) (by decide)) (g := (mkF m 151 #[.val (.int k), .val (.long q0), .second, .val (.long q1), .second, .val (.long q2), .second, .val (.long q3), .second, .val (.long q4), .second, .val (.int (1 : Int32)), .val (.ref b_34), .val (.ref b_40), .val (.ref t__41)] [(.int (0 : Int32)), (.int (1 : Int32)), (.ref b_34), (.long q0)])) rfl (by rw [hml]; rfl) (argsL := [(.ref b_34), (.int (1 : Int32)), (.int (0 : Int32))]) (rest := [(.long q0)]) (lenOf pd_3 rfl) rfl (by show 2 * 0 + _ ≤ _; exact Nat.le_of_eq rfl) (hb hby at_151) (fun _ _ => ⟨rfl, e_48, (by decide : 3 + 0 ≤ _), (by decide : 15 + 0 ≤ _)⟩)
    dsimp only [Pt.U, Pt.locs, Pt.cells, Pt.slots] at X_52 l_52 y_52 z_52 st_52 hQ_52
    obtain rfl : kc_52 = 3 := y_52
    obtain rfl : nc_52 = 15 := z_52
    obtain ⟨h_52, e_52⟩ : ∃ hh, T_52.heap = hh := ⟨_, rfl⟩
    rw [e_52] at hQ_52
    obtain ⟨rfl, N_52q, sm_52⟩ := hQ_52
    have N_52 : Fr n0 L_52 := by rw [l_52]; exact Fr.app N_48 N_52q
    refine Go.st st_52 ?_
    rw [sm_52] at e_52
    show Go p e below s _ _ _ T_52 (mkF m 154 #[.val (.int k), .val (.long q0), .second, .val (.long q1), .second, .val (.long q2), .second, .val (.long q3), .second, .val (.long q4), .second, .val (.int (1 : Int32)), .val (.ref b_34), .val (.ref b_40), .val (.ref t__41)] [(.long q0), (.long q0)])
    refine Go.st (fun _ => XS.lcmp X_52.here hx rfl (hb hby at_154) rfl) ?_
    show Go p e below s _ _ _ T_52 (mkF m 155 #[.val (.int k), .val (.long q0), .second, .val (.long q1), .second, .val (.long q2), .second, .val (.long q3), .second, .val (.long q4), .second, .val (.int (1 : Int32)), .val (.ref b_34), .val (.ref b_40), .val (.ref t__41)] [(.int (lcmpW q0 q0))])
    refine Go.st (fun _ => XS.ifNo X_52.here hx rfl (hb hby at_155) rfl ((if0 _ _).trans (teq ((lw_eq q0 q0).mpr (rfl : q0 = q0))).2)) ?_
    show Go p e below s _ _ _ T_52 (mkF m 158 #[.val (.int k), .val (.long q0), .second, .val (.long q1), .second, .val (.long q2), .second, .val (.long q3), .second, .val (.long q4), .second, .val (.int (1 : Int32)), .val (.ref b_34), .val (.ref b_40), .val (.ref t__41)] [])
    refine Go.st (fun _ => XS.aload X_52.here hx rfl (hb hby at_158) rfl rfl) ?_
    show Go p e below s _ _ _ T_52 (mkF m 160 #[.val (.int k), .val (.long q0), .second, .val (.long q1), .second, .val (.long q2), .second, .val (.long q3), .second, .val (.long q4), .second, .val (.int (1 : Int32)), .val (.ref b_34), .val (.ref b_40), .val (.ref t__41)] [(.ref t__41)])
    refine Go.st (fun _ => XS.iconst X_52.here hx rfl (hb hby at_160)) ?_
    show Go p e below s _ _ _ T_52 (mkF m 161 #[.val (.int k), .val (.long q0), .second, .val (.long q1), .second, .val (.long q2), .second, .val (.long q3), .second, .val (.long q4), .second, .val (.int (1 : Int32)), .val (.ref b_34), .val (.ref b_40), .val (.ref t__41)] [(.int (1 : Int32)), (.ref t__41)])
    obtain ⟨cl_54, Ar_54, q_54, S_54, M_54, H_54, G_54⟩ := id p_44_0
    have hin_54 : ¬ ((1 : Int32) < 0 ∨ cl_54.slots.size ≤ ((1 : Int32)).toNatClampNeg) := inb_of S_54 ⟨by decide, by decide⟩
    have hat_54 : cl_54.slots[((1 : Int32)).toNatClampNeg]? = some (.long (0 : Int64)) := H_54.at hin_54 rfl
    refine Go.st (fun tG => X_52.laload hx (j := (1 : Int32)) (v := (.long (0 : Int64))) (by rw [e_52]; exact Ar_54.1) (State.isArrayOf_alike hZ.alike Ar_54.2.1) Ar_54.2.2 hin_54 hat_54 (g := (mkF m 161 #[.val (.int k), .val (.long q0), .second, .val (.long q1), .second, .val (.long q2), .second, .val (.long q3), .second, .val (.long q4), .second, .val (.int (1 : Int32)), .val (.ref b_34), .val (.ref b_40), .val (.ref t__41)] [(.int (1 : Int32)), (.ref t__41)])) rfl rfl (hb hby at_161) tG) ?_
    show Go p e below s _ _ _ T_52 (mkF m 162 #[.val (.int k), .val (.long q0), .second, .val (.long q1), .second, .val (.long q2), .second, .val (.long q3), .second, .val (.long q4), .second, .val (.int (1 : Int32)), .val (.ref b_34), .val (.ref b_40), .val (.ref t__41)] [(.long (0 : Int64))])
    refine Go.st (fun _ => XS.aload X_52.here hx rfl (hb hby at_162) rfl rfl) ?_
    show Go p e below s _ _ _ T_52 (mkF m 164 #[.val (.int k), .val (.long q0), .second, .val (.long q1), .second, .val (.long q2), .second, .val (.long q3), .second, .val (.long q4), .second, .val (.int (1 : Int32)), .val (.ref b_34), .val (.ref b_40), .val (.ref t__41)] [(.ref b_34), (.long (0 : Int64))])
    refine Go.st (fun _ => XS.iload X_52.here hx rfl (hb hby at_164) rfl) ?_
    show Go p e below s _ _ _ T_52 (mkF m 166 #[.val (.int k), .val (.long q0), .second, .val (.long q1), .second, .val (.long q2), .second, .val (.long q3), .second, .val (.long q4), .second, .val (.int (1 : Int32)), .val (.ref b_34), .val (.ref b_40), .val (.ref t__41)] [(.int (1 : Int32)), (.ref b_34), (.long (0 : Int64))])
    refine Go.st (fun _ => XS.iconst X_52.here hx rfl (hb hby at_166)) ?_
    show Go p e below s _ _ _ T_52 (mkF m 167 #[.val (.int k), .val (.long q0), .second, .val (.long q1), .second, .val (.long q2), .second, .val (.long q3), .second, .val (.long q4), .second, .val (.int (1 : Int32)), .val (.ref b_34), .val (.ref b_40), .val (.ref t__41)] [(.int (1 : Int32)), (.int (1 : Int32)), (.ref b_34), (.long (0 : Int64))])
    obtain ⟨_, _, ⟨T_55, L_55, kc_55, nc_55⟩, -, X_55, ⟨Lc_55, hQ_55, l_55, y_55, z_55⟩, st_55⟩ := Jvm.LawKit.callS X_52 hx (y := (⟨"com/example/moat/moat/xpath/HandlesReversePinLaw", "exp", "([JII)J"⟩ : MethodName)) hown (mvT hZ (hw _ (List.mem_of_getElem? (i := 30) rfl))) (mvT hZ (hw _ (List.mem_of_getElem? (i := 31) rfl))) (mvT hZ (hw _ (List.mem_of_getElem? (i := 32) rfl))) (mvT hZ (hw _ (List.mem_of_getElem? (i := 33) rfl))) (by decide) (backOf (W := 2) (rmXb l Z a0 hw [] b_34 (1 : Int32) (1 : Int32) h_44 n0 z_44q (by decide)) hZ (hw _ (List.mem_of_getElem? (i := 33) rfl)) (hw _ (List.mem_of_getElem? (i := 32) rfl)) (by decide) (by decide)) (g := (mkF m 167 #[.val (.int k), .val (.long q0), .second, .val (.long q1), .second, .val (.long q2), .second, .val (.long q3), .second, .val (.long q4), .second, .val (.int (1 : Int32)), .val (.ref b_34), .val (.ref b_40), .val (.ref t__41)] [(.int (1 : Int32)), (.int (1 : Int32)), (.ref b_34), (.long (0 : Int64))])) rfl (by rw [hml]; rfl) (argsL := [(.ref b_34), (.int (1 : Int32)), (.int (1 : Int32))]) (rest := [(.long (0 : Int64))]) (lenOf pd_3 rfl) rfl (by show 2 * 0 + _ ≤ _; exact Nat.le_of_eq rfl) (hb hby at_167) (fun _ _ => ⟨rfl, e_52, (by decide : 3 + 0 ≤ _), (by decide : 15 + 0 ≤ _)⟩)
    dsimp only [Pt.U, Pt.locs, Pt.cells, Pt.slots] at X_55 l_55 y_55 z_55 st_55 hQ_55
    obtain rfl : kc_55 = 3 := y_55
    obtain rfl : nc_55 = 15 := z_55
    obtain ⟨h_55, e_55⟩ : ∃ hh, T_55.heap = hh := ⟨_, rfl⟩
    rw [e_55] at hQ_55
    obtain ⟨rfl, N_55q, sm_55⟩ := hQ_55
    have N_55 : Fr n0 L_55 := by rw [l_55]; exact Fr.app N_52 N_55q
    refine Go.st st_55 ?_
    rw [sm_55] at e_55
    show Go p e below s _ _ _ T_55 (mkF m 170 #[.val (.int k), .val (.long q0), .second, .val (.long q1), .second, .val (.long q2), .second, .val (.long q3), .second, .val (.long q4), .second, .val (.int (1 : Int32)), .val (.ref b_34), .val (.ref b_40), .val (.ref t__41)] [(.long (0 : Int64)), (.long (0 : Int64))])
    refine Go.st (fun _ => XS.lcmp X_55.here hx rfl (hb hby at_170) rfl) ?_
    show Go p e below s _ _ _ T_55 (mkF m 171 #[.val (.int k), .val (.long q0), .second, .val (.long q1), .second, .val (.long q2), .second, .val (.long q3), .second, .val (.long q4), .second, .val (.int (1 : Int32)), .val (.ref b_34), .val (.ref b_40), .val (.ref t__41)] [(.int (lcmpW (0 : Int64) (0 : Int64)))])
    refine Go.st (fun _ => XS.ifNo X_55.here hx rfl (hb hby at_171) rfl ((if0 _ _).trans (teq ((lw_eq (0 : Int64) (0 : Int64)).mpr (by decide : (0 : Int64) = (0 : Int64)))).2)) ?_
    show Go p e below s _ _ _ T_55 (mkF m 174 #[.val (.int k), .val (.long q0), .second, .val (.long q1), .second, .val (.long q2), .second, .val (.long q3), .second, .val (.long q4), .second, .val (.int (1 : Int32)), .val (.ref b_34), .val (.ref b_40), .val (.ref t__41)] [])
    refine Go.st (fun _ => XS.aload X_55.here hx rfl (hb hby at_174) rfl rfl) ?_
    show Go p e below s _ _ _ T_55 (mkF m 176 #[.val (.int k), .val (.long q0), .second, .val (.long q1), .second, .val (.long q2), .second, .val (.long q3), .second, .val (.long q4), .second, .val (.int (1 : Int32)), .val (.ref b_34), .val (.ref b_40), .val (.ref t__41)] [(.ref t__41)])
    refine Go.st (fun _ => XS.iconst X_55.here hx rfl (hb hby at_176)) ?_
    show Go p e below s _ _ _ T_55 (mkF m 177 #[.val (.int k), .val (.long q0), .second, .val (.long q1), .second, .val (.long q2), .second, .val (.long q3), .second, .val (.long q4), .second, .val (.int (1 : Int32)), .val (.ref b_34), .val (.ref b_40), .val (.ref t__41)] [(.int (2 : Int32)), (.ref t__41)])
    obtain ⟨cl_56, Ar_56, q_56, S_56, M_56, H_56, G_56⟩ := id p_44_0
    have hin_56 : ¬ ((2 : Int32) < 0 ∨ cl_56.slots.size ≤ ((2 : Int32)).toNatClampNeg) := inb_of S_56 ⟨by decide, by decide⟩
    have hat_56 : cl_56.slots[((2 : Int32)).toNatClampNeg]? = some (.long (0 : Int64)) := H_56.at hin_56 rfl
    refine Go.st (fun tG => X_55.laload hx (j := (2 : Int32)) (v := (.long (0 : Int64))) (by rw [e_55]; exact Ar_56.1) (State.isArrayOf_alike hZ.alike Ar_56.2.1) Ar_56.2.2 hin_56 hat_56 (g := (mkF m 177 #[.val (.int k), .val (.long q0), .second, .val (.long q1), .second, .val (.long q2), .second, .val (.long q3), .second, .val (.long q4), .second, .val (.int (1 : Int32)), .val (.ref b_34), .val (.ref b_40), .val (.ref t__41)] [(.int (2 : Int32)), (.ref t__41)])) rfl rfl (hb hby at_177) tG) ?_
    show Go p e below s _ _ _ T_55 (mkF m 178 #[.val (.int k), .val (.long q0), .second, .val (.long q1), .second, .val (.long q2), .second, .val (.long q3), .second, .val (.long q4), .second, .val (.int (1 : Int32)), .val (.ref b_34), .val (.ref b_40), .val (.ref t__41)] [(.long (0 : Int64))])
    refine Go.st (fun _ => XS.aload X_55.here hx rfl (hb hby at_178) rfl rfl) ?_
    show Go p e below s _ _ _ T_55 (mkF m 180 #[.val (.int k), .val (.long q0), .second, .val (.long q1), .second, .val (.long q2), .second, .val (.long q3), .second, .val (.long q4), .second, .val (.int (1 : Int32)), .val (.ref b_34), .val (.ref b_40), .val (.ref t__41)] [(.ref b_34), (.long (0 : Int64))])
    refine Go.st (fun _ => XS.iload X_55.here hx rfl (hb hby at_180) rfl) ?_
    show Go p e below s _ _ _ T_55 (mkF m 182 #[.val (.int k), .val (.long q0), .second, .val (.long q1), .second, .val (.long q2), .second, .val (.long q3), .second, .val (.long q4), .second, .val (.int (1 : Int32)), .val (.ref b_34), .val (.ref b_40), .val (.ref t__41)] [(.int (1 : Int32)), (.ref b_34), (.long (0 : Int64))])
    refine Go.st (fun _ => XS.iconst X_55.here hx rfl (hb hby at_182)) ?_
    show Go p e below s _ _ _ T_55 (mkF m 183 #[.val (.int k), .val (.long q0), .second, .val (.long q1), .second, .val (.long q2), .second, .val (.long q3), .second, .val (.long q4), .second, .val (.int (1 : Int32)), .val (.ref b_34), .val (.ref b_40), .val (.ref t__41)] [(.int (2 : Int32)), (.int (1 : Int32)), (.ref b_34), (.long (0 : Int64))])
    obtain ⟨_, _, ⟨T_57, L_57, kc_57, nc_57⟩, -, X_57, ⟨Lc_57, hQ_57, l_57, y_57, z_57⟩, st_57⟩ := Jvm.LawKit.callS X_55 hx (y := (⟨"com/example/moat/moat/xpath/HandlesReversePinLaw", "exp", "([JII)J"⟩ : MethodName)) hown (mvT hZ (hw _ (List.mem_of_getElem? (i := 30) rfl))) (mvT hZ (hw _ (List.mem_of_getElem? (i := 31) rfl))) (mvT hZ (hw _ (List.mem_of_getElem? (i := 32) rfl))) (mvT hZ (hw _ (List.mem_of_getElem? (i := 33) rfl))) (by decide) (backOf (W := 2) (rmXb l Z a0 hw [] b_34 (1 : Int32) (2 : Int32) h_44 n0 z_44q (by decide)) hZ (hw _ (List.mem_of_getElem? (i := 33) rfl)) (hw _ (List.mem_of_getElem? (i := 32) rfl)) (by decide) (by decide)) (g := (mkF m 183 #[.val (.int k), .val (.long q0), .second, .val (.long q1), .second, .val (.long q2), .second, .val (.long q3), .second, .val (.long q4), .second, .val (.int (1 : Int32)), .val (.ref b_34), .val (.ref b_40), .val (.ref t__41)] [(.int (2 : Int32)), (.int (1 : Int32)), (.ref b_34), (.long (0 : Int64))])) rfl (by rw [hml]; rfl) (argsL := [(.ref b_34), (.int (1 : Int32)), (.int (2 : Int32))]) (rest := [(.long (0 : Int64))]) (lenOf pd_3 rfl) rfl (by show 2 * 0 + _ ≤ _; exact Nat.le_of_eq rfl) (hb hby at_183) (fun _ _ => ⟨rfl, e_55, (by decide : 3 + 0 ≤ _), (by decide : 15 + 0 ≤ _)⟩)
    dsimp only [Pt.U, Pt.locs, Pt.cells, Pt.slots] at X_57 l_57 y_57 z_57 st_57 hQ_57
    obtain rfl : kc_57 = 3 := y_57
    obtain rfl : nc_57 = 15 := z_57
    obtain ⟨h_57, e_57⟩ : ∃ hh, T_57.heap = hh := ⟨_, rfl⟩
    rw [e_57] at hQ_57
    obtain ⟨rfl, N_57q, sm_57⟩ := hQ_57
    have N_57 : Fr n0 L_57 := by rw [l_57]; exact Fr.app N_55 N_57q
    refine Go.st st_57 ?_
    rw [sm_57] at e_57
    show Go p e below s _ _ _ T_57 (mkF m 186 #[.val (.int k), .val (.long q0), .second, .val (.long q1), .second, .val (.long q2), .second, .val (.long q3), .second, .val (.long q4), .second, .val (.int (1 : Int32)), .val (.ref b_34), .val (.ref b_40), .val (.ref t__41)] [(.long (0 : Int64)), (.long (0 : Int64))])
    refine Go.st (fun _ => XS.lcmp X_57.here hx rfl (hb hby at_186) rfl) ?_
    show Go p e below s _ _ _ T_57 (mkF m 187 #[.val (.int k), .val (.long q0), .second, .val (.long q1), .second, .val (.long q2), .second, .val (.long q3), .second, .val (.long q4), .second, .val (.int (1 : Int32)), .val (.ref b_34), .val (.ref b_40), .val (.ref t__41)] [(.int (lcmpW (0 : Int64) (0 : Int64)))])
    refine Go.st (fun _ => XS.ifNo X_57.here hx rfl (hb hby at_187) rfl ((if0 _ _).trans (teq ((lw_eq (0 : Int64) (0 : Int64)).mpr (by decide : (0 : Int64) = (0 : Int64)))).2)) ?_
    show Go p e below s _ _ _ T_57 (mkF m 190 #[.val (.int k), .val (.long q0), .second, .val (.long q1), .second, .val (.long q2), .second, .val (.long q3), .second, .val (.long q4), .second, .val (.int (1 : Int32)), .val (.ref b_34), .val (.ref b_40), .val (.ref t__41)] [])
    refine Go.st (fun _ => XS.aload X_57.here hx rfl (hb hby at_190) rfl rfl) ?_
    show Go p e below s _ _ _ T_57 (mkF m 192 #[.val (.int k), .val (.long q0), .second, .val (.long q1), .second, .val (.long q2), .second, .val (.long q3), .second, .val (.long q4), .second, .val (.int (1 : Int32)), .val (.ref b_34), .val (.ref b_40), .val (.ref t__41)] [(.ref t__41)])
    refine Go.st (fun _ => XS.iconst X_57.here hx rfl (hb hby at_192)) ?_
    show Go p e below s _ _ _ T_57 (mkF m 193 #[.val (.int k), .val (.long q0), .second, .val (.long q1), .second, .val (.long q2), .second, .val (.long q3), .second, .val (.long q4), .second, .val (.int (1 : Int32)), .val (.ref b_34), .val (.ref b_40), .val (.ref t__41)] [(.int (3 : Int32)), (.ref t__41)])
    obtain ⟨cl_58, Ar_58, q_58, S_58, M_58, H_58, G_58⟩ := id p_44_0
    have hin_58 : ¬ ((3 : Int32) < 0 ∨ cl_58.slots.size ≤ ((3 : Int32)).toNatClampNeg) := inb_of S_58 ⟨by decide, by decide⟩
    have hat_58 : cl_58.slots[((3 : Int32)).toNatClampNeg]? = some (.long (0 : Int64)) := H_58.at hin_58 rfl
    refine Go.st (fun tG => X_57.laload hx (j := (3 : Int32)) (v := (.long (0 : Int64))) (by rw [e_57]; exact Ar_58.1) (State.isArrayOf_alike hZ.alike Ar_58.2.1) Ar_58.2.2 hin_58 hat_58 (g := (mkF m 193 #[.val (.int k), .val (.long q0), .second, .val (.long q1), .second, .val (.long q2), .second, .val (.long q3), .second, .val (.long q4), .second, .val (.int (1 : Int32)), .val (.ref b_34), .val (.ref b_40), .val (.ref t__41)] [(.int (3 : Int32)), (.ref t__41)])) rfl rfl (hb hby at_193) tG) ?_
    show Go p e below s _ _ _ T_57 (mkF m 194 #[.val (.int k), .val (.long q0), .second, .val (.long q1), .second, .val (.long q2), .second, .val (.long q3), .second, .val (.long q4), .second, .val (.int (1 : Int32)), .val (.ref b_34), .val (.ref b_40), .val (.ref t__41)] [(.long (0 : Int64))])
    refine Go.st (fun _ => XS.aload X_57.here hx rfl (hb hby at_194) rfl rfl) ?_
    show Go p e below s _ _ _ T_57 (mkF m 196 #[.val (.int k), .val (.long q0), .second, .val (.long q1), .second, .val (.long q2), .second, .val (.long q3), .second, .val (.long q4), .second, .val (.int (1 : Int32)), .val (.ref b_34), .val (.ref b_40), .val (.ref t__41)] [(.ref b_34), (.long (0 : Int64))])
    refine Go.st (fun _ => XS.iload X_57.here hx rfl (hb hby at_196) rfl) ?_
    show Go p e below s _ _ _ T_57 (mkF m 198 #[.val (.int k), .val (.long q0), .second, .val (.long q1), .second, .val (.long q2), .second, .val (.long q3), .second, .val (.long q4), .second, .val (.int (1 : Int32)), .val (.ref b_34), .val (.ref b_40), .val (.ref t__41)] [(.int (1 : Int32)), (.ref b_34), (.long (0 : Int64))])
    refine Go.st (fun _ => XS.iconst X_57.here hx rfl (hb hby at_198)) ?_
    show Go p e below s _ _ _ T_57 (mkF m 199 #[.val (.int k), .val (.long q0), .second, .val (.long q1), .second, .val (.long q2), .second, .val (.long q3), .second, .val (.long q4), .second, .val (.int (1 : Int32)), .val (.ref b_34), .val (.ref b_40), .val (.ref t__41)] [(.int (3 : Int32)), (.int (1 : Int32)), (.ref b_34), (.long (0 : Int64))])
    obtain ⟨_, _, ⟨T_59, L_59, kc_59, nc_59⟩, -, X_59, ⟨Lc_59, hQ_59, l_59, y_59, z_59⟩, st_59⟩ := Jvm.LawKit.callS X_57 hx (y := (⟨"com/example/moat/moat/xpath/HandlesReversePinLaw", "exp", "([JII)J"⟩ : MethodName)) hown (mvT hZ (hw _ (List.mem_of_getElem? (i := 30) rfl))) (mvT hZ (hw _ (List.mem_of_getElem? (i := 31) rfl))) (mvT hZ (hw _ (List.mem_of_getElem? (i := 32) rfl))) (mvT hZ (hw _ (List.mem_of_getElem? (i := 33) rfl))) (by decide) (backOf (W := 2) (rmXb l Z a0 hw [] b_34 (1 : Int32) (3 : Int32) h_44 n0 z_44q (by decide)) hZ (hw _ (List.mem_of_getElem? (i := 33) rfl)) (hw _ (List.mem_of_getElem? (i := 32) rfl)) (by decide) (by decide)) (g := (mkF m 199 #[.val (.int k), .val (.long q0), .second, .val (.long q1), .second, .val (.long q2), .second, .val (.long q3), .second, .val (.long q4), .second, .val (.int (1 : Int32)), .val (.ref b_34), .val (.ref b_40), .val (.ref t__41)] [(.int (3 : Int32)), (.int (1 : Int32)), (.ref b_34), (.long (0 : Int64))])) rfl (by rw [hml]; rfl) (argsL := [(.ref b_34), (.int (1 : Int32)), (.int (3 : Int32))]) (rest := [(.long (0 : Int64))]) (lenOf pd_3 rfl) rfl (by show 2 * 0 + _ ≤ _; exact Nat.le_of_eq rfl) (hb hby at_199) (fun _ _ => ⟨rfl, e_57, (by decide : 3 + 0 ≤ _), (by decide : 15 + 0 ≤ _)⟩)
    dsimp only [Pt.U, Pt.locs, Pt.cells, Pt.slots] at X_59 l_59 y_59 z_59 st_59 hQ_59
    obtain rfl : kc_59 = 3 := y_59
    obtain rfl : nc_59 = 15 := z_59
    obtain ⟨h_59, e_59⟩ : ∃ hh, T_59.heap = hh := ⟨_, rfl⟩
    rw [e_59] at hQ_59
    obtain ⟨rfl, N_59q, sm_59⟩ := hQ_59
    have N_59 : Fr n0 L_59 := by rw [l_59]; exact Fr.app N_57 N_59q
    refine Go.st st_59 ?_
    rw [sm_59] at e_59
    show Go p e below s _ _ _ T_59 (mkF m 202 #[.val (.int k), .val (.long q0), .second, .val (.long q1), .second, .val (.long q2), .second, .val (.long q3), .second, .val (.long q4), .second, .val (.int (1 : Int32)), .val (.ref b_34), .val (.ref b_40), .val (.ref t__41)] [(.long (0 : Int64)), (.long (0 : Int64))])
    refine Go.st (fun _ => XS.lcmp X_59.here hx rfl (hb hby at_202) rfl) ?_
    show Go p e below s _ _ _ T_59 (mkF m 203 #[.val (.int k), .val (.long q0), .second, .val (.long q1), .second, .val (.long q2), .second, .val (.long q3), .second, .val (.long q4), .second, .val (.int (1 : Int32)), .val (.ref b_34), .val (.ref b_40), .val (.ref t__41)] [(.int (lcmpW (0 : Int64) (0 : Int64)))])
    refine Go.st (fun _ => XS.ifNo X_59.here hx rfl (hb hby at_203) rfl ((if0 _ _).trans (teq ((lw_eq (0 : Int64) (0 : Int64)).mpr (by decide : (0 : Int64) = (0 : Int64)))).2)) ?_
    show Go p e below s _ _ _ T_59 (mkF m 206 #[.val (.int k), .val (.long q0), .second, .val (.long q1), .second, .val (.long q2), .second, .val (.long q3), .second, .val (.long q4), .second, .val (.int (1 : Int32)), .val (.ref b_34), .val (.ref b_40), .val (.ref t__41)] [])
    refine Go.st (fun _ => XS.aload X_59.here hx rfl (hb hby at_206) rfl rfl) ?_
    show Go p e below s _ _ _ T_59 (mkF m 208 #[.val (.int k), .val (.long q0), .second, .val (.long q1), .second, .val (.long q2), .second, .val (.long q3), .second, .val (.long q4), .second, .val (.int (1 : Int32)), .val (.ref b_34), .val (.ref b_40), .val (.ref t__41)] [(.ref t__41)])
    refine Go.st (fun _ => XS.iconst X_59.here hx rfl (hb hby at_208)) ?_
    show Go p e below s _ _ _ T_59 (mkF m 209 #[.val (.int k), .val (.long q0), .second, .val (.long q1), .second, .val (.long q2), .second, .val (.long q3), .second, .val (.long q4), .second, .val (.int (1 : Int32)), .val (.ref b_34), .val (.ref b_40), .val (.ref t__41)] [(.int (4 : Int32)), (.ref t__41)])
    obtain ⟨cl_60, Ar_60, q_60, S_60, M_60, H_60, G_60⟩ := id p_44_0
    have hin_60 : ¬ ((4 : Int32) < 0 ∨ cl_60.slots.size ≤ ((4 : Int32)).toNatClampNeg) := inb_of S_60 ⟨by decide, by decide⟩
    have hat_60 : cl_60.slots[((4 : Int32)).toNatClampNeg]? = some (.long (0 : Int64)) := H_60.at hin_60 rfl
    refine Go.st (fun tG => X_59.laload hx (j := (4 : Int32)) (v := (.long (0 : Int64))) (by rw [e_59]; exact Ar_60.1) (State.isArrayOf_alike hZ.alike Ar_60.2.1) Ar_60.2.2 hin_60 hat_60 (g := (mkF m 209 #[.val (.int k), .val (.long q0), .second, .val (.long q1), .second, .val (.long q2), .second, .val (.long q3), .second, .val (.long q4), .second, .val (.int (1 : Int32)), .val (.ref b_34), .val (.ref b_40), .val (.ref t__41)] [(.int (4 : Int32)), (.ref t__41)])) rfl rfl (hb hby at_209) tG) ?_
    show Go p e below s _ _ _ T_59 (mkF m 210 #[.val (.int k), .val (.long q0), .second, .val (.long q1), .second, .val (.long q2), .second, .val (.long q3), .second, .val (.long q4), .second, .val (.int (1 : Int32)), .val (.ref b_34), .val (.ref b_40), .val (.ref t__41)] [(.long (0 : Int64))])
    refine Go.st (fun _ => XS.aload X_59.here hx rfl (hb hby at_210) rfl rfl) ?_
    show Go p e below s _ _ _ T_59 (mkF m 212 #[.val (.int k), .val (.long q0), .second, .val (.long q1), .second, .val (.long q2), .second, .val (.long q3), .second, .val (.long q4), .second, .val (.int (1 : Int32)), .val (.ref b_34), .val (.ref b_40), .val (.ref t__41)] [(.ref b_34), (.long (0 : Int64))])
    refine Go.st (fun _ => XS.iload X_59.here hx rfl (hb hby at_212) rfl) ?_
    show Go p e below s _ _ _ T_59 (mkF m 214 #[.val (.int k), .val (.long q0), .second, .val (.long q1), .second, .val (.long q2), .second, .val (.long q3), .second, .val (.long q4), .second, .val (.int (1 : Int32)), .val (.ref b_34), .val (.ref b_40), .val (.ref t__41)] [(.int (1 : Int32)), (.ref b_34), (.long (0 : Int64))])
    refine Go.st (fun _ => XS.iconst X_59.here hx rfl (hb hby at_214)) ?_
    show Go p e below s _ _ _ T_59 (mkF m 215 #[.val (.int k), .val (.long q0), .second, .val (.long q1), .second, .val (.long q2), .second, .val (.long q3), .second, .val (.long q4), .second, .val (.int (1 : Int32)), .val (.ref b_34), .val (.ref b_40), .val (.ref t__41)] [(.int (4 : Int32)), (.int (1 : Int32)), (.ref b_34), (.long (0 : Int64))])
    obtain ⟨_, _, ⟨T_61, L_61, kc_61, nc_61⟩, -, X_61, ⟨Lc_61, hQ_61, l_61, y_61, z_61⟩, st_61⟩ := Jvm.LawKit.callS X_59 hx (y := (⟨"com/example/moat/moat/xpath/HandlesReversePinLaw", "exp", "([JII)J"⟩ : MethodName)) hown (mvT hZ (hw _ (List.mem_of_getElem? (i := 30) rfl))) (mvT hZ (hw _ (List.mem_of_getElem? (i := 31) rfl))) (mvT hZ (hw _ (List.mem_of_getElem? (i := 32) rfl))) (mvT hZ (hw _ (List.mem_of_getElem? (i := 33) rfl))) (by decide) (backOf (W := 2) (rmXb l Z a0 hw [] b_34 (1 : Int32) (4 : Int32) h_44 n0 z_44q (by decide)) hZ (hw _ (List.mem_of_getElem? (i := 33) rfl)) (hw _ (List.mem_of_getElem? (i := 32) rfl)) (by decide) (by decide)) (g := (mkF m 215 #[.val (.int k), .val (.long q0), .second, .val (.long q1), .second, .val (.long q2), .second, .val (.long q3), .second, .val (.long q4), .second, .val (.int (1 : Int32)), .val (.ref b_34), .val (.ref b_40), .val (.ref t__41)] [(.int (4 : Int32)), (.int (1 : Int32)), (.ref b_34), (.long (0 : Int64))])) rfl (by rw [hml]; rfl) (argsL := [(.ref b_34), (.int (1 : Int32)), (.int (4 : Int32))]) (rest := [(.long (0 : Int64))]) (lenOf pd_3 rfl) rfl (by show 2 * 0 + _ ≤ _; exact Nat.le_of_eq rfl) (hb hby at_215) (fun _ _ => ⟨rfl, e_59, (by decide : 3 + 0 ≤ _), (by decide : 15 + 0 ≤ _)⟩)
    dsimp only [Pt.U, Pt.locs, Pt.cells, Pt.slots] at X_61 l_61 y_61 z_61 st_61 hQ_61
    obtain rfl : kc_61 = 3 := y_61
    obtain rfl : nc_61 = 15 := z_61
    obtain ⟨h_61, e_61⟩ : ∃ hh, T_61.heap = hh := ⟨_, rfl⟩
    rw [e_61] at hQ_61
    obtain ⟨rfl, N_61q, sm_61⟩ := hQ_61
    have N_61 : Fr n0 L_61 := by rw [l_61]; exact Fr.app N_59 N_61q
    refine Go.st st_61 ?_
    rw [sm_61] at e_61
    show Go p e below s _ _ _ T_61 (mkF m 218 #[.val (.int k), .val (.long q0), .second, .val (.long q1), .second, .val (.long q2), .second, .val (.long q3), .second, .val (.long q4), .second, .val (.int (1 : Int32)), .val (.ref b_34), .val (.ref b_40), .val (.ref t__41)] [(.long (0 : Int64)), (.long (0 : Int64))])
    refine Go.st (fun _ => XS.lcmp X_61.here hx rfl (hb hby at_218) rfl) ?_
    show Go p e below s _ _ _ T_61 (mkF m 219 #[.val (.int k), .val (.long q0), .second, .val (.long q1), .second, .val (.long q2), .second, .val (.long q3), .second, .val (.long q4), .second, .val (.int (1 : Int32)), .val (.ref b_34), .val (.ref b_40), .val (.ref t__41)] [(.int (lcmpW (0 : Int64) (0 : Int64)))])
    refine Go.st (fun _ => XS.ifNo X_61.here hx rfl (hb hby at_219) rfl ((if0 _ _).trans (teq ((lw_eq (0 : Int64) (0 : Int64)).mpr (by decide : (0 : Int64) = (0 : Int64)))).2)) ?_
    show Go p e below s _ _ _ T_61 (mkF m 222 #[.val (.int k), .val (.long q0), .second, .val (.long q1), .second, .val (.long q2), .second, .val (.long q3), .second, .val (.long q4), .second, .val (.int (1 : Int32)), .val (.ref b_34), .val (.ref b_40), .val (.ref t__41)] [])
    refine Go.st (fun _ => XS.aload X_61.here hx rfl (hb hby at_222) rfl rfl) ?_
    show Go p e below s _ _ _ T_61 (mkF m 224 #[.val (.int k), .val (.long q0), .second, .val (.long q1), .second, .val (.long q2), .second, .val (.long q3), .second, .val (.long q4), .second, .val (.int (1 : Int32)), .val (.ref b_34), .val (.ref b_40), .val (.ref t__41)] [(.ref t__41)])
    refine Go.st (fun _ => XS.iconst X_61.here hx rfl (hb hby at_224)) ?_
    show Go p e below s _ _ _ T_61 (mkF m 225 #[.val (.int k), .val (.long q0), .second, .val (.long q1), .second, .val (.long q2), .second, .val (.long q3), .second, .val (.long q4), .second, .val (.int (1 : Int32)), .val (.ref b_34), .val (.ref b_40), .val (.ref t__41)] [(.int (5 : Int32)), (.ref t__41)])
    obtain ⟨cl_62, Ar_62, q_62, S_62, M_62, H_62, G_62⟩ := id p_44_0
    have hin_62 : ¬ ((5 : Int32) < 0 ∨ cl_62.slots.size ≤ ((5 : Int32)).toNatClampNeg) := inb_of S_62 ⟨by decide, by decide⟩
    have hat_62 : cl_62.slots[((5 : Int32)).toNatClampNeg]? = some (.long (0 : Int64)) := H_62.at hin_62 rfl
    refine Go.st (fun tG => X_61.laload hx (j := (5 : Int32)) (v := (.long (0 : Int64))) (by rw [e_61]; exact Ar_62.1) (State.isArrayOf_alike hZ.alike Ar_62.2.1) Ar_62.2.2 hin_62 hat_62 (g := (mkF m 225 #[.val (.int k), .val (.long q0), .second, .val (.long q1), .second, .val (.long q2), .second, .val (.long q3), .second, .val (.long q4), .second, .val (.int (1 : Int32)), .val (.ref b_34), .val (.ref b_40), .val (.ref t__41)] [(.int (5 : Int32)), (.ref t__41)])) rfl rfl (hb hby at_225) tG) ?_
    show Go p e below s _ _ _ T_61 (mkF m 226 #[.val (.int k), .val (.long q0), .second, .val (.long q1), .second, .val (.long q2), .second, .val (.long q3), .second, .val (.long q4), .second, .val (.int (1 : Int32)), .val (.ref b_34), .val (.ref b_40), .val (.ref t__41)] [(.long (0 : Int64))])
    refine Go.st (fun _ => XS.aload X_61.here hx rfl (hb hby at_226) rfl rfl) ?_
    show Go p e below s _ _ _ T_61 (mkF m 228 #[.val (.int k), .val (.long q0), .second, .val (.long q1), .second, .val (.long q2), .second, .val (.long q3), .second, .val (.long q4), .second, .val (.int (1 : Int32)), .val (.ref b_34), .val (.ref b_40), .val (.ref t__41)] [(.ref b_34), (.long (0 : Int64))])
    refine Go.st (fun _ => XS.iload X_61.here hx rfl (hb hby at_228) rfl) ?_
    show Go p e below s _ _ _ T_61 (mkF m 230 #[.val (.int k), .val (.long q0), .second, .val (.long q1), .second, .val (.long q2), .second, .val (.long q3), .second, .val (.long q4), .second, .val (.int (1 : Int32)), .val (.ref b_34), .val (.ref b_40), .val (.ref t__41)] [(.int (1 : Int32)), (.ref b_34), (.long (0 : Int64))])
    refine Go.st (fun _ => XS.iconst X_61.here hx rfl (hb hby at_230)) ?_
    show Go p e below s _ _ _ T_61 (mkF m 231 #[.val (.int k), .val (.long q0), .second, .val (.long q1), .second, .val (.long q2), .second, .val (.long q3), .second, .val (.long q4), .second, .val (.int (1 : Int32)), .val (.ref b_34), .val (.ref b_40), .val (.ref t__41)] [(.int (5 : Int32)), (.int (1 : Int32)), (.ref b_34), (.long (0 : Int64))])
    obtain ⟨_, _, ⟨T_63, L_63, kc_63, nc_63⟩, -, X_63, ⟨Lc_63, hQ_63, l_63, y_63, z_63⟩, st_63⟩ := Jvm.LawKit.callS X_61 hx (y := (⟨"com/example/moat/moat/xpath/HandlesReversePinLaw", "exp", "([JII)J"⟩ : MethodName)) hown (mvT hZ (hw _ (List.mem_of_getElem? (i := 30) rfl))) (mvT hZ (hw _ (List.mem_of_getElem? (i := 31) rfl))) (mvT hZ (hw _ (List.mem_of_getElem? (i := 32) rfl))) (mvT hZ (hw _ (List.mem_of_getElem? (i := 33) rfl))) (by decide) (backOf (W := 2) (rmXb l Z a0 hw [] b_34 (1 : Int32) (5 : Int32) h_44 n0 z_44q (by decide)) hZ (hw _ (List.mem_of_getElem? (i := 33) rfl)) (hw _ (List.mem_of_getElem? (i := 32) rfl)) (by decide) (by decide)) (g := (mkF m 231 #[.val (.int k), .val (.long q0), .second, .val (.long q1), .second, .val (.long q2), .second, .val (.long q3), .second, .val (.long q4), .second, .val (.int (1 : Int32)), .val (.ref b_34), .val (.ref b_40), .val (.ref t__41)] [(.int (5 : Int32)), (.int (1 : Int32)), (.ref b_34), (.long (0 : Int64))])) rfl (by rw [hml]; rfl) (argsL := [(.ref b_34), (.int (1 : Int32)), (.int (5 : Int32))]) (rest := [(.long (0 : Int64))]) (lenOf pd_3 rfl) rfl (by show 2 * 0 + _ ≤ _; exact Nat.le_of_eq rfl) (hb hby at_231) (fun _ _ => ⟨rfl, e_61, (by decide : 3 + 0 ≤ _), (by decide : 15 + 0 ≤ _)⟩)
    dsimp only [Pt.U, Pt.locs, Pt.cells, Pt.slots] at X_63 l_63 y_63 z_63 st_63 hQ_63
    obtain rfl : kc_63 = 3 := y_63
    obtain rfl : nc_63 = 15 := z_63
    obtain ⟨h_63, e_63⟩ : ∃ hh, T_63.heap = hh := ⟨_, rfl⟩
    rw [e_63] at hQ_63
    obtain ⟨rfl, N_63q, sm_63⟩ := hQ_63
    have N_63 : Fr n0 L_63 := by rw [l_63]; exact Fr.app N_61 N_63q
    refine Go.st st_63 ?_
    rw [sm_63] at e_63
    show Go p e below s _ _ _ T_63 (mkF m 234 #[.val (.int k), .val (.long q0), .second, .val (.long q1), .second, .val (.long q2), .second, .val (.long q3), .second, .val (.long q4), .second, .val (.int (1 : Int32)), .val (.ref b_34), .val (.ref b_40), .val (.ref t__41)] [(.long (0 : Int64)), (.long (0 : Int64))])
    refine Go.st (fun _ => XS.lcmp X_63.here hx rfl (hb hby at_234) rfl) ?_
    show Go p e below s _ _ _ T_63 (mkF m 235 #[.val (.int k), .val (.long q0), .second, .val (.long q1), .second, .val (.long q2), .second, .val (.long q3), .second, .val (.long q4), .second, .val (.int (1 : Int32)), .val (.ref b_34), .val (.ref b_40), .val (.ref t__41)] [(.int (lcmpW (0 : Int64) (0 : Int64)))])
    refine Go.st (fun _ => XS.ifNo X_63.here hx rfl (hb hby at_235) rfl ((if0 _ _).trans (teq ((lw_eq (0 : Int64) (0 : Int64)).mpr (by decide : (0 : Int64) = (0 : Int64)))).2)) ?_
    show Go p e below s _ _ _ T_63 (mkF m 238 #[.val (.int k), .val (.long q0), .second, .val (.long q1), .second, .val (.long q2), .second, .val (.long q3), .second, .val (.long q4), .second, .val (.int (1 : Int32)), .val (.ref b_34), .val (.ref b_40), .val (.ref t__41)] [])
    refine Go.st (fun _ => XS.aload X_63.here hx rfl (hb hby at_238) rfl rfl) ?_
    show Go p e below s _ _ _ T_63 (mkF m 240 #[.val (.int k), .val (.long q0), .second, .val (.long q1), .second, .val (.long q2), .second, .val (.long q3), .second, .val (.long q4), .second, .val (.int (1 : Int32)), .val (.ref b_34), .val (.ref b_40), .val (.ref t__41)] [(.ref t__41)])
    refine Go.st (fun _ => XS.bipush X_63.here hx rfl (hb hby at_240)) ?_
    show Go p e below s _ _ _ T_63 (mkF m 242 #[.val (.int k), .val (.long q0), .second, .val (.long q1), .second, .val (.long q2), .second, .val (.long q3), .second, .val (.long q4), .second, .val (.int (1 : Int32)), .val (.ref b_34), .val (.ref b_40), .val (.ref t__41)] [(.int (6 : Int32)), (.ref t__41)])
    obtain ⟨cl_64, Ar_64, q_64, S_64, M_64, H_64, G_64⟩ := id p_44_0
    have hin_64 : ¬ ((6 : Int32) < 0 ∨ cl_64.slots.size ≤ ((6 : Int32)).toNatClampNeg) := inb_of S_64 ⟨by decide, by decide⟩
    have hat_64 : cl_64.slots[((6 : Int32)).toNatClampNeg]? = some (.long (0 : Int64)) := H_64.at hin_64 rfl
    refine Go.st (fun tG => X_63.laload hx (j := (6 : Int32)) (v := (.long (0 : Int64))) (by rw [e_63]; exact Ar_64.1) (State.isArrayOf_alike hZ.alike Ar_64.2.1) Ar_64.2.2 hin_64 hat_64 (g := (mkF m 242 #[.val (.int k), .val (.long q0), .second, .val (.long q1), .second, .val (.long q2), .second, .val (.long q3), .second, .val (.long q4), .second, .val (.int (1 : Int32)), .val (.ref b_34), .val (.ref b_40), .val (.ref t__41)] [(.int (6 : Int32)), (.ref t__41)])) rfl rfl (hb hby at_242) tG) ?_
    show Go p e below s _ _ _ T_63 (mkF m 243 #[.val (.int k), .val (.long q0), .second, .val (.long q1), .second, .val (.long q2), .second, .val (.long q3), .second, .val (.long q4), .second, .val (.int (1 : Int32)), .val (.ref b_34), .val (.ref b_40), .val (.ref t__41)] [(.long (0 : Int64))])
    refine Go.st (fun _ => XS.aload X_63.here hx rfl (hb hby at_243) rfl rfl) ?_
    show Go p e below s _ _ _ T_63 (mkF m 245 #[.val (.int k), .val (.long q0), .second, .val (.long q1), .second, .val (.long q2), .second, .val (.long q3), .second, .val (.long q4), .second, .val (.int (1 : Int32)), .val (.ref b_34), .val (.ref b_40), .val (.ref t__41)] [(.ref b_34), (.long (0 : Int64))])
    refine Go.st (fun _ => XS.iload X_63.here hx rfl (hb hby at_245) rfl) ?_
    show Go p e below s _ _ _ T_63 (mkF m 247 #[.val (.int k), .val (.long q0), .second, .val (.long q1), .second, .val (.long q2), .second, .val (.long q3), .second, .val (.long q4), .second, .val (.int (1 : Int32)), .val (.ref b_34), .val (.ref b_40), .val (.ref t__41)] [(.int (1 : Int32)), (.ref b_34), (.long (0 : Int64))])
    refine Go.st (fun _ => XS.bipush X_63.here hx rfl (hb hby at_247)) ?_
    show Go p e below s _ _ _ T_63 (mkF m 249 #[.val (.int k), .val (.long q0), .second, .val (.long q1), .second, .val (.long q2), .second, .val (.long q3), .second, .val (.long q4), .second, .val (.int (1 : Int32)), .val (.ref b_34), .val (.ref b_40), .val (.ref t__41)] [(.int (6 : Int32)), (.int (1 : Int32)), (.ref b_34), (.long (0 : Int64))])
    obtain ⟨_, _, ⟨T_65, L_65, kc_65, nc_65⟩, -, X_65, ⟨Lc_65, hQ_65, l_65, y_65, z_65⟩, st_65⟩ := Jvm.LawKit.callS X_63 hx (y := (⟨"com/example/moat/moat/xpath/HandlesReversePinLaw", "exp", "([JII)J"⟩ : MethodName)) hown (mvT hZ (hw _ (List.mem_of_getElem? (i := 30) rfl))) (mvT hZ (hw _ (List.mem_of_getElem? (i := 31) rfl))) (mvT hZ (hw _ (List.mem_of_getElem? (i := 32) rfl))) (mvT hZ (hw _ (List.mem_of_getElem? (i := 33) rfl))) (by decide) (backOf (W := 2) (rmXb l Z a0 hw [] b_34 (1 : Int32) (6 : Int32) h_44 n0 z_44q (by decide)) hZ (hw _ (List.mem_of_getElem? (i := 33) rfl)) (hw _ (List.mem_of_getElem? (i := 32) rfl)) (by decide) (by decide)) (g := (mkF m 249 #[.val (.int k), .val (.long q0), .second, .val (.long q1), .second, .val (.long q2), .second, .val (.long q3), .second, .val (.long q4), .second, .val (.int (1 : Int32)), .val (.ref b_34), .val (.ref b_40), .val (.ref t__41)] [(.int (6 : Int32)), (.int (1 : Int32)), (.ref b_34), (.long (0 : Int64))])) rfl (by rw [hml]; rfl) (argsL := [(.ref b_34), (.int (1 : Int32)), (.int (6 : Int32))]) (rest := [(.long (0 : Int64))]) (lenOf pd_3 rfl) rfl (by show 2 * 0 + _ ≤ _; exact Nat.le_of_eq rfl) (hb hby at_249) (fun _ _ => ⟨rfl, e_63, (by decide : 3 + 0 ≤ _), (by decide : 15 + 0 ≤ _)⟩)
    dsimp only [Pt.U, Pt.locs, Pt.cells, Pt.slots] at X_65 l_65 y_65 z_65 st_65 hQ_65
    obtain rfl : kc_65 = 3 := y_65
    obtain rfl : nc_65 = 15 := z_65
    obtain ⟨h_65, e_65⟩ : ∃ hh, T_65.heap = hh := ⟨_, rfl⟩
    rw [e_65] at hQ_65
    obtain ⟨rfl, N_65q, sm_65⟩ := hQ_65
    have N_65 : Fr n0 L_65 := by rw [l_65]; exact Fr.app N_63 N_65q
    refine Go.st st_65 ?_
    rw [sm_65] at e_65
    show Go p e below s _ _ _ T_65 (mkF m 252 #[.val (.int k), .val (.long q0), .second, .val (.long q1), .second, .val (.long q2), .second, .val (.long q3), .second, .val (.long q4), .second, .val (.int (1 : Int32)), .val (.ref b_34), .val (.ref b_40), .val (.ref t__41)] [(.long (0 : Int64)), (.long (0 : Int64))])
    refine Go.st (fun _ => XS.lcmp X_65.here hx rfl (hb hby at_252) rfl) ?_
    show Go p e below s _ _ _ T_65 (mkF m 253 #[.val (.int k), .val (.long q0), .second, .val (.long q1), .second, .val (.long q2), .second, .val (.long q3), .second, .val (.long q4), .second, .val (.int (1 : Int32)), .val (.ref b_34), .val (.ref b_40), .val (.ref t__41)] [(.int (lcmpW (0 : Int64) (0 : Int64)))])
    refine Go.st (fun _ => XS.ifNo X_65.here hx rfl (hb hby at_253) rfl ((if0 _ _).trans (teq ((lw_eq (0 : Int64) (0 : Int64)).mpr (by decide : (0 : Int64) = (0 : Int64)))).2)) ?_
    show Go p e below s _ _ _ T_65 (mkF m 256 #[.val (.int k), .val (.long q0), .second, .val (.long q1), .second, .val (.long q2), .second, .val (.long q3), .second, .val (.long q4), .second, .val (.int (1 : Int32)), .val (.ref b_34), .val (.ref b_40), .val (.ref t__41)] [])
    refine Go.st (fun _ => XS.aload X_65.here hx rfl (hb hby at_256) rfl rfl) ?_
    show Go p e below s _ _ _ T_65 (mkF m 258 #[.val (.int k), .val (.long q0), .second, .val (.long q1), .second, .val (.long q2), .second, .val (.long q3), .second, .val (.long q4), .second, .val (.int (1 : Int32)), .val (.ref b_34), .val (.ref b_40), .val (.ref t__41)] [(.ref t__41)])
    refine Go.st (fun _ => XS.bipush X_65.here hx rfl (hb hby at_258)) ?_
    show Go p e below s _ _ _ T_65 (mkF m 260 #[.val (.int k), .val (.long q0), .second, .val (.long q1), .second, .val (.long q2), .second, .val (.long q3), .second, .val (.long q4), .second, .val (.int (1 : Int32)), .val (.ref b_34), .val (.ref b_40), .val (.ref t__41)] [(.int (7 : Int32)), (.ref t__41)])
    obtain ⟨cl_66, Ar_66, q_66, S_66, M_66, H_66, G_66⟩ := id p_44_0
    have hin_66 : ¬ ((7 : Int32) < 0 ∨ cl_66.slots.size ≤ ((7 : Int32)).toNatClampNeg) := inb_of S_66 ⟨by decide, by decide⟩
    have hat_66 : cl_66.slots[((7 : Int32)).toNatClampNeg]? = some (.long (0 : Int64)) := H_66.at hin_66 rfl
    refine Go.st (fun tG => X_65.laload hx (j := (7 : Int32)) (v := (.long (0 : Int64))) (by rw [e_65]; exact Ar_66.1) (State.isArrayOf_alike hZ.alike Ar_66.2.1) Ar_66.2.2 hin_66 hat_66 (g := (mkF m 260 #[.val (.int k), .val (.long q0), .second, .val (.long q1), .second, .val (.long q2), .second, .val (.long q3), .second, .val (.long q4), .second, .val (.int (1 : Int32)), .val (.ref b_34), .val (.ref b_40), .val (.ref t__41)] [(.int (7 : Int32)), (.ref t__41)])) rfl rfl (hb hby at_260) tG) ?_
    show Go p e below s _ _ _ T_65 (mkF m 261 #[.val (.int k), .val (.long q0), .second, .val (.long q1), .second, .val (.long q2), .second, .val (.long q3), .second, .val (.long q4), .second, .val (.int (1 : Int32)), .val (.ref b_34), .val (.ref b_40), .val (.ref t__41)] [(.long (0 : Int64))])
    refine Go.st (fun _ => XS.aload X_65.here hx rfl (hb hby at_261) rfl rfl) ?_
    show Go p e below s _ _ _ T_65 (mkF m 263 #[.val (.int k), .val (.long q0), .second, .val (.long q1), .second, .val (.long q2), .second, .val (.long q3), .second, .val (.long q4), .second, .val (.int (1 : Int32)), .val (.ref b_34), .val (.ref b_40), .val (.ref t__41)] [(.ref b_34), (.long (0 : Int64))])
    refine Go.st (fun _ => XS.iload X_65.here hx rfl (hb hby at_263) rfl) ?_
    show Go p e below s _ _ _ T_65 (mkF m 265 #[.val (.int k), .val (.long q0), .second, .val (.long q1), .second, .val (.long q2), .second, .val (.long q3), .second, .val (.long q4), .second, .val (.int (1 : Int32)), .val (.ref b_34), .val (.ref b_40), .val (.ref t__41)] [(.int (1 : Int32)), (.ref b_34), (.long (0 : Int64))])
    refine Go.st (fun _ => XS.bipush X_65.here hx rfl (hb hby at_265)) ?_
    show Go p e below s _ _ _ T_65 (mkF m 267 #[.val (.int k), .val (.long q0), .second, .val (.long q1), .second, .val (.long q2), .second, .val (.long q3), .second, .val (.long q4), .second, .val (.int (1 : Int32)), .val (.ref b_34), .val (.ref b_40), .val (.ref t__41)] [(.int (7 : Int32)), (.int (1 : Int32)), (.ref b_34), (.long (0 : Int64))])
    obtain ⟨_, _, ⟨T_67, L_67, kc_67, nc_67⟩, -, X_67, ⟨Lc_67, hQ_67, l_67, y_67, z_67⟩, st_67⟩ := Jvm.LawKit.callS X_65 hx (y := (⟨"com/example/moat/moat/xpath/HandlesReversePinLaw", "exp", "([JII)J"⟩ : MethodName)) hown (mvT hZ (hw _ (List.mem_of_getElem? (i := 30) rfl))) (mvT hZ (hw _ (List.mem_of_getElem? (i := 31) rfl))) (mvT hZ (hw _ (List.mem_of_getElem? (i := 32) rfl))) (mvT hZ (hw _ (List.mem_of_getElem? (i := 33) rfl))) (by decide) (backOf (W := 2) (rmXb l Z a0 hw [] b_34 (1 : Int32) (7 : Int32) h_44 n0 z_44q (by decide)) hZ (hw _ (List.mem_of_getElem? (i := 33) rfl)) (hw _ (List.mem_of_getElem? (i := 32) rfl)) (by decide) (by decide)) (g := (mkF m 267 #[.val (.int k), .val (.long q0), .second, .val (.long q1), .second, .val (.long q2), .second, .val (.long q3), .second, .val (.long q4), .second, .val (.int (1 : Int32)), .val (.ref b_34), .val (.ref b_40), .val (.ref t__41)] [(.int (7 : Int32)), (.int (1 : Int32)), (.ref b_34), (.long (0 : Int64))])) rfl (by rw [hml]; rfl) (argsL := [(.ref b_34), (.int (1 : Int32)), (.int (7 : Int32))]) (rest := [(.long (0 : Int64))]) (lenOf pd_3 rfl) rfl (by show 2 * 0 + _ ≤ _; exact Nat.le_of_eq rfl) (hb hby at_267) (fun _ _ => ⟨rfl, e_65, (by decide : 3 + 0 ≤ _), (by decide : 15 + 0 ≤ _)⟩)
    dsimp only [Pt.U, Pt.locs, Pt.cells, Pt.slots] at X_67 l_67 y_67 z_67 st_67 hQ_67
    obtain rfl : kc_67 = 3 := y_67
    obtain rfl : nc_67 = 15 := z_67
    obtain ⟨h_67, e_67⟩ : ∃ hh, T_67.heap = hh := ⟨_, rfl⟩
    rw [e_67] at hQ_67
    obtain ⟨rfl, N_67q, sm_67⟩ := hQ_67
    have N_67 : Fr n0 L_67 := by rw [l_67]; exact Fr.app N_65 N_67q
    refine Go.st st_67 ?_
    rw [sm_67] at e_67
    show Go p e below s _ _ _ T_67 (mkF m 270 #[.val (.int k), .val (.long q0), .second, .val (.long q1), .second, .val (.long q2), .second, .val (.long q3), .second, .val (.long q4), .second, .val (.int (1 : Int32)), .val (.ref b_34), .val (.ref b_40), .val (.ref t__41)] [(.long (0 : Int64)), (.long (0 : Int64))])
    refine Go.st (fun _ => XS.lcmp X_67.here hx rfl (hb hby at_270) rfl) ?_
    show Go p e below s _ _ _ T_67 (mkF m 271 #[.val (.int k), .val (.long q0), .second, .val (.long q1), .second, .val (.long q2), .second, .val (.long q3), .second, .val (.long q4), .second, .val (.int (1 : Int32)), .val (.ref b_34), .val (.ref b_40), .val (.ref t__41)] [(.int (lcmpW (0 : Int64) (0 : Int64)))])
    refine Go.st (fun _ => XS.ifNo X_67.here hx rfl (hb hby at_271) rfl ((if0 _ _).trans (teq ((lw_eq (0 : Int64) (0 : Int64)).mpr (by decide : (0 : Int64) = (0 : Int64)))).2)) ?_
    show Go p e below s _ _ _ T_67 (mkF m 274 #[.val (.int k), .val (.long q0), .second, .val (.long q1), .second, .val (.long q2), .second, .val (.long q3), .second, .val (.long q4), .second, .val (.int (1 : Int32)), .val (.ref b_34), .val (.ref b_40), .val (.ref t__41)] [])
    refine Go.st (fun _ => XS.iconst X_67.here hx rfl (hb hby at_274)) ?_
    show Go p e below s _ _ _ T_67 (mkF m 275 #[.val (.int k), .val (.long q0), .second, .val (.long q1), .second, .val (.long q2), .second, .val (.long q3), .second, .val (.long q4), .second, .val (.int (1 : Int32)), .val (.ref b_34), .val (.ref b_40), .val (.ref t__41)] [(.int (1 : Int32))])
    refine Go.st (fun _ => XS.goto X_67.here hx rfl (pc0 := 275) (pc' := 279) rfl (hb hby at_275) (by decide) (by decide)) ?_
    show Go p e below s _ _ _ T_67 (mkF m 279 #[.val (.int k), .val (.long q0), .second, .val (.long q1), .second, .val (.long q2), .second, .val (.long q3), .second, .val (.long q4), .second, .val (.int (1 : Int32)), .val (.ref b_34), .val (.ref b_40), .val (.ref t__41)] [(.int (1 : Int32))])
    exact Go.retZ X_67 hx hlk Bd.returns (hb hby at_279) rfl (by rw [e_67]; exact ⟨rfl, N_67⟩) (by decide) (by decide)
  · rw [show ((k &&& (2147483647 : Int32)) % (6 : Int32)) = (2 : Int32) from hd_1]
    show Go p e below s _ _ _ s₁ (mkF m 7 #[.val (.int k), .val (.long q0), .second, .val (.long q1), .second, .val (.long q2), .second, .val (.long q3), .second, .val (.long q4), .second, .unset, .unset, .unset, .unset] [(.int (2 : Int32))])
    refine Go.st (fun _ => XS.istore X0.here hx rfl (hb hby at_7) rfl (l' := #[.val (.int k), .val (.long q0), .second, .val (.long q1), .second, .val (.long q2), .second, .val (.long q3), .second, .val (.long q4), .second, .val (.int (2 : Int32)), .unset, .unset, .unset]) rfl) ?_
    show Go p e below s _ _ _ s₁ (mkF m 9 #[.val (.int k), .val (.long q0), .second, .val (.long q1), .second, .val (.long q2), .second, .val (.long q3), .second, .val (.long q4), .second, .val (.int (2 : Int32)), .unset, .unset, .unset] [])
    refine Go.st (fun _ => XS.iconst X0.here hx rfl (hb hby at_9)) ?_
    show Go p e below s _ _ _ s₁ (mkF m 10 #[.val (.int k), .val (.long q0), .second, .val (.long q1), .second, .val (.long q2), .second, .val (.long q3), .second, .val (.long q4), .second, .val (.int (2 : Int32)), .unset, .unset, .unset] [(.int (5 : Int32))])
    obtain ⟨T_68, h_68, kA_68, X_68, e_68, E_68, A_68, st_68⟩ := newP X0 hx hZ (hw _ (List.mem_of_getElem? (i := 1) rfl)) e0 (g := (mkF m 10 #[.val (.int k), .val (.long q0), .second, .val (.long q1), .second, .val (.long q2), .second, .val (.long q3), .second, .val (.long q4), .second, .val (.int (2 : Int32)), .unset, .unset, .unset] [(.int (5 : Int32))])) rfl (hb hby at_10) rfl (by decide) (cap := 5) (by decide) (by decide) (by decide) (by decide)
    obtain ⟨b_68, g_68⟩ : ∃ z, z = h0.size := ⟨_, rfl⟩
    rw [← g_68] at A_68 st_68
    refine Go.st st_68 ?_
    have gg_68 : n0 ≤ b_68 := Nat.le_trans Z0 (Nat.le_of_eq g_68.symm)
    have z_68 : n0 ≤ h_68.size := Nat.le_trans Z0 E_68.1
    have V_b_68 : Arv Z h_68 b_68 kA_68 .long (5 : Int32) [(.long (0 : Int64)), (.long (0 : Int64)), (.long (0 : Int64)), (.long (0 : Int64)), (.long (0 : Int64))] (.long (0 : Int64)) := (Arv.new A_68 (by decide)).pad (pad_rep [] (.long (0 : Int64)) 5)
    show Go p e below s _ _ _ T_68 (mkF m 12 #[.val (.int k), .val (.long q0), .second, .val (.long q1), .second, .val (.long q2), .second, .val (.long q3), .second, .val (.long q4), .second, .val (.int (2 : Int32)), .unset, .unset, .unset] [(.ref b_68)])
    refine Go.st (fun _ => XS.dup X_68.here hx rfl (hb hby at_12) rfl rfl) ?_
    show Go p e below s _ _ _ T_68 (mkF m 13 #[.val (.int k), .val (.long q0), .second, .val (.long q1), .second, .val (.long q2), .second, .val (.long q3), .second, .val (.long q4), .second, .val (.int (2 : Int32)), .unset, .unset, .unset] [(.ref b_68), (.ref b_68)])
    refine Go.st (fun _ => XS.iconst X_68.here hx rfl (hb hby at_13)) ?_
    show Go p e below s _ _ _ T_68 (mkF m 14 #[.val (.int k), .val (.long q0), .second, .val (.long q1), .second, .val (.long q2), .second, .val (.long q3), .second, .val (.long q4), .second, .val (.int (2 : Int32)), .unset, .unset, .unset] [(.int (0 : Int32)), (.ref b_68), (.ref b_68)])
    refine Go.st (fun _ => XS.lloadN X_68.here hx rfl (hb hby at_14) rfl) ?_
    show Go p e below s _ _ _ T_68 (mkF m 15 #[.val (.int k), .val (.long q0), .second, .val (.long q1), .second, .val (.long q2), .second, .val (.long q3), .second, .val (.long q4), .second, .val (.int (2 : Int32)), .unset, .unset, .unset] [(.long q0), (.int (0 : Int32)), (.ref b_68), (.ref b_68)])
    obtain ⟨cl_69, Ar_69, q_69, S_69, M_69, H_69, G_69⟩ := id V_b_68
    have hin_69 : ¬ ((0 : Int32) < 0 ∨ cl_69.slots.size ≤ ((0 : Int32)).toNatClampNeg) := inb_of S_69 ⟨by decide, by decide⟩
    obtain ⟨T_69, h_69, X_69, e_69, W_69, st_69⟩ := stJ X_68 hx hZ e_68 Ar_69 (j := (0 : Int32)) hin_69 (g := (mkF m 15 #[.val (.int k), .val (.long q0), .second, .val (.long q1), .second, .val (.long q2), .second, .val (.long q3), .second, .val (.long q4), .second, .val (.int (2 : Int32)), .unset, .unset, .unset] [(.long q0), (.int (0 : Int32)), (.ref b_68), (.ref b_68)])) rfl rfl (hb hby at_15)
    refine Go.st st_69 ?_
    have V_69 : Arv Z h_69 b_68 kA_68 .long (5 : Int32) [(.long q0), (.long (0 : Int64)), (.long (0 : Int64)), (.long (0 : Int64)), (.long (0 : Int64))] (.long (0 : Int64)) := Arv.set Ar_69 q_69 S_69 M_69 H_69 G_69 rfl W_69 0 rfl (Nat.le_of_ble_eq_true rfl)
    have N_69 := Fr.snoc X_69 N0 gg_68
    have z_69 : n0 ≤ h_69.size := Nat.le_trans z_68 (Nat.le_of_eq W_69.size.symm)
    show Go p e below s _ _ _ T_69 (mkF m 16 #[.val (.int k), .val (.long q0), .second, .val (.long q1), .second, .val (.long q2), .second, .val (.long q3), .second, .val (.long q4), .second, .val (.int (2 : Int32)), .unset, .unset, .unset] [(.ref b_68)])
    refine Go.st (fun _ => XS.dup X_69.here hx rfl (hb hby at_16) rfl rfl) ?_
    show Go p e below s _ _ _ T_69 (mkF m 17 #[.val (.int k), .val (.long q0), .second, .val (.long q1), .second, .val (.long q2), .second, .val (.long q3), .second, .val (.long q4), .second, .val (.int (2 : Int32)), .unset, .unset, .unset] [(.ref b_68), (.ref b_68)])
    refine Go.st (fun _ => XS.iconst X_69.here hx rfl (hb hby at_17)) ?_
    show Go p e below s _ _ _ T_69 (mkF m 18 #[.val (.int k), .val (.long q0), .second, .val (.long q1), .second, .val (.long q2), .second, .val (.long q3), .second, .val (.long q4), .second, .val (.int (2 : Int32)), .unset, .unset, .unset] [(.int (1 : Int32)), (.ref b_68), (.ref b_68)])
    refine Go.st (fun _ => XS.lloadN X_69.here hx rfl (hb hby at_18) rfl) ?_
    show Go p e below s _ _ _ T_69 (mkF m 19 #[.val (.int k), .val (.long q0), .second, .val (.long q1), .second, .val (.long q2), .second, .val (.long q3), .second, .val (.long q4), .second, .val (.int (2 : Int32)), .unset, .unset, .unset] [(.long q1), (.int (1 : Int32)), (.ref b_68), (.ref b_68)])
    obtain ⟨cl_70, Ar_70, q_70, S_70, M_70, H_70, G_70⟩ := id V_69
    have hin_70 : ¬ ((1 : Int32) < 0 ∨ cl_70.slots.size ≤ ((1 : Int32)).toNatClampNeg) := inb_of S_70 ⟨by decide, by decide⟩
    obtain ⟨T_70, h_70, X_70, e_70, W_70, st_70⟩ := stJ X_69 hx hZ e_69 Ar_70 (j := (1 : Int32)) hin_70 (g := (mkF m 19 #[.val (.int k), .val (.long q0), .second, .val (.long q1), .second, .val (.long q2), .second, .val (.long q3), .second, .val (.long q4), .second, .val (.int (2 : Int32)), .unset, .unset, .unset] [(.long q1), (.int (1 : Int32)), (.ref b_68), (.ref b_68)])) rfl rfl (hb hby at_19)
    refine Go.st st_70 ?_
    have V_70 : Arv Z h_70 b_68 kA_68 .long (5 : Int32) [(.long q0), (.long q1), (.long (0 : Int64)), (.long (0 : Int64)), (.long (0 : Int64))] (.long (0 : Int64)) := Arv.set Ar_70 q_70 S_70 M_70 H_70 G_70 rfl W_70 1 rfl (Nat.le_of_ble_eq_true rfl)
    have N_70 := Fr.snoc X_70 N_69 gg_68
    have z_70 : n0 ≤ h_70.size := Nat.le_trans z_69 (Nat.le_of_eq W_70.size.symm)
    show Go p e below s _ _ _ T_70 (mkF m 20 #[.val (.int k), .val (.long q0), .second, .val (.long q1), .second, .val (.long q2), .second, .val (.long q3), .second, .val (.long q4), .second, .val (.int (2 : Int32)), .unset, .unset, .unset] [(.ref b_68)])
    refine Go.st (fun _ => XS.dup X_70.here hx rfl (hb hby at_20) rfl rfl) ?_
    show Go p e below s _ _ _ T_70 (mkF m 21 #[.val (.int k), .val (.long q0), .second, .val (.long q1), .second, .val (.long q2), .second, .val (.long q3), .second, .val (.long q4), .second, .val (.int (2 : Int32)), .unset, .unset, .unset] [(.ref b_68), (.ref b_68)])
    refine Go.st (fun _ => XS.iconst X_70.here hx rfl (hb hby at_21)) ?_
    show Go p e below s _ _ _ T_70 (mkF m 22 #[.val (.int k), .val (.long q0), .second, .val (.long q1), .second, .val (.long q2), .second, .val (.long q3), .second, .val (.long q4), .second, .val (.int (2 : Int32)), .unset, .unset, .unset] [(.int (2 : Int32)), (.ref b_68), (.ref b_68)])
    refine Go.st (fun _ => XS.lload X_70.here hx rfl (hb hby at_22) rfl) ?_
    show Go p e below s _ _ _ T_70 (mkF m 24 #[.val (.int k), .val (.long q0), .second, .val (.long q1), .second, .val (.long q2), .second, .val (.long q3), .second, .val (.long q4), .second, .val (.int (2 : Int32)), .unset, .unset, .unset] [(.long q2), (.int (2 : Int32)), (.ref b_68), (.ref b_68)])
    obtain ⟨cl_71, Ar_71, q_71, S_71, M_71, H_71, G_71⟩ := id V_70
    have hin_71 : ¬ ((2 : Int32) < 0 ∨ cl_71.slots.size ≤ ((2 : Int32)).toNatClampNeg) := inb_of S_71 ⟨by decide, by decide⟩
    obtain ⟨T_71, h_71, X_71, e_71, W_71, st_71⟩ := stJ X_70 hx hZ e_70 Ar_71 (j := (2 : Int32)) hin_71 (g := (mkF m 24 #[.val (.int k), .val (.long q0), .second, .val (.long q1), .second, .val (.long q2), .second, .val (.long q3), .second, .val (.long q4), .second, .val (.int (2 : Int32)), .unset, .unset, .unset] [(.long q2), (.int (2 : Int32)), (.ref b_68), (.ref b_68)])) rfl rfl (hb hby at_24)
    refine Go.st st_71 ?_
    have V_71 : Arv Z h_71 b_68 kA_68 .long (5 : Int32) [(.long q0), (.long q1), (.long q2), (.long (0 : Int64)), (.long (0 : Int64))] (.long (0 : Int64)) := Arv.set Ar_71 q_71 S_71 M_71 H_71 G_71 rfl W_71 2 rfl (Nat.le_of_ble_eq_true rfl)
    have N_71 := Fr.snoc X_71 N_70 gg_68
    have z_71 : n0 ≤ h_71.size := Nat.le_trans z_70 (Nat.le_of_eq W_71.size.symm)
    show Go p e below s _ _ _ T_71 (mkF m 25 #[.val (.int k), .val (.long q0), .second, .val (.long q1), .second, .val (.long q2), .second, .val (.long q3), .second, .val (.long q4), .second, .val (.int (2 : Int32)), .unset, .unset, .unset] [(.ref b_68)])
    refine Go.st (fun _ => XS.dup X_71.here hx rfl (hb hby at_25) rfl rfl) ?_
    show Go p e below s _ _ _ T_71 (mkF m 26 #[.val (.int k), .val (.long q0), .second, .val (.long q1), .second, .val (.long q2), .second, .val (.long q3), .second, .val (.long q4), .second, .val (.int (2 : Int32)), .unset, .unset, .unset] [(.ref b_68), (.ref b_68)])
    refine Go.st (fun _ => XS.iconst X_71.here hx rfl (hb hby at_26)) ?_
    show Go p e below s _ _ _ T_71 (mkF m 27 #[.val (.int k), .val (.long q0), .second, .val (.long q1), .second, .val (.long q2), .second, .val (.long q3), .second, .val (.long q4), .second, .val (.int (2 : Int32)), .unset, .unset, .unset] [(.int (3 : Int32)), (.ref b_68), (.ref b_68)])
    refine Go.st (fun _ => XS.lload X_71.here hx rfl (hb hby at_27) rfl) ?_
    show Go p e below s _ _ _ T_71 (mkF m 29 #[.val (.int k), .val (.long q0), .second, .val (.long q1), .second, .val (.long q2), .second, .val (.long q3), .second, .val (.long q4), .second, .val (.int (2 : Int32)), .unset, .unset, .unset] [(.long q3), (.int (3 : Int32)), (.ref b_68), (.ref b_68)])
    obtain ⟨cl_72, Ar_72, q_72, S_72, M_72, H_72, G_72⟩ := id V_71
    have hin_72 : ¬ ((3 : Int32) < 0 ∨ cl_72.slots.size ≤ ((3 : Int32)).toNatClampNeg) := inb_of S_72 ⟨by decide, by decide⟩
    obtain ⟨T_72, h_72, X_72, e_72, W_72, st_72⟩ := stJ X_71 hx hZ e_71 Ar_72 (j := (3 : Int32)) hin_72 (g := (mkF m 29 #[.val (.int k), .val (.long q0), .second, .val (.long q1), .second, .val (.long q2), .second, .val (.long q3), .second, .val (.long q4), .second, .val (.int (2 : Int32)), .unset, .unset, .unset] [(.long q3), (.int (3 : Int32)), (.ref b_68), (.ref b_68)])) rfl rfl (hb hby at_29)
    refine Go.st st_72 ?_
    have V_72 : Arv Z h_72 b_68 kA_68 .long (5 : Int32) [(.long q0), (.long q1), (.long q2), (.long q3), (.long (0 : Int64))] (.long (0 : Int64)) := Arv.set Ar_72 q_72 S_72 M_72 H_72 G_72 rfl W_72 3 rfl (Nat.le_of_ble_eq_true rfl)
    have N_72 := Fr.snoc X_72 N_71 gg_68
    have z_72 : n0 ≤ h_72.size := Nat.le_trans z_71 (Nat.le_of_eq W_72.size.symm)
    show Go p e below s _ _ _ T_72 (mkF m 30 #[.val (.int k), .val (.long q0), .second, .val (.long q1), .second, .val (.long q2), .second, .val (.long q3), .second, .val (.long q4), .second, .val (.int (2 : Int32)), .unset, .unset, .unset] [(.ref b_68)])
    refine Go.st (fun _ => XS.dup X_72.here hx rfl (hb hby at_30) rfl rfl) ?_
    show Go p e below s _ _ _ T_72 (mkF m 31 #[.val (.int k), .val (.long q0), .second, .val (.long q1), .second, .val (.long q2), .second, .val (.long q3), .second, .val (.long q4), .second, .val (.int (2 : Int32)), .unset, .unset, .unset] [(.ref b_68), (.ref b_68)])
    refine Go.st (fun _ => XS.iconst X_72.here hx rfl (hb hby at_31)) ?_
    show Go p e below s _ _ _ T_72 (mkF m 32 #[.val (.int k), .val (.long q0), .second, .val (.long q1), .second, .val (.long q2), .second, .val (.long q3), .second, .val (.long q4), .second, .val (.int (2 : Int32)), .unset, .unset, .unset] [(.int (4 : Int32)), (.ref b_68), (.ref b_68)])
    refine Go.st (fun _ => XS.lload X_72.here hx rfl (hb hby at_32) rfl) ?_
    show Go p e below s _ _ _ T_72 (mkF m 34 #[.val (.int k), .val (.long q0), .second, .val (.long q1), .second, .val (.long q2), .second, .val (.long q3), .second, .val (.long q4), .second, .val (.int (2 : Int32)), .unset, .unset, .unset] [(.long q4), (.int (4 : Int32)), (.ref b_68), (.ref b_68)])
    obtain ⟨cl_73, Ar_73, q_73, S_73, M_73, H_73, G_73⟩ := id V_72
    have hin_73 : ¬ ((4 : Int32) < 0 ∨ cl_73.slots.size ≤ ((4 : Int32)).toNatClampNeg) := inb_of S_73 ⟨by decide, by decide⟩
    obtain ⟨T_73, h_73, X_73, e_73, W_73, st_73⟩ := stJ X_72 hx hZ e_72 Ar_73 (j := (4 : Int32)) hin_73 (g := (mkF m 34 #[.val (.int k), .val (.long q0), .second, .val (.long q1), .second, .val (.long q2), .second, .val (.long q3), .second, .val (.long q4), .second, .val (.int (2 : Int32)), .unset, .unset, .unset] [(.long q4), (.int (4 : Int32)), (.ref b_68), (.ref b_68)])) rfl rfl (hb hby at_34)
    refine Go.st st_73 ?_
    have V_73 : Arv Z h_73 b_68 kA_68 .long (5 : Int32) [(.long q0), (.long q1), (.long q2), (.long q3), (.long q4)] (.long (0 : Int64)) := Arv.set Ar_73 q_73 S_73 M_73 H_73 G_73 rfl W_73 4 rfl (Nat.le_of_ble_eq_true rfl)
    have N_73 := Fr.snoc X_73 N_72 gg_68
    have z_73 : n0 ≤ h_73.size := Nat.le_trans z_72 (Nat.le_of_eq W_73.size.symm)
    show Go p e below s _ _ _ T_73 (mkF m 35 #[.val (.int k), .val (.long q0), .second, .val (.long q1), .second, .val (.long q2), .second, .val (.long q3), .second, .val (.long q4), .second, .val (.int (2 : Int32)), .unset, .unset, .unset] [(.ref b_68)])
    refine Go.st (fun _ => XS.astore X_73.here hx rfl (hb hby at_35) rfl rfl (l' := #[.val (.int k), .val (.long q0), .second, .val (.long q1), .second, .val (.long q2), .second, .val (.long q3), .second, .val (.long q4), .second, .val (.int (2 : Int32)), .val (.ref b_68), .unset, .unset]) rfl) ?_
    show Go p e below s _ _ _ T_73 (mkF m 37 #[.val (.int k), .val (.long q0), .second, .val (.long q1), .second, .val (.long q2), .second, .val (.long q3), .second, .val (.long q4), .second, .val (.int (2 : Int32)), .val (.ref b_68), .unset, .unset] [])
    obtain ⟨T_74, h_74, X_74, e_74, E_74, A_74, D_74, -, st_74⟩ := newO X_73 hx hZ hown (hw _ (List.mem_of_getElem? (i := 2) rfl)) (hw _ (List.mem_of_getElem? (i := 3) rfl)) (hw _ (List.mem_of_getElem? (i := 4) rfl)) e_73 (g := (mkF m 37 #[.val (.int k), .val (.long q0), .second, .val (.long q1), .second, .val (.long q2), .second, .val (.long q3), .second, .val (.long q4), .second, .val (.int (2 : Int32)), .val (.ref b_68), .unset, .unset] [])) rfl (hb hby at_37) (by decide) (by decide)
    obtain ⟨b_74, g_74⟩ : ∃ z, z = h_73.size := ⟨_, rfl⟩
    rw [← g_74] at A_74 D_74 st_74
    refine Go.st st_74 ?_
    have ne_b_68_b_74 : b_68 ≠ b_74 := Nat.ne_of_lt (Nat.lt_of_lt_of_eq V_73.lt g_74.symm)
    have gg_74 : n0 ≤ b_74 := Nat.le_trans z_73 (Nat.le_of_eq g_74.symm)
    have z_74 : n0 ≤ h_74.size := Nat.le_trans z_73 E_74.1
    have F_nodes_b_74 : Fld Z h_74 b_74 "com/example/moat/moat/xpath/Handles" "nodes" "[J" .null := D_74 (Or.inl (hw _ (List.mem_of_getElem? (i := 12) rfl))) (ty := (.array .long)) (by decide)
    have F_size_b_74 : Fld Z h_74 b_74 "com/example/moat/moat/xpath/Handles" "size" "I" (.int (0 : Int32)) := D_74 (Or.inl (hw _ (List.mem_of_getElem? (i := 19) rfl))) (ty := .int) (by decide)
    show Go p e below s _ _ _ T_74 (mkF m 40 #[.val (.int k), .val (.long q0), .second, .val (.long q1), .second, .val (.long q2), .second, .val (.long q3), .second, .val (.long q4), .second, .val (.int (2 : Int32)), .val (.ref b_68), .unset, .unset] [(.ref b_74)])
    refine Go.st (fun _ => XS.dup X_74.here hx rfl (hb hby at_40) rfl rfl) ?_
    show Go p e below s _ _ _ T_74 (mkF m 41 #[.val (.int k), .val (.long q0), .second, .val (.long q1), .second, .val (.long q2), .second, .val (.long q3), .second, .val (.long q4), .second, .val (.int (2 : Int32)), .val (.ref b_68), .unset, .unset] [(.ref b_74), (.ref b_74)])
    obtain ⟨_, _, ⟨T_75, L_75, kc_75, nc_75⟩, -, X_75, ⟨Lc_75, hQ_75, l_75, y_75, z_75⟩, st_75⟩ := X_74.specialBack hx (y := (⟨"com/example/moat/moat/xpath/Handles", "<init>", "()V"⟩ : MethodName)) rfl hown (mvT hZ (hw _ (List.mem_of_getElem? (i := 5) rfl))) (mvT hZ (hw _ (List.mem_of_getElem? (i := 6) rfl))) (mvT hZ (hw _ (List.mem_of_getElem? (i := 7) rfl))) (by decide) (backOf (W := 1) (rm1 l Z a0 hw [] b_74 h_74 n0 z_74 A_74 F_nodes_b_74 F_size_b_74 gg_74) hZ (hw _ (List.mem_of_getElem? (i := 7) rfl)) (hw _ (List.mem_of_getElem? (i := 4) rfl)) (by decide) (by decide)) (g := (mkF m 41 #[.val (.int k), .val (.long q0), .second, .val (.long q1), .second, .val (.long q2), .second, .val (.long q3), .second, .val (.long q4), .second, .val (.int (2 : Int32)), .val (.ref b_68), .unset, .unset] [(.ref b_74), (.ref b_74)])) rfl (by rw [hml]; rfl) (Steps.refl _) (a := b_74) (argsL := []) (rest := [(.ref b_74)]) (lenOf pd_0 rfl) rfl (by show 2 * 0 + _ ≤ _; exact Nat.le_of_eq rfl) (hb hby at_41) (fun _ _ => ⟨rfl, e_74, (by decide : 2 + 1 ≤ _), (by decide : 7 + 8 ≤ _)⟩)
    dsimp only [Pt.U, Pt.locs, Pt.cells, Pt.slots] at X_75 l_75 y_75 z_75 st_75 hQ_75
    obtain rfl : kc_75 = 3 := y_75
    obtain rfl : nc_75 = 15 := z_75
    obtain ⟨h_75, e_75⟩ : ∃ hh, T_75.heap = hh := ⟨_, rfl⟩
    rw [e_75] at hQ_75
    obtain ⟨t__75, kt__75, rfl, N_75q, K_75, p_75_0, p_75_1, p_75_2, p_75_3, p_75_4, p_75_5⟩ := hQ_75
    have N_75 : Fr n0 L_75 := by rw [l_75]; exact Fr.app N_73 N_75q
    refine Go.st (fun _ kk => st_75.trans kk) ?_
    have f_76 := (V_73.ext E_74)
    have ne_b_68_t__75 : b_68 ≠ t__75 := Nat.ne_of_lt (Nat.lt_of_lt_of_le f_76.lt p_75_1)
    have ne_b_74_t__75 : b_74 ≠ t__75 := Nat.ne_of_lt (Nat.lt_of_lt_of_le A_74.lt p_75_1)
    have z_75q : n0 ≤ h_75.size := Nat.le_trans z_74 K_75.1
    show Go p e below s _ _ _ T_75 (mkF m 44 #[.val (.int k), .val (.long q0), .second, .val (.long q1), .second, .val (.long q2), .second, .val (.long q3), .second, .val (.long q4), .second, .val (.int (2 : Int32)), .val (.ref b_68), .unset, .unset] [(.ref b_74)])
    refine Go.st (fun _ => XS.astore X_75.here hx rfl (hb hby at_44) rfl rfl (l' := #[.val (.int k), .val (.long q0), .second, .val (.long q1), .second, .val (.long q2), .second, .val (.long q3), .second, .val (.long q4), .second, .val (.int (2 : Int32)), .val (.ref b_68), .val (.ref b_74), .unset]) rfl) ?_
    show Go p e below s _ _ _ T_75 (mkF m 46 #[.val (.int k), .val (.long q0), .second, .val (.long q1), .second, .val (.long q2), .second, .val (.long q3), .second, .val (.long q4), .second, .val (.int (2 : Int32)), .val (.ref b_68), .val (.ref b_74), .unset] [])
    refine Go.st (fun _ => XS.iload X_75.here hx rfl (hb hby at_46) rfl) ?_
    show Go p e below s _ _ _ T_75 (mkF m 48 #[.val (.int k), .val (.long q0), .second, .val (.long q1), .second, .val (.long q2), .second, .val (.long q3), .second, .val (.long q4), .second, .val (.int (2 : Int32)), .val (.ref b_68), .val (.ref b_74), .unset] [(.int (2 : Int32))])
    refine Go.st (fun _ => XS.ifNo X_75.here hx rfl (hb hby at_48) rfl ((if0 _ _).trans (tlt (by decide : (0 : Int32) < (2 : Int32))).2.2.2)) ?_
    show Go p e below s _ _ _ T_75 (mkF m 51 #[.val (.int k), .val (.long q0), .second, .val (.long q1), .second, .val (.long q2), .second, .val (.long q3), .second, .val (.long q4), .second, .val (.int (2 : Int32)), .val (.ref b_68), .val (.ref b_74), .unset] [])
    refine Go.st (fun _ => XS.aload X_75.here hx rfl (hb hby at_51) rfl rfl) ?_
    show Go p e below s _ _ _ T_75 (mkF m 53 #[.val (.int k), .val (.long q0), .second, .val (.long q1), .second, .val (.long q2), .second, .val (.long q3), .second, .val (.long q4), .second, .val (.int (2 : Int32)), .val (.ref b_68), .val (.ref b_74), .unset] [(.ref b_74)])
    refine Go.st (fun _ => XS.lloadN X_75.here hx rfl (hb hby at_53) rfl) ?_
    show Go p e below s _ _ _ T_75 (mkF m 54 #[.val (.int k), .val (.long q0), .second, .val (.long q1), .second, .val (.long q2), .second, .val (.long q3), .second, .val (.long q4), .second, .val (.int (2 : Int32)), .val (.ref b_68), .val (.ref b_74), .unset] [(.long q0), (.ref b_74)])
    obtain ⟨cq_77, kq_77, q_77a, q_77b, q_77c⟩ := isOf hZ e_75 p_75_2
    obtain ⟨_, _, ⟨T_77, L_77, kc_77, nc_77⟩, -, X_77, ⟨Lc_77, hQ_77, l_77, y_77, z_77⟩, st_77⟩ := X_75.virtualBack hx (y := (⟨"com/example/moat/moat/xpath/Handles", "add", "(J)V"⟩ : MethodName)) (z := (⟨"com/example/moat/moat/xpath/Handles", "add", "(J)V"⟩ : MethodName)) hown (mvT hZ (hw _ (List.mem_of_getElem? (i := 34) rfl))) (mvT hZ (hw _ (List.mem_of_getElem? (i := 35) rfl))) (notFace_of_selects (args := #[]) (mvT hZ (hw _ (List.mem_of_getElem? (i := 37) rfl)))) (mvT hZ (hw _ (List.mem_of_getElem? (i := 37) rfl))) (mvT hZ (hw _ (List.mem_of_getElem? (i := 36) rfl))) (by decide) (backOf (W := 0) (rm7 l Z a0 hw [] b_74 q0 t__75 kt__75 (0 : Int32) [(.long (0 : Int64)), (.long (0 : Int64)), (.long (0 : Int64)), (.long (0 : Int64)), (.long (0 : Int64)), (.long (0 : Int64)), (.long (0 : Int64)), (.long (0 : Int64))] (.long (0 : Int64)) h_75 n0 z_75q p_75_2 p_75_3 p_75_4 p_75_5 gg_74 p_75_0 ne_b_74_t__75 (by decide) (by decide) (show ((0 : Int32)).toNatClampNeg < 8 from by decide)) hZ (hw _ (List.mem_of_getElem? (i := 38) rfl)) (hw _ (List.mem_of_getElem? (i := 4) rfl)) (by decide) (by decide)) q_77a q_77c (g := (mkF m 54 #[.val (.int k), .val (.long q0), .second, .val (.long q1), .second, .val (.long q2), .second, .val (.long q3), .second, .val (.long q4), .second, .val (.int (2 : Int32)), .val (.ref b_68), .val (.ref b_74), .unset] [(.long q0), (.ref b_74)])) rfl (by rw [hml]; rfl) (Steps.refl _) (argsL := [(.long q0)]) (rest := []) (lenOf pd_4 rfl) rfl (by show 2 * 0 + _ ≤ _; exact Nat.le_of_eq rfl) (hb hby at_54) (fun _ _ => ⟨rfl, e_75, (by decide : 3 + 0 ≤ _), (by decide : 15 + 0 ≤ _)⟩)
    dsimp only [Pt.U, Pt.locs, Pt.cells, Pt.slots] at X_77 l_77 y_77 z_77 st_77 hQ_77
    obtain rfl : kc_77 = 3 := y_77
    obtain rfl : nc_77 = 15 := z_77
    obtain ⟨h_77, e_77⟩ : ∃ hh, T_77.heap = hh := ⟨_, rfl⟩
    rw [e_77] at hQ_77
    obtain ⟨rfl, N_77q, K_77, p_77_0, p_77_1, p_77_2, p_77_3⟩ := hQ_77
    have N_77 : Fr n0 L_77 := by rw [l_77]; exact Fr.app N_75 N_77q
    refine Go.st (fun _ kk => st_77.trans kk) ?_
    have z_77q : n0 ≤ h_77.size := Nat.le_trans z_75q K_77.1
    rw [show ((0 : Int32) + (1 : Int32)) = (1 : Int32) from by decide] at p_77_2
    have p_77_3' : Arv Z h_77 t__75 kt__75 .long (8 : Int32) [(.long q0), (.long (0 : Int64)), (.long (0 : Int64)), (.long (0 : Int64)), (.long (0 : Int64)), (.long (0 : Int64)), (.long (0 : Int64)), (.long (0 : Int64))] (.long (0 : Int64)) := p_77_3
    show Go p e below s _ _ _ T_77 (mkF m 57 #[.val (.int k), .val (.long q0), .second, .val (.long q1), .second, .val (.long q2), .second, .val (.long q3), .second, .val (.long q4), .second, .val (.int (2 : Int32)), .val (.ref b_68), .val (.ref b_74), .unset] [])
    refine Go.st (fun _ => XS.iload X_77.here hx rfl (hb hby at_57) rfl) ?_
    show Go p e below s _ _ _ T_77 (mkF m 59 #[.val (.int k), .val (.long q0), .second, .val (.long q1), .second, .val (.long q2), .second, .val (.long q3), .second, .val (.long q4), .second, .val (.int (2 : Int32)), .val (.ref b_68), .val (.ref b_74), .unset] [(.int (2 : Int32))])
    refine Go.st (fun _ => XS.iconst X_77.here hx rfl (hb hby at_59)) ?_
    show Go p e below s _ _ _ T_77 (mkF m 60 #[.val (.int k), .val (.long q0), .second, .val (.long q1), .second, .val (.long q2), .second, .val (.long q3), .second, .val (.long q4), .second, .val (.int (2 : Int32)), .val (.ref b_68), .val (.ref b_74), .unset] [(.int (1 : Int32)), (.int (2 : Int32))])
    refine Go.st (fun _ => XS.icmpNo X_77.here hx rfl (hb hby at_60) rfl (tlt (by decide : (1 : Int32) < (2 : Int32))).2.2.2) ?_
    show Go p e below s _ _ _ T_77 (mkF m 63 #[.val (.int k), .val (.long q0), .second, .val (.long q1), .second, .val (.long q2), .second, .val (.long q3), .second, .val (.long q4), .second, .val (.int (2 : Int32)), .val (.ref b_68), .val (.ref b_74), .unset] [])
    refine Go.st (fun _ => XS.aload X_77.here hx rfl (hb hby at_63) rfl rfl) ?_
    show Go p e below s _ _ _ T_77 (mkF m 65 #[.val (.int k), .val (.long q0), .second, .val (.long q1), .second, .val (.long q2), .second, .val (.long q3), .second, .val (.long q4), .second, .val (.int (2 : Int32)), .val (.ref b_68), .val (.ref b_74), .unset] [(.ref b_74)])
    refine Go.st (fun _ => XS.lloadN X_77.here hx rfl (hb hby at_65) rfl) ?_
    show Go p e below s _ _ _ T_77 (mkF m 66 #[.val (.int k), .val (.long q0), .second, .val (.long q1), .second, .val (.long q2), .second, .val (.long q3), .second, .val (.long q4), .second, .val (.int (2 : Int32)), .val (.ref b_68), .val (.ref b_74), .unset] [(.long q1), (.ref b_74)])
    obtain ⟨cq_78, kq_78, q_78a, q_78b, q_78c⟩ := isOf hZ e_77 p_77_0
    obtain ⟨_, _, ⟨T_78, L_78, kc_78, nc_78⟩, -, X_78, ⟨Lc_78, hQ_78, l_78, y_78, z_78⟩, st_78⟩ := X_77.virtualBack hx (y := (⟨"com/example/moat/moat/xpath/Handles", "add", "(J)V"⟩ : MethodName)) (z := (⟨"com/example/moat/moat/xpath/Handles", "add", "(J)V"⟩ : MethodName)) hown (mvT hZ (hw _ (List.mem_of_getElem? (i := 34) rfl))) (mvT hZ (hw _ (List.mem_of_getElem? (i := 35) rfl))) (notFace_of_selects (args := #[]) (mvT hZ (hw _ (List.mem_of_getElem? (i := 37) rfl)))) (mvT hZ (hw _ (List.mem_of_getElem? (i := 37) rfl))) (mvT hZ (hw _ (List.mem_of_getElem? (i := 36) rfl))) (by decide) (backOf (W := 0) (rm7 l Z a0 hw [] b_74 q1 t__75 kt__75 (1 : Int32) [(.long q0), (.long (0 : Int64)), (.long (0 : Int64)), (.long (0 : Int64)), (.long (0 : Int64)), (.long (0 : Int64)), (.long (0 : Int64)), (.long (0 : Int64))] (.long (0 : Int64)) h_77 n0 z_77q p_77_0 p_77_1 p_77_2 p_77_3' gg_74 p_75_0 ne_b_74_t__75 (by decide) (by decide) (show ((1 : Int32)).toNatClampNeg < 8 from by decide)) hZ (hw _ (List.mem_of_getElem? (i := 38) rfl)) (hw _ (List.mem_of_getElem? (i := 4) rfl)) (by decide) (by decide)) q_78a q_78c (g := (mkF m 66 #[.val (.int k), .val (.long q0), .second, .val (.long q1), .second, .val (.long q2), .second, .val (.long q3), .second, .val (.long q4), .second, .val (.int (2 : Int32)), .val (.ref b_68), .val (.ref b_74), .unset] [(.long q1), (.ref b_74)])) rfl (by rw [hml]; rfl) (Steps.refl _) (argsL := [(.long q1)]) (rest := []) (lenOf pd_4 rfl) rfl (by show 2 * 0 + _ ≤ _; exact Nat.le_of_eq rfl) (hb hby at_66) (fun _ _ => ⟨rfl, e_77, (by decide : 3 + 0 ≤ _), (by decide : 15 + 0 ≤ _)⟩)
    dsimp only [Pt.U, Pt.locs, Pt.cells, Pt.slots] at X_78 l_78 y_78 z_78 st_78 hQ_78
    obtain rfl : kc_78 = 3 := y_78
    obtain rfl : nc_78 = 15 := z_78
    obtain ⟨h_78, e_78⟩ : ∃ hh, T_78.heap = hh := ⟨_, rfl⟩
    rw [e_78] at hQ_78
    obtain ⟨rfl, N_78q, K_78, p_78_0, p_78_1, p_78_2, p_78_3⟩ := hQ_78
    have N_78 : Fr n0 L_78 := by rw [l_78]; exact Fr.app N_77 N_78q
    refine Go.st (fun _ kk => st_78.trans kk) ?_
    have z_78q : n0 ≤ h_78.size := Nat.le_trans z_77q K_78.1
    rw [show ((1 : Int32) + (1 : Int32)) = (2 : Int32) from by decide] at p_78_2
    have p_78_3' : Arv Z h_78 t__75 kt__75 .long (8 : Int32) [(.long q0), (.long q1), (.long (0 : Int64)), (.long (0 : Int64)), (.long (0 : Int64)), (.long (0 : Int64)), (.long (0 : Int64)), (.long (0 : Int64))] (.long (0 : Int64)) := p_78_3
    show Go p e below s _ _ _ T_78 (mkF m 69 #[.val (.int k), .val (.long q0), .second, .val (.long q1), .second, .val (.long q2), .second, .val (.long q3), .second, .val (.long q4), .second, .val (.int (2 : Int32)), .val (.ref b_68), .val (.ref b_74), .unset] [])
    refine Go.st (fun _ => XS.iload X_78.here hx rfl (hb hby at_69) rfl) ?_
    show Go p e below s _ _ _ T_78 (mkF m 71 #[.val (.int k), .val (.long q0), .second, .val (.long q1), .second, .val (.long q2), .second, .val (.long q3), .second, .val (.long q4), .second, .val (.int (2 : Int32)), .val (.ref b_68), .val (.ref b_74), .unset] [(.int (2 : Int32))])
    refine Go.st (fun _ => XS.iconst X_78.here hx rfl (hb hby at_71)) ?_
    show Go p e below s _ _ _ T_78 (mkF m 72 #[.val (.int k), .val (.long q0), .second, .val (.long q1), .second, .val (.long q2), .second, .val (.long q3), .second, .val (.long q4), .second, .val (.int (2 : Int32)), .val (.ref b_68), .val (.ref b_74), .unset] [(.int (2 : Int32)), (.int (2 : Int32))])
    refine Go.st (fun _ => XS.icmpYes X_78.here hx rfl (pc0 := 72) (pc' := 82) rfl (hb hby at_72) rfl (flt (by decide : ¬ ((2 : Int32) < (2 : Int32)))).2.2.2 (by decide) (by decide)) ?_
    show Go p e below s _ _ _ T_78 (mkF m 82 #[.val (.int k), .val (.long q0), .second, .val (.long q1), .second, .val (.long q2), .second, .val (.long q3), .second, .val (.long q4), .second, .val (.int (2 : Int32)), .val (.ref b_68), .val (.ref b_74), .unset] [])
    refine Go.st (fun _ => XS.iload X_78.here hx rfl (hb hby at_82) rfl) ?_
    show Go p e below s _ _ _ T_78 (mkF m 84 #[.val (.int k), .val (.long q0), .second, .val (.long q1), .second, .val (.long q2), .second, .val (.long q3), .second, .val (.long q4), .second, .val (.int (2 : Int32)), .val (.ref b_68), .val (.ref b_74), .unset] [(.int (2 : Int32))])
    refine Go.st (fun _ => XS.iconst X_78.here hx rfl (hb hby at_84)) ?_
    show Go p e below s _ _ _ T_78 (mkF m 85 #[.val (.int k), .val (.long q0), .second, .val (.long q1), .second, .val (.long q2), .second, .val (.long q3), .second, .val (.long q4), .second, .val (.int (2 : Int32)), .val (.ref b_68), .val (.ref b_74), .unset] [(.int (3 : Int32)), (.int (2 : Int32))])
    refine Go.st (fun _ => XS.icmpYes X_78.here hx rfl (pc0 := 85) (pc' := 95) rfl (hb hby at_85) rfl (flt (by decide : ¬ ((3 : Int32) < (2 : Int32)))).2.2.2 (by decide) (by decide)) ?_
    show Go p e below s _ _ _ T_78 (mkF m 95 #[.val (.int k), .val (.long q0), .second, .val (.long q1), .second, .val (.long q2), .second, .val (.long q3), .second, .val (.long q4), .second, .val (.int (2 : Int32)), .val (.ref b_68), .val (.ref b_74), .unset] [])
    refine Go.st (fun _ => XS.iload X_78.here hx rfl (hb hby at_95) rfl) ?_
    show Go p e below s _ _ _ T_78 (mkF m 97 #[.val (.int k), .val (.long q0), .second, .val (.long q1), .second, .val (.long q2), .second, .val (.long q3), .second, .val (.long q4), .second, .val (.int (2 : Int32)), .val (.ref b_68), .val (.ref b_74), .unset] [(.int (2 : Int32))])
    refine Go.st (fun _ => XS.iconst X_78.here hx rfl (hb hby at_97)) ?_
    show Go p e below s _ _ _ T_78 (mkF m 98 #[.val (.int k), .val (.long q0), .second, .val (.long q1), .second, .val (.long q2), .second, .val (.long q3), .second, .val (.long q4), .second, .val (.int (2 : Int32)), .val (.ref b_68), .val (.ref b_74), .unset] [(.int (4 : Int32)), (.int (2 : Int32))])
    refine Go.st (fun _ => XS.icmpYes X_78.here hx rfl (pc0 := 98) (pc' := 108) rfl (hb hby at_98) rfl (flt (by decide : ¬ ((4 : Int32) < (2 : Int32)))).2.2.2 (by decide) (by decide)) ?_
    show Go p e below s _ _ _ T_78 (mkF m 108 #[.val (.int k), .val (.long q0), .second, .val (.long q1), .second, .val (.long q2), .second, .val (.long q3), .second, .val (.long q4), .second, .val (.int (2 : Int32)), .val (.ref b_68), .val (.ref b_74), .unset] [])
    refine Go.st (fun _ => XS.aload X_78.here hx rfl (hb hby at_108) rfl rfl) ?_
    show Go p e below s _ _ _ T_78 (mkF m 110 #[.val (.int k), .val (.long q0), .second, .val (.long q1), .second, .val (.long q2), .second, .val (.long q3), .second, .val (.long q4), .second, .val (.int (2 : Int32)), .val (.ref b_68), .val (.ref b_74), .unset] [(.ref b_74)])
    obtain ⟨cq_79, kq_79, q_79a, q_79b, q_79c⟩ := isOf hZ e_78 p_78_0
    obtain ⟨_, _, ⟨T_79, L_79, kc_79, nc_79⟩, -, X_79, ⟨Lc_79, hQ_79, l_79, y_79, z_79⟩, st_79⟩ := X_78.virtualBack hx (y := (⟨"com/example/moat/moat/xpath/Handles", "reverse", "()V"⟩ : MethodName)) (z := (⟨"com/example/moat/moat/xpath/Handles", "reverse", "()V"⟩ : MethodName)) hown (mvT hZ (hw _ (List.mem_of_getElem? (i := 13) rfl))) (mvT hZ (hw _ (List.mem_of_getElem? (i := 14) rfl))) (notFace_of_selects (args := #[]) (mvT hZ (hw _ (List.mem_of_getElem? (i := 16) rfl)))) (mvT hZ (hw _ (List.mem_of_getElem? (i := 16) rfl))) (mvT hZ (hw _ (List.mem_of_getElem? (i := 15) rfl))) (by decide) (backOf (W := 0) (rmR2 l Z a0 hw [] b_74 t__75 kt__75 q0 q1 (0 : Int64) (0 : Int64) (0 : Int64) (0 : Int64) (0 : Int64) (0 : Int64) h_78 n0 z_78q p_78_1 p_78_2 p_78_3' p_75_0 ne_b_74_t__75) hZ (hw _ (List.mem_of_getElem? (i := 17) rfl)) (hw _ (List.mem_of_getElem? (i := 4) rfl)) (by decide) (by decide)) q_79a q_79c (g := (mkF m 110 #[.val (.int k), .val (.long q0), .second, .val (.long q1), .second, .val (.long q2), .second, .val (.long q3), .second, .val (.long q4), .second, .val (.int (2 : Int32)), .val (.ref b_68), .val (.ref b_74), .unset] [(.ref b_74)])) rfl (by rw [hml]; rfl) (Steps.refl _) (argsL := []) (rest := []) (lenOf pd_0 rfl) rfl (by show 2 * 0 + _ ≤ _; exact Nat.le_of_eq rfl) (hb hby at_110) (fun _ _ => ⟨rfl, e_78, (by decide : 3 + 0 ≤ _), (by decide : 15 + 0 ≤ _)⟩)
    dsimp only [Pt.U, Pt.locs, Pt.cells, Pt.slots] at X_79 l_79 y_79 z_79 st_79 hQ_79
    obtain rfl : kc_79 = 3 := y_79
    obtain rfl : nc_79 = 15 := z_79
    obtain ⟨h_79, e_79⟩ : ∃ hh, T_79.heap = hh := ⟨_, rfl⟩
    rw [e_79] at hQ_79
    obtain ⟨rfl, N_79q, K_79, p_79_0⟩ := hQ_79
    have N_79 : Fr n0 L_79 := by rw [l_79]; exact Fr.app N_78 N_79q
    refine Go.st (fun _ kk => st_79.trans kk) ?_
    have z_79q : n0 ≤ h_79.size := Nat.le_trans z_78q K_79.1
    show Go p e below s _ _ _ T_79 (mkF m 113 #[.val (.int k), .val (.long q0), .second, .val (.long q1), .second, .val (.long q2), .second, .val (.long q3), .second, .val (.long q4), .second, .val (.int (2 : Int32)), .val (.ref b_68), .val (.ref b_74), .unset] [])
    refine Go.st (fun _ => XS.aload X_79.here hx rfl (hb hby at_113) rfl rfl) ?_
    show Go p e below s _ _ _ T_79 (mkF m 115 #[.val (.int k), .val (.long q0), .second, .val (.long q1), .second, .val (.long q2), .second, .val (.long q3), .second, .val (.long q4), .second, .val (.int (2 : Int32)), .val (.ref b_68), .val (.ref b_74), .unset] [(.ref b_74)])
    have f_81 := (p_78_2.keep K_79 (ninS ne_b_74_t__75 nin0))
    have f_82 := (p_78_0.keep K_79)
    obtain ⟨cq_80, kq_80, q_80a, q_80b, q_80c⟩ := isOf hZ e_79 f_82
    obtain ⟨_, _, ⟨T_80, L_80, kc_80, nc_80⟩, -, X_80, ⟨Lc_80, hQ_80, l_80, y_80, z_80⟩, st_80⟩ := X_79.virtualBack hx (y := (⟨"com/example/moat/moat/xpath/Handles", "size", "()I"⟩ : MethodName)) (z := (⟨"com/example/moat/moat/xpath/Handles", "size", "()I"⟩ : MethodName)) hown (mvT hZ (hw _ (List.mem_of_getElem? (i := 20) rfl))) (mvT hZ (hw _ (List.mem_of_getElem? (i := 21) rfl))) (notFace_of_selects (args := #[]) (mvT hZ (hw _ (List.mem_of_getElem? (i := 23) rfl)))) (mvT hZ (hw _ (List.mem_of_getElem? (i := 23) rfl))) (mvT hZ (hw _ (List.mem_of_getElem? (i := 22) rfl))) (by decide) (backOf (W := 0) (rm4 l Z a0 hw [] b_74 (2 : Int32) h_79 n0 z_79q f_81) hZ (hw _ (List.mem_of_getElem? (i := 24) rfl)) (hw _ (List.mem_of_getElem? (i := 4) rfl)) (by decide) (by decide)) q_80a q_80c (g := (mkF m 115 #[.val (.int k), .val (.long q0), .second, .val (.long q1), .second, .val (.long q2), .second, .val (.long q3), .second, .val (.long q4), .second, .val (.int (2 : Int32)), .val (.ref b_68), .val (.ref b_74), .unset] [(.ref b_74)])) rfl (by rw [hml]; rfl) (Steps.refl _) (argsL := []) (rest := []) (lenOf pd_1 rfl) rfl (by show 2 * 0 + _ ≤ _; exact Nat.le_of_eq rfl) (hb hby at_115) (fun _ _ => ⟨rfl, e_79, (by decide : 3 + 0 ≤ _), (by decide : 15 + 0 ≤ _)⟩)
    dsimp only [Pt.U, Pt.locs, Pt.cells, Pt.slots] at X_80 l_80 y_80 z_80 st_80 hQ_80
    obtain rfl : kc_80 = 3 := y_80
    obtain rfl : nc_80 = 15 := z_80
    obtain ⟨h_80, e_80⟩ : ∃ hh, T_80.heap = hh := ⟨_, rfl⟩
    rw [e_80] at hQ_80
    obtain ⟨rfl, N_80q, sm_80⟩ := hQ_80
    have N_80 : Fr n0 L_80 := by rw [l_80]; exact Fr.app N_79 N_80q
    refine Go.st (fun _ kk => st_80.trans kk) ?_
    rw [sm_80] at e_80
    show Go p e below s _ _ _ T_80 (mkF m 118 #[.val (.int k), .val (.long q0), .second, .val (.long q1), .second, .val (.long q2), .second, .val (.long q3), .second, .val (.long q4), .second, .val (.int (2 : Int32)), .val (.ref b_68), .val (.ref b_74), .unset] [(.int (2 : Int32))])
    refine Go.st (fun _ => XS.iload X_80.here hx rfl (hb hby at_118) rfl) ?_
    show Go p e below s _ _ _ T_80 (mkF m 120 #[.val (.int k), .val (.long q0), .second, .val (.long q1), .second, .val (.long q2), .second, .val (.long q3), .second, .val (.long q4), .second, .val (.int (2 : Int32)), .val (.ref b_68), .val (.ref b_74), .unset] [(.int (2 : Int32)), (.int (2 : Int32))])
    refine Go.st (fun _ => XS.icmpYes X_80.here hx rfl (pc0 := 120) (pc' := 125) rfl (hb hby at_120) rfl (teq (by decide : (2 : Int32) = (2 : Int32))).1 (by decide) (by decide)) ?_
    show Go p e below s _ _ _ T_80 (mkF m 125 #[.val (.int k), .val (.long q0), .second, .val (.long q1), .second, .val (.long q2), .second, .val (.long q3), .second, .val (.long q4), .second, .val (.int (2 : Int32)), .val (.ref b_68), .val (.ref b_74), .unset] [])
    refine Go.st (fun _ => XS.aload X_80.here hx rfl (hb hby at_125) rfl rfl) ?_
    show Go p e below s _ _ _ T_80 (mkF m 127 #[.val (.int k), .val (.long q0), .second, .val (.long q1), .second, .val (.long q2), .second, .val (.long q3), .second, .val (.long q4), .second, .val (.int (2 : Int32)), .val (.ref b_68), .val (.ref b_74), .unset] [(.ref b_74)])
    have f_84 := (p_78_1.keep K_79 (ninS ne_b_74_t__75 nin0))
    obtain ⟨cq_83, kq_83, q_83a, q_83b, q_83c⟩ := isOf hZ e_80 f_82
    obtain ⟨_, _, ⟨T_83, L_83, kc_83, nc_83⟩, -, X_83, ⟨Lc_83, hQ_83, l_83, y_83, z_83⟩, st_83⟩ := X_80.virtualBack hx (y := (⟨"com/example/moat/moat/xpath/Handles", "array", "()[J"⟩ : MethodName)) (z := (⟨"com/example/moat/moat/xpath/Handles", "array", "()[J"⟩ : MethodName)) hown (mvT hZ (hw _ (List.mem_of_getElem? (i := 25) rfl))) (mvT hZ (hw _ (List.mem_of_getElem? (i := 26) rfl))) (notFace_of_selects (args := #[]) (mvT hZ (hw _ (List.mem_of_getElem? (i := 28) rfl)))) (mvT hZ (hw _ (List.mem_of_getElem? (i := 28) rfl))) (mvT hZ (hw _ (List.mem_of_getElem? (i := 27) rfl))) (by decide) (backOf (W := 0) (rm5 l Z a0 hw [] b_74 t__75 h_79 n0 z_79q f_84) hZ (hw _ (List.mem_of_getElem? (i := 29) rfl)) (hw _ (List.mem_of_getElem? (i := 4) rfl)) (by decide) (by decide)) q_83a q_83c (g := (mkF m 127 #[.val (.int k), .val (.long q0), .second, .val (.long q1), .second, .val (.long q2), .second, .val (.long q3), .second, .val (.long q4), .second, .val (.int (2 : Int32)), .val (.ref b_68), .val (.ref b_74), .unset] [(.ref b_74)])) rfl (by rw [hml]; rfl) (Steps.refl _) (argsL := []) (rest := []) (lenOf pd_2 rfl) rfl (by show 2 * 0 + _ ≤ _; exact Nat.le_of_eq rfl) (hb hby at_127) (fun _ _ => ⟨rfl, e_80, (by decide : 3 + 0 ≤ _), (by decide : 15 + 0 ≤ _)⟩)
    dsimp only [Pt.U, Pt.locs, Pt.cells, Pt.slots] at X_83 l_83 y_83 z_83 st_83 hQ_83
    obtain rfl : kc_83 = 3 := y_83
    obtain rfl : nc_83 = 15 := z_83
    obtain ⟨h_83, e_83⟩ : ∃ hh, T_83.heap = hh := ⟨_, rfl⟩
    rw [e_83] at hQ_83
    obtain ⟨rfl, N_83q, sm_83⟩ := hQ_83
    have N_83 : Fr n0 L_83 := by rw [l_83]; exact Fr.app N_80 N_83q
    refine Go.st (fun _ kk => st_83.trans kk) ?_
    rw [sm_83] at e_83
    show Go p e below s _ _ _ T_83 (mkF m 130 #[.val (.int k), .val (.long q0), .second, .val (.long q1), .second, .val (.long q2), .second, .val (.long q3), .second, .val (.long q4), .second, .val (.int (2 : Int32)), .val (.ref b_68), .val (.ref b_74), .unset] [(.ref t__75)])
    refine Go.st (fun _ => XS.astore X_83.here hx rfl (hb hby at_130) rfl rfl (l' := #[.val (.int k), .val (.long q0), .second, .val (.long q1), .second, .val (.long q2), .second, .val (.long q3), .second, .val (.long q4), .second, .val (.int (2 : Int32)), .val (.ref b_68), .val (.ref b_74), .val (.ref t__75)]) rfl) ?_
    show Go p e below s _ _ _ T_83 (mkF m 132 #[.val (.int k), .val (.long q0), .second, .val (.long q1), .second, .val (.long q2), .second, .val (.long q3), .second, .val (.long q4), .second, .val (.int (2 : Int32)), .val (.ref b_68), .val (.ref b_74), .val (.ref t__75)] [])
    refine Go.st (fun _ => XS.aload X_83.here hx rfl (hb hby at_132) rfl rfl) ?_
    show Go p e below s _ _ _ T_83 (mkF m 134 #[.val (.int k), .val (.long q0), .second, .val (.long q1), .second, .val (.long q2), .second, .val (.long q3), .second, .val (.long q4), .second, .val (.int (2 : Int32)), .val (.ref b_68), .val (.ref b_74), .val (.ref t__75)] [(.ref t__75)])
    obtain ⟨cl_85, Ar_85, q_85, S_85, M_85, H_85, G_85⟩ := id p_79_0
    refine Go.st (fun tG => X_83.arraylength hx (by rw [e_83]; exact Ar_85.1) (State.isArrayOf_alike hZ.alike Ar_85.2.1) (g := (mkF m 134 #[.val (.int k), .val (.long q0), .second, .val (.long q1), .second, .val (.long q2), .second, .val (.long q3), .second, .val (.long q4), .second, .val (.int (2 : Int32)), .val (.ref b_68), .val (.ref b_74), .val (.ref t__75)] [(.ref t__75)])) rfl rfl (hb hby at_134) tG) ?_
    rw [len_of S_85 M_85]
    show Go p e below s _ _ _ T_83 (mkF m 135 #[.val (.int k), .val (.long q0), .second, .val (.long q1), .second, .val (.long q2), .second, .val (.long q3), .second, .val (.long q4), .second, .val (.int (2 : Int32)), .val (.ref b_68), .val (.ref b_74), .val (.ref t__75)] [(.int (8 : Int32))])
    refine Go.st (fun _ => XS.bipush X_83.here hx rfl (hb hby at_135)) ?_
    show Go p e below s _ _ _ T_83 (mkF m 137 #[.val (.int k), .val (.long q0), .second, .val (.long q1), .second, .val (.long q2), .second, .val (.long q3), .second, .val (.long q4), .second, .val (.int (2 : Int32)), .val (.ref b_68), .val (.ref b_74), .val (.ref t__75)] [(.int (8 : Int32)), (.int (8 : Int32))])
    refine Go.st (fun _ => XS.icmpYes X_83.here hx rfl (pc0 := 137) (pc' := 142) rfl (hb hby at_137) rfl (teq (by decide : (8 : Int32) = (8 : Int32))).1 (by decide) (by decide)) ?_
    show Go p e below s _ _ _ T_83 (mkF m 142 #[.val (.int k), .val (.long q0), .second, .val (.long q1), .second, .val (.long q2), .second, .val (.long q3), .second, .val (.long q4), .second, .val (.int (2 : Int32)), .val (.ref b_68), .val (.ref b_74), .val (.ref t__75)] [])
    refine Go.st (fun _ => XS.aload X_83.here hx rfl (hb hby at_142) rfl rfl) ?_
    show Go p e below s _ _ _ T_83 (mkF m 144 #[.val (.int k), .val (.long q0), .second, .val (.long q1), .second, .val (.long q2), .second, .val (.long q3), .second, .val (.long q4), .second, .val (.int (2 : Int32)), .val (.ref b_68), .val (.ref b_74), .val (.ref t__75)] [(.ref t__75)])
    refine Go.st (fun _ => XS.iconst X_83.here hx rfl (hb hby at_144)) ?_
    show Go p e below s _ _ _ T_83 (mkF m 145 #[.val (.int k), .val (.long q0), .second, .val (.long q1), .second, .val (.long q2), .second, .val (.long q3), .second, .val (.long q4), .second, .val (.int (2 : Int32)), .val (.ref b_68), .val (.ref b_74), .val (.ref t__75)] [(.int (0 : Int32)), (.ref t__75)])
    obtain ⟨cl_86, Ar_86, q_86, S_86, M_86, H_86, G_86⟩ := id p_79_0
    have hin_86 : ¬ ((0 : Int32) < 0 ∨ cl_86.slots.size ≤ ((0 : Int32)).toNatClampNeg) := inb_of S_86 ⟨by decide, by decide⟩
    have hat_86 : cl_86.slots[((0 : Int32)).toNatClampNeg]? = some (.long q1) := H_86.at hin_86 rfl
    refine Go.st (fun tG => X_83.laload hx (j := (0 : Int32)) (v := (.long q1)) (by rw [e_83]; exact Ar_86.1) (State.isArrayOf_alike hZ.alike Ar_86.2.1) Ar_86.2.2 hin_86 hat_86 (g := (mkF m 145 #[.val (.int k), .val (.long q0), .second, .val (.long q1), .second, .val (.long q2), .second, .val (.long q3), .second, .val (.long q4), .second, .val (.int (2 : Int32)), .val (.ref b_68), .val (.ref b_74), .val (.ref t__75)] [(.int (0 : Int32)), (.ref t__75)])) rfl rfl (hb hby at_145) tG) ?_
    show Go p e below s _ _ _ T_83 (mkF m 146 #[.val (.int k), .val (.long q0), .second, .val (.long q1), .second, .val (.long q2), .second, .val (.long q3), .second, .val (.long q4), .second, .val (.int (2 : Int32)), .val (.ref b_68), .val (.ref b_74), .val (.ref t__75)] [(.long q1)])
    refine Go.st (fun _ => XS.aload X_83.here hx rfl (hb hby at_146) rfl rfl) ?_
    show Go p e below s _ _ _ T_83 (mkF m 148 #[.val (.int k), .val (.long q0), .second, .val (.long q1), .second, .val (.long q2), .second, .val (.long q3), .second, .val (.long q4), .second, .val (.int (2 : Int32)), .val (.ref b_68), .val (.ref b_74), .val (.ref t__75)] [(.ref b_68), (.long q1)])
    refine Go.st (fun _ => XS.iload X_83.here hx rfl (hb hby at_148) rfl) ?_
    show Go p e below s _ _ _ T_83 (mkF m 150 #[.val (.int k), .val (.long q0), .second, .val (.long q1), .second, .val (.long q2), .second, .val (.long q3), .second, .val (.long q4), .second, .val (.int (2 : Int32)), .val (.ref b_68), .val (.ref b_74), .val (.ref t__75)] [(.int (2 : Int32)), (.ref b_68), (.long q1)])
    refine Go.st (fun _ => XS.iconst X_83.here hx rfl (hb hby at_150)) ?_
    show Go p e below s _ _ _ T_83 (mkF m 151 #[.val (.int k), .val (.long q0), .second, .val (.long q1), .second, .val (.long q2), .second, .val (.long q3), .second, .val (.long q4), .second, .val (.int (2 : Int32)), .val (.ref b_68), .val (.ref b_74), .val (.ref t__75)] [(.int (0 : Int32)), (.int (2 : Int32)), (.ref b_68), (.long q1)])
    have f_88 := ((((f_76.keep K_75 (ninS ne_b_68_b_74 nin0)).keep K_77 (ninS ne_b_68_b_74 (ninS ne_b_68_t__75 nin0))).keep K_78 (ninS ne_b_68_b_74 (ninS ne_b_68_t__75 nin0))).keep K_79 (ninS ne_b_68_t__75 nin0))
    obtain ⟨_, _, ⟨T_87, L_87, kc_87, nc_87⟩, -, X_87, ⟨Lc_87, hQ_87, l_87, y_87, z_87⟩, st_87⟩ := Jvm.LawKit.callS X_83 hx (y := (⟨"com/example/moat/moat/xpath/HandlesReversePinLaw", "exp", "([JII)J"⟩ : MethodName)) hown (mvT hZ (hw _ (List.mem_of_getElem? (i := 30) rfl))) (mvT hZ (hw _ (List.mem_of_getElem? (i := 31) rfl))) (mvT hZ (hw _ (List.mem_of_getElem? (i := 32) rfl))) (mvT hZ (hw _ (List.mem_of_getElem? (i := 33) rfl))) (by decide) (backOf (W := 2) (rmXa l Z a0 hw [] b_68 (2 : Int32) (0 : Int32) kA_68 (5 : Int32) [(.long q0), (.long q1), (.long q2), (.long q3), (.long q4)] (.long (0 : Int64)) q1 h_79 n0 z_79q f_88 (by decide) (by decide) rfl) hZ (hw _ (List.mem_of_getElem? (i := 33) rfl)) (hw _ (List.mem_of_getElem? (i := 32) rfl)) (by decide) (by decide)) (g := (mkF m 151 #[.val (.int k), .val (.long q0), .second, .val (.long q1), .second, .val (.long q2), .second, .val (.long q3), .second, .val (.long q4), .second, .val (.int (2 : Int32)), .val (.ref b_68), .val (.ref b_74), .val (.ref t__75)] [(.int (0 : Int32)), (.int (2 : Int32)), (.ref b_68), (.long q1)])) rfl (by rw [hml]; rfl) (argsL := [(.ref b_68), (.int (2 : Int32)), (.int (0 : Int32))]) (rest := [(.long q1)]) (lenOf pd_3 rfl) rfl (by show 2 * 0 + _ ≤ _; exact Nat.le_of_eq rfl) (hb hby at_151) (fun _ _ => ⟨rfl, e_83, (by decide : 3 + 0 ≤ _), (by decide : 15 + 0 ≤ _)⟩)
    dsimp only [Pt.U, Pt.locs, Pt.cells, Pt.slots] at X_87 l_87 y_87 z_87 st_87 hQ_87
    obtain rfl : kc_87 = 3 := y_87
    obtain rfl : nc_87 = 15 := z_87
    obtain ⟨h_87, e_87⟩ : ∃ hh, T_87.heap = hh := ⟨_, rfl⟩
    rw [e_87] at hQ_87
    obtain ⟨rfl, N_87q, sm_87⟩ := hQ_87
    have N_87 : Fr n0 L_87 := by rw [l_87]; exact Fr.app N_83 N_87q
    refine Go.st st_87 ?_
    rw [sm_87] at e_87
    show Go p e below s _ _ _ T_87 (mkF m 154 #[.val (.int k), .val (.long q0), .second, .val (.long q1), .second, .val (.long q2), .second, .val (.long q3), .second, .val (.long q4), .second, .val (.int (2 : Int32)), .val (.ref b_68), .val (.ref b_74), .val (.ref t__75)] [(.long q1), (.long q1)])
    refine Go.st (fun _ => XS.lcmp X_87.here hx rfl (hb hby at_154) rfl) ?_
    show Go p e below s _ _ _ T_87 (mkF m 155 #[.val (.int k), .val (.long q0), .second, .val (.long q1), .second, .val (.long q2), .second, .val (.long q3), .second, .val (.long q4), .second, .val (.int (2 : Int32)), .val (.ref b_68), .val (.ref b_74), .val (.ref t__75)] [(.int (lcmpW q1 q1))])
    refine Go.st (fun _ => XS.ifNo X_87.here hx rfl (hb hby at_155) rfl ((if0 _ _).trans (teq ((lw_eq q1 q1).mpr (rfl : q1 = q1))).2)) ?_
    show Go p e below s _ _ _ T_87 (mkF m 158 #[.val (.int k), .val (.long q0), .second, .val (.long q1), .second, .val (.long q2), .second, .val (.long q3), .second, .val (.long q4), .second, .val (.int (2 : Int32)), .val (.ref b_68), .val (.ref b_74), .val (.ref t__75)] [])
    refine Go.st (fun _ => XS.aload X_87.here hx rfl (hb hby at_158) rfl rfl) ?_
    show Go p e below s _ _ _ T_87 (mkF m 160 #[.val (.int k), .val (.long q0), .second, .val (.long q1), .second, .val (.long q2), .second, .val (.long q3), .second, .val (.long q4), .second, .val (.int (2 : Int32)), .val (.ref b_68), .val (.ref b_74), .val (.ref t__75)] [(.ref t__75)])
    refine Go.st (fun _ => XS.iconst X_87.here hx rfl (hb hby at_160)) ?_
    show Go p e below s _ _ _ T_87 (mkF m 161 #[.val (.int k), .val (.long q0), .second, .val (.long q1), .second, .val (.long q2), .second, .val (.long q3), .second, .val (.long q4), .second, .val (.int (2 : Int32)), .val (.ref b_68), .val (.ref b_74), .val (.ref t__75)] [(.int (1 : Int32)), (.ref t__75)])
    obtain ⟨cl_89, Ar_89, q_89, S_89, M_89, H_89, G_89⟩ := id p_79_0
    have hin_89 : ¬ ((1 : Int32) < 0 ∨ cl_89.slots.size ≤ ((1 : Int32)).toNatClampNeg) := inb_of S_89 ⟨by decide, by decide⟩
    have hat_89 : cl_89.slots[((1 : Int32)).toNatClampNeg]? = some (.long q0) := H_89.at hin_89 rfl
    refine Go.st (fun tG => X_87.laload hx (j := (1 : Int32)) (v := (.long q0)) (by rw [e_87]; exact Ar_89.1) (State.isArrayOf_alike hZ.alike Ar_89.2.1) Ar_89.2.2 hin_89 hat_89 (g := (mkF m 161 #[.val (.int k), .val (.long q0), .second, .val (.long q1), .second, .val (.long q2), .second, .val (.long q3), .second, .val (.long q4), .second, .val (.int (2 : Int32)), .val (.ref b_68), .val (.ref b_74), .val (.ref t__75)] [(.int (1 : Int32)), (.ref t__75)])) rfl rfl (hb hby at_161) tG) ?_
    show Go p e below s _ _ _ T_87 (mkF m 162 #[.val (.int k), .val (.long q0), .second, .val (.long q1), .second, .val (.long q2), .second, .val (.long q3), .second, .val (.long q4), .second, .val (.int (2 : Int32)), .val (.ref b_68), .val (.ref b_74), .val (.ref t__75)] [(.long q0)])
    refine Go.st (fun _ => XS.aload X_87.here hx rfl (hb hby at_162) rfl rfl) ?_
    show Go p e below s _ _ _ T_87 (mkF m 164 #[.val (.int k), .val (.long q0), .second, .val (.long q1), .second, .val (.long q2), .second, .val (.long q3), .second, .val (.long q4), .second, .val (.int (2 : Int32)), .val (.ref b_68), .val (.ref b_74), .val (.ref t__75)] [(.ref b_68), (.long q0)])
    refine Go.st (fun _ => XS.iload X_87.here hx rfl (hb hby at_164) rfl) ?_
    show Go p e below s _ _ _ T_87 (mkF m 166 #[.val (.int k), .val (.long q0), .second, .val (.long q1), .second, .val (.long q2), .second, .val (.long q3), .second, .val (.long q4), .second, .val (.int (2 : Int32)), .val (.ref b_68), .val (.ref b_74), .val (.ref t__75)] [(.int (2 : Int32)), (.ref b_68), (.long q0)])
    refine Go.st (fun _ => XS.iconst X_87.here hx rfl (hb hby at_166)) ?_
    show Go p e below s _ _ _ T_87 (mkF m 167 #[.val (.int k), .val (.long q0), .second, .val (.long q1), .second, .val (.long q2), .second, .val (.long q3), .second, .val (.long q4), .second, .val (.int (2 : Int32)), .val (.ref b_68), .val (.ref b_74), .val (.ref t__75)] [(.int (1 : Int32)), (.int (2 : Int32)), (.ref b_68), (.long q0)])
    obtain ⟨_, _, ⟨T_90, L_90, kc_90, nc_90⟩, -, X_90, ⟨Lc_90, hQ_90, l_90, y_90, z_90⟩, st_90⟩ := Jvm.LawKit.callS X_87 hx (y := (⟨"com/example/moat/moat/xpath/HandlesReversePinLaw", "exp", "([JII)J"⟩ : MethodName)) hown (mvT hZ (hw _ (List.mem_of_getElem? (i := 30) rfl))) (mvT hZ (hw _ (List.mem_of_getElem? (i := 31) rfl))) (mvT hZ (hw _ (List.mem_of_getElem? (i := 32) rfl))) (mvT hZ (hw _ (List.mem_of_getElem? (i := 33) rfl))) (by decide) (backOf (W := 2) (rmXa l Z a0 hw [] b_68 (2 : Int32) (1 : Int32) kA_68 (5 : Int32) [(.long q0), (.long q1), (.long q2), (.long q3), (.long q4)] (.long (0 : Int64)) q0 h_79 n0 z_79q f_88 (by decide) (by decide) rfl) hZ (hw _ (List.mem_of_getElem? (i := 33) rfl)) (hw _ (List.mem_of_getElem? (i := 32) rfl)) (by decide) (by decide)) (g := (mkF m 167 #[.val (.int k), .val (.long q0), .second, .val (.long q1), .second, .val (.long q2), .second, .val (.long q3), .second, .val (.long q4), .second, .val (.int (2 : Int32)), .val (.ref b_68), .val (.ref b_74), .val (.ref t__75)] [(.int (1 : Int32)), (.int (2 : Int32)), (.ref b_68), (.long q0)])) rfl (by rw [hml]; rfl) (argsL := [(.ref b_68), (.int (2 : Int32)), (.int (1 : Int32))]) (rest := [(.long q0)]) (lenOf pd_3 rfl) rfl (by show 2 * 0 + _ ≤ _; exact Nat.le_of_eq rfl) (hb hby at_167) (fun _ _ => ⟨rfl, e_87, (by decide : 3 + 0 ≤ _), (by decide : 15 + 0 ≤ _)⟩)
    dsimp only [Pt.U, Pt.locs, Pt.cells, Pt.slots] at X_90 l_90 y_90 z_90 st_90 hQ_90
    obtain rfl : kc_90 = 3 := y_90
    obtain rfl : nc_90 = 15 := z_90
    obtain ⟨h_90, e_90⟩ : ∃ hh, T_90.heap = hh := ⟨_, rfl⟩
    rw [e_90] at hQ_90
    obtain ⟨rfl, N_90q, sm_90⟩ := hQ_90
    have N_90 : Fr n0 L_90 := by rw [l_90]; exact Fr.app N_87 N_90q
    refine Go.st st_90 ?_
    rw [sm_90] at e_90
    show Go p e below s _ _ _ T_90 (mkF m 170 #[.val (.int k), .val (.long q0), .second, .val (.long q1), .second, .val (.long q2), .second, .val (.long q3), .second, .val (.long q4), .second, .val (.int (2 : Int32)), .val (.ref b_68), .val (.ref b_74), .val (.ref t__75)] [(.long q0), (.long q0)])
    refine Go.st (fun _ => XS.lcmp X_90.here hx rfl (hb hby at_170) rfl) ?_
    show Go p e below s _ _ _ T_90 (mkF m 171 #[.val (.int k), .val (.long q0), .second, .val (.long q1), .second, .val (.long q2), .second, .val (.long q3), .second, .val (.long q4), .second, .val (.int (2 : Int32)), .val (.ref b_68), .val (.ref b_74), .val (.ref t__75)] [(.int (lcmpW q0 q0))])
    refine Go.st (fun _ => XS.ifNo X_90.here hx rfl (hb hby at_171) rfl ((if0 _ _).trans (teq ((lw_eq q0 q0).mpr (rfl : q0 = q0))).2)) ?_
    show Go p e below s _ _ _ T_90 (mkF m 174 #[.val (.int k), .val (.long q0), .second, .val (.long q1), .second, .val (.long q2), .second, .val (.long q3), .second, .val (.long q4), .second, .val (.int (2 : Int32)), .val (.ref b_68), .val (.ref b_74), .val (.ref t__75)] [])
    refine Go.st (fun _ => XS.aload X_90.here hx rfl (hb hby at_174) rfl rfl) ?_
    show Go p e below s _ _ _ T_90 (mkF m 176 #[.val (.int k), .val (.long q0), .second, .val (.long q1), .second, .val (.long q2), .second, .val (.long q3), .second, .val (.long q4), .second, .val (.int (2 : Int32)), .val (.ref b_68), .val (.ref b_74), .val (.ref t__75)] [(.ref t__75)])
    refine Go.st (fun _ => XS.iconst X_90.here hx rfl (hb hby at_176)) ?_
    show Go p e below s _ _ _ T_90 (mkF m 177 #[.val (.int k), .val (.long q0), .second, .val (.long q1), .second, .val (.long q2), .second, .val (.long q3), .second, .val (.long q4), .second, .val (.int (2 : Int32)), .val (.ref b_68), .val (.ref b_74), .val (.ref t__75)] [(.int (2 : Int32)), (.ref t__75)])
    obtain ⟨cl_91, Ar_91, q_91, S_91, M_91, H_91, G_91⟩ := id p_79_0
    have hin_91 : ¬ ((2 : Int32) < 0 ∨ cl_91.slots.size ≤ ((2 : Int32)).toNatClampNeg) := inb_of S_91 ⟨by decide, by decide⟩
    have hat_91 : cl_91.slots[((2 : Int32)).toNatClampNeg]? = some (.long (0 : Int64)) := H_91.at hin_91 rfl
    refine Go.st (fun tG => X_90.laload hx (j := (2 : Int32)) (v := (.long (0 : Int64))) (by rw [e_90]; exact Ar_91.1) (State.isArrayOf_alike hZ.alike Ar_91.2.1) Ar_91.2.2 hin_91 hat_91 (g := (mkF m 177 #[.val (.int k), .val (.long q0), .second, .val (.long q1), .second, .val (.long q2), .second, .val (.long q3), .second, .val (.long q4), .second, .val (.int (2 : Int32)), .val (.ref b_68), .val (.ref b_74), .val (.ref t__75)] [(.int (2 : Int32)), (.ref t__75)])) rfl rfl (hb hby at_177) tG) ?_
    show Go p e below s _ _ _ T_90 (mkF m 178 #[.val (.int k), .val (.long q0), .second, .val (.long q1), .second, .val (.long q2), .second, .val (.long q3), .second, .val (.long q4), .second, .val (.int (2 : Int32)), .val (.ref b_68), .val (.ref b_74), .val (.ref t__75)] [(.long (0 : Int64))])
    refine Go.st (fun _ => XS.aload X_90.here hx rfl (hb hby at_178) rfl rfl) ?_
    show Go p e below s _ _ _ T_90 (mkF m 180 #[.val (.int k), .val (.long q0), .second, .val (.long q1), .second, .val (.long q2), .second, .val (.long q3), .second, .val (.long q4), .second, .val (.int (2 : Int32)), .val (.ref b_68), .val (.ref b_74), .val (.ref t__75)] [(.ref b_68), (.long (0 : Int64))])
    refine Go.st (fun _ => XS.iload X_90.here hx rfl (hb hby at_180) rfl) ?_
    show Go p e below s _ _ _ T_90 (mkF m 182 #[.val (.int k), .val (.long q0), .second, .val (.long q1), .second, .val (.long q2), .second, .val (.long q3), .second, .val (.long q4), .second, .val (.int (2 : Int32)), .val (.ref b_68), .val (.ref b_74), .val (.ref t__75)] [(.int (2 : Int32)), (.ref b_68), (.long (0 : Int64))])
    refine Go.st (fun _ => XS.iconst X_90.here hx rfl (hb hby at_182)) ?_
    show Go p e below s _ _ _ T_90 (mkF m 183 #[.val (.int k), .val (.long q0), .second, .val (.long q1), .second, .val (.long q2), .second, .val (.long q3), .second, .val (.long q4), .second, .val (.int (2 : Int32)), .val (.ref b_68), .val (.ref b_74), .val (.ref t__75)] [(.int (2 : Int32)), (.int (2 : Int32)), (.ref b_68), (.long (0 : Int64))])
    obtain ⟨_, _, ⟨T_92, L_92, kc_92, nc_92⟩, -, X_92, ⟨Lc_92, hQ_92, l_92, y_92, z_92⟩, st_92⟩ := Jvm.LawKit.callS X_90 hx (y := (⟨"com/example/moat/moat/xpath/HandlesReversePinLaw", "exp", "([JII)J"⟩ : MethodName)) hown (mvT hZ (hw _ (List.mem_of_getElem? (i := 30) rfl))) (mvT hZ (hw _ (List.mem_of_getElem? (i := 31) rfl))) (mvT hZ (hw _ (List.mem_of_getElem? (i := 32) rfl))) (mvT hZ (hw _ (List.mem_of_getElem? (i := 33) rfl))) (by decide) (backOf (W := 2) (rmXb l Z a0 hw [] b_68 (2 : Int32) (2 : Int32) h_79 n0 z_79q (by decide)) hZ (hw _ (List.mem_of_getElem? (i := 33) rfl)) (hw _ (List.mem_of_getElem? (i := 32) rfl)) (by decide) (by decide)) (g := (mkF m 183 #[.val (.int k), .val (.long q0), .second, .val (.long q1), .second, .val (.long q2), .second, .val (.long q3), .second, .val (.long q4), .second, .val (.int (2 : Int32)), .val (.ref b_68), .val (.ref b_74), .val (.ref t__75)] [(.int (2 : Int32)), (.int (2 : Int32)), (.ref b_68), (.long (0 : Int64))])) rfl (by rw [hml]; rfl) (argsL := [(.ref b_68), (.int (2 : Int32)), (.int (2 : Int32))]) (rest := [(.long (0 : Int64))]) (lenOf pd_3 rfl) rfl (by show 2 * 0 + _ ≤ _; exact Nat.le_of_eq rfl) (hb hby at_183) (fun _ _ => ⟨rfl, e_90, (by decide : 3 + 0 ≤ _), (by decide : 15 + 0 ≤ _)⟩)
    dsimp only [Pt.U, Pt.locs, Pt.cells, Pt.slots] at X_92 l_92 y_92 z_92 st_92 hQ_92
    obtain rfl : kc_92 = 3 := y_92
    obtain rfl : nc_92 = 15 := z_92
    obtain ⟨h_92, e_92⟩ : ∃ hh, T_92.heap = hh := ⟨_, rfl⟩
    rw [e_92] at hQ_92
    obtain ⟨rfl, N_92q, sm_92⟩ := hQ_92
    have N_92 : Fr n0 L_92 := by rw [l_92]; exact Fr.app N_90 N_92q
    refine Go.st st_92 ?_
    rw [sm_92] at e_92
    show Go p e below s _ _ _ T_92 (mkF m 186 #[.val (.int k), .val (.long q0), .second, .val (.long q1), .second, .val (.long q2), .second, .val (.long q3), .second, .val (.long q4), .second, .val (.int (2 : Int32)), .val (.ref b_68), .val (.ref b_74), .val (.ref t__75)] [(.long (0 : Int64)), (.long (0 : Int64))])
    refine Go.st (fun _ => XS.lcmp X_92.here hx rfl (hb hby at_186) rfl) ?_
    show Go p e below s _ _ _ T_92 (mkF m 187 #[.val (.int k), .val (.long q0), .second, .val (.long q1), .second, .val (.long q2), .second, .val (.long q3), .second, .val (.long q4), .second, .val (.int (2 : Int32)), .val (.ref b_68), .val (.ref b_74), .val (.ref t__75)] [(.int (lcmpW (0 : Int64) (0 : Int64)))])
    refine Go.st (fun _ => XS.ifNo X_92.here hx rfl (hb hby at_187) rfl ((if0 _ _).trans (teq ((lw_eq (0 : Int64) (0 : Int64)).mpr (by decide : (0 : Int64) = (0 : Int64)))).2)) ?_
    show Go p e below s _ _ _ T_92 (mkF m 190 #[.val (.int k), .val (.long q0), .second, .val (.long q1), .second, .val (.long q2), .second, .val (.long q3), .second, .val (.long q4), .second, .val (.int (2 : Int32)), .val (.ref b_68), .val (.ref b_74), .val (.ref t__75)] [])
    refine Go.st (fun _ => XS.aload X_92.here hx rfl (hb hby at_190) rfl rfl) ?_
    show Go p e below s _ _ _ T_92 (mkF m 192 #[.val (.int k), .val (.long q0), .second, .val (.long q1), .second, .val (.long q2), .second, .val (.long q3), .second, .val (.long q4), .second, .val (.int (2 : Int32)), .val (.ref b_68), .val (.ref b_74), .val (.ref t__75)] [(.ref t__75)])
    refine Go.st (fun _ => XS.iconst X_92.here hx rfl (hb hby at_192)) ?_
    show Go p e below s _ _ _ T_92 (mkF m 193 #[.val (.int k), .val (.long q0), .second, .val (.long q1), .second, .val (.long q2), .second, .val (.long q3), .second, .val (.long q4), .second, .val (.int (2 : Int32)), .val (.ref b_68), .val (.ref b_74), .val (.ref t__75)] [(.int (3 : Int32)), (.ref t__75)])
    obtain ⟨cl_93, Ar_93, q_93, S_93, M_93, H_93, G_93⟩ := id p_79_0
    have hin_93 : ¬ ((3 : Int32) < 0 ∨ cl_93.slots.size ≤ ((3 : Int32)).toNatClampNeg) := inb_of S_93 ⟨by decide, by decide⟩
    have hat_93 : cl_93.slots[((3 : Int32)).toNatClampNeg]? = some (.long (0 : Int64)) := H_93.at hin_93 rfl
    refine Go.st (fun tG => X_92.laload hx (j := (3 : Int32)) (v := (.long (0 : Int64))) (by rw [e_92]; exact Ar_93.1) (State.isArrayOf_alike hZ.alike Ar_93.2.1) Ar_93.2.2 hin_93 hat_93 (g := (mkF m 193 #[.val (.int k), .val (.long q0), .second, .val (.long q1), .second, .val (.long q2), .second, .val (.long q3), .second, .val (.long q4), .second, .val (.int (2 : Int32)), .val (.ref b_68), .val (.ref b_74), .val (.ref t__75)] [(.int (3 : Int32)), (.ref t__75)])) rfl rfl (hb hby at_193) tG) ?_
    show Go p e below s _ _ _ T_92 (mkF m 194 #[.val (.int k), .val (.long q0), .second, .val (.long q1), .second, .val (.long q2), .second, .val (.long q3), .second, .val (.long q4), .second, .val (.int (2 : Int32)), .val (.ref b_68), .val (.ref b_74), .val (.ref t__75)] [(.long (0 : Int64))])
    refine Go.st (fun _ => XS.aload X_92.here hx rfl (hb hby at_194) rfl rfl) ?_
    show Go p e below s _ _ _ T_92 (mkF m 196 #[.val (.int k), .val (.long q0), .second, .val (.long q1), .second, .val (.long q2), .second, .val (.long q3), .second, .val (.long q4), .second, .val (.int (2 : Int32)), .val (.ref b_68), .val (.ref b_74), .val (.ref t__75)] [(.ref b_68), (.long (0 : Int64))])
    refine Go.st (fun _ => XS.iload X_92.here hx rfl (hb hby at_196) rfl) ?_
    show Go p e below s _ _ _ T_92 (mkF m 198 #[.val (.int k), .val (.long q0), .second, .val (.long q1), .second, .val (.long q2), .second, .val (.long q3), .second, .val (.long q4), .second, .val (.int (2 : Int32)), .val (.ref b_68), .val (.ref b_74), .val (.ref t__75)] [(.int (2 : Int32)), (.ref b_68), (.long (0 : Int64))])
    refine Go.st (fun _ => XS.iconst X_92.here hx rfl (hb hby at_198)) ?_
    show Go p e below s _ _ _ T_92 (mkF m 199 #[.val (.int k), .val (.long q0), .second, .val (.long q1), .second, .val (.long q2), .second, .val (.long q3), .second, .val (.long q4), .second, .val (.int (2 : Int32)), .val (.ref b_68), .val (.ref b_74), .val (.ref t__75)] [(.int (3 : Int32)), (.int (2 : Int32)), (.ref b_68), (.long (0 : Int64))])
    obtain ⟨_, _, ⟨T_94, L_94, kc_94, nc_94⟩, -, X_94, ⟨Lc_94, hQ_94, l_94, y_94, z_94⟩, st_94⟩ := Jvm.LawKit.callS X_92 hx (y := (⟨"com/example/moat/moat/xpath/HandlesReversePinLaw", "exp", "([JII)J"⟩ : MethodName)) hown (mvT hZ (hw _ (List.mem_of_getElem? (i := 30) rfl))) (mvT hZ (hw _ (List.mem_of_getElem? (i := 31) rfl))) (mvT hZ (hw _ (List.mem_of_getElem? (i := 32) rfl))) (mvT hZ (hw _ (List.mem_of_getElem? (i := 33) rfl))) (by decide) (backOf (W := 2) (rmXb l Z a0 hw [] b_68 (2 : Int32) (3 : Int32) h_79 n0 z_79q (by decide)) hZ (hw _ (List.mem_of_getElem? (i := 33) rfl)) (hw _ (List.mem_of_getElem? (i := 32) rfl)) (by decide) (by decide)) (g := (mkF m 199 #[.val (.int k), .val (.long q0), .second, .val (.long q1), .second, .val (.long q2), .second, .val (.long q3), .second, .val (.long q4), .second, .val (.int (2 : Int32)), .val (.ref b_68), .val (.ref b_74), .val (.ref t__75)] [(.int (3 : Int32)), (.int (2 : Int32)), (.ref b_68), (.long (0 : Int64))])) rfl (by rw [hml]; rfl) (argsL := [(.ref b_68), (.int (2 : Int32)), (.int (3 : Int32))]) (rest := [(.long (0 : Int64))]) (lenOf pd_3 rfl) rfl (by show 2 * 0 + _ ≤ _; exact Nat.le_of_eq rfl) (hb hby at_199) (fun _ _ => ⟨rfl, e_92, (by decide : 3 + 0 ≤ _), (by decide : 15 + 0 ≤ _)⟩)
    dsimp only [Pt.U, Pt.locs, Pt.cells, Pt.slots] at X_94 l_94 y_94 z_94 st_94 hQ_94
    obtain rfl : kc_94 = 3 := y_94
    obtain rfl : nc_94 = 15 := z_94
    obtain ⟨h_94, e_94⟩ : ∃ hh, T_94.heap = hh := ⟨_, rfl⟩
    rw [e_94] at hQ_94
    obtain ⟨rfl, N_94q, sm_94⟩ := hQ_94
    have N_94 : Fr n0 L_94 := by rw [l_94]; exact Fr.app N_92 N_94q
    refine Go.st st_94 ?_
    rw [sm_94] at e_94
    show Go p e below s _ _ _ T_94 (mkF m 202 #[.val (.int k), .val (.long q0), .second, .val (.long q1), .second, .val (.long q2), .second, .val (.long q3), .second, .val (.long q4), .second, .val (.int (2 : Int32)), .val (.ref b_68), .val (.ref b_74), .val (.ref t__75)] [(.long (0 : Int64)), (.long (0 : Int64))])
    refine Go.st (fun _ => XS.lcmp X_94.here hx rfl (hb hby at_202) rfl) ?_
    show Go p e below s _ _ _ T_94 (mkF m 203 #[.val (.int k), .val (.long q0), .second, .val (.long q1), .second, .val (.long q2), .second, .val (.long q3), .second, .val (.long q4), .second, .val (.int (2 : Int32)), .val (.ref b_68), .val (.ref b_74), .val (.ref t__75)] [(.int (lcmpW (0 : Int64) (0 : Int64)))])
    refine Go.st (fun _ => XS.ifNo X_94.here hx rfl (hb hby at_203) rfl ((if0 _ _).trans (teq ((lw_eq (0 : Int64) (0 : Int64)).mpr (by decide : (0 : Int64) = (0 : Int64)))).2)) ?_
    show Go p e below s _ _ _ T_94 (mkF m 206 #[.val (.int k), .val (.long q0), .second, .val (.long q1), .second, .val (.long q2), .second, .val (.long q3), .second, .val (.long q4), .second, .val (.int (2 : Int32)), .val (.ref b_68), .val (.ref b_74), .val (.ref t__75)] [])
    refine Go.st (fun _ => XS.aload X_94.here hx rfl (hb hby at_206) rfl rfl) ?_
    show Go p e below s _ _ _ T_94 (mkF m 208 #[.val (.int k), .val (.long q0), .second, .val (.long q1), .second, .val (.long q2), .second, .val (.long q3), .second, .val (.long q4), .second, .val (.int (2 : Int32)), .val (.ref b_68), .val (.ref b_74), .val (.ref t__75)] [(.ref t__75)])
    refine Go.st (fun _ => XS.iconst X_94.here hx rfl (hb hby at_208)) ?_
    show Go p e below s _ _ _ T_94 (mkF m 209 #[.val (.int k), .val (.long q0), .second, .val (.long q1), .second, .val (.long q2), .second, .val (.long q3), .second, .val (.long q4), .second, .val (.int (2 : Int32)), .val (.ref b_68), .val (.ref b_74), .val (.ref t__75)] [(.int (4 : Int32)), (.ref t__75)])
    obtain ⟨cl_95, Ar_95, q_95, S_95, M_95, H_95, G_95⟩ := id p_79_0
    have hin_95 : ¬ ((4 : Int32) < 0 ∨ cl_95.slots.size ≤ ((4 : Int32)).toNatClampNeg) := inb_of S_95 ⟨by decide, by decide⟩
    have hat_95 : cl_95.slots[((4 : Int32)).toNatClampNeg]? = some (.long (0 : Int64)) := H_95.at hin_95 rfl
    refine Go.st (fun tG => X_94.laload hx (j := (4 : Int32)) (v := (.long (0 : Int64))) (by rw [e_94]; exact Ar_95.1) (State.isArrayOf_alike hZ.alike Ar_95.2.1) Ar_95.2.2 hin_95 hat_95 (g := (mkF m 209 #[.val (.int k), .val (.long q0), .second, .val (.long q1), .second, .val (.long q2), .second, .val (.long q3), .second, .val (.long q4), .second, .val (.int (2 : Int32)), .val (.ref b_68), .val (.ref b_74), .val (.ref t__75)] [(.int (4 : Int32)), (.ref t__75)])) rfl rfl (hb hby at_209) tG) ?_
    show Go p e below s _ _ _ T_94 (mkF m 210 #[.val (.int k), .val (.long q0), .second, .val (.long q1), .second, .val (.long q2), .second, .val (.long q3), .second, .val (.long q4), .second, .val (.int (2 : Int32)), .val (.ref b_68), .val (.ref b_74), .val (.ref t__75)] [(.long (0 : Int64))])
    refine Go.st (fun _ => XS.aload X_94.here hx rfl (hb hby at_210) rfl rfl) ?_
    show Go p e below s _ _ _ T_94 (mkF m 212 #[.val (.int k), .val (.long q0), .second, .val (.long q1), .second, .val (.long q2), .second, .val (.long q3), .second, .val (.long q4), .second, .val (.int (2 : Int32)), .val (.ref b_68), .val (.ref b_74), .val (.ref t__75)] [(.ref b_68), (.long (0 : Int64))])
    refine Go.st (fun _ => XS.iload X_94.here hx rfl (hb hby at_212) rfl) ?_
    show Go p e below s _ _ _ T_94 (mkF m 214 #[.val (.int k), .val (.long q0), .second, .val (.long q1), .second, .val (.long q2), .second, .val (.long q3), .second, .val (.long q4), .second, .val (.int (2 : Int32)), .val (.ref b_68), .val (.ref b_74), .val (.ref t__75)] [(.int (2 : Int32)), (.ref b_68), (.long (0 : Int64))])
    refine Go.st (fun _ => XS.iconst X_94.here hx rfl (hb hby at_214)) ?_
    show Go p e below s _ _ _ T_94 (mkF m 215 #[.val (.int k), .val (.long q0), .second, .val (.long q1), .second, .val (.long q2), .second, .val (.long q3), .second, .val (.long q4), .second, .val (.int (2 : Int32)), .val (.ref b_68), .val (.ref b_74), .val (.ref t__75)] [(.int (4 : Int32)), (.int (2 : Int32)), (.ref b_68), (.long (0 : Int64))])
    obtain ⟨_, _, ⟨T_96, L_96, kc_96, nc_96⟩, -, X_96, ⟨Lc_96, hQ_96, l_96, y_96, z_96⟩, st_96⟩ := Jvm.LawKit.callS X_94 hx (y := (⟨"com/example/moat/moat/xpath/HandlesReversePinLaw", "exp", "([JII)J"⟩ : MethodName)) hown (mvT hZ (hw _ (List.mem_of_getElem? (i := 30) rfl))) (mvT hZ (hw _ (List.mem_of_getElem? (i := 31) rfl))) (mvT hZ (hw _ (List.mem_of_getElem? (i := 32) rfl))) (mvT hZ (hw _ (List.mem_of_getElem? (i := 33) rfl))) (by decide) (backOf (W := 2) (rmXb l Z a0 hw [] b_68 (2 : Int32) (4 : Int32) h_79 n0 z_79q (by decide)) hZ (hw _ (List.mem_of_getElem? (i := 33) rfl)) (hw _ (List.mem_of_getElem? (i := 32) rfl)) (by decide) (by decide)) (g := (mkF m 215 #[.val (.int k), .val (.long q0), .second, .val (.long q1), .second, .val (.long q2), .second, .val (.long q3), .second, .val (.long q4), .second, .val (.int (2 : Int32)), .val (.ref b_68), .val (.ref b_74), .val (.ref t__75)] [(.int (4 : Int32)), (.int (2 : Int32)), (.ref b_68), (.long (0 : Int64))])) rfl (by rw [hml]; rfl) (argsL := [(.ref b_68), (.int (2 : Int32)), (.int (4 : Int32))]) (rest := [(.long (0 : Int64))]) (lenOf pd_3 rfl) rfl (by show 2 * 0 + _ ≤ _; exact Nat.le_of_eq rfl) (hb hby at_215) (fun _ _ => ⟨rfl, e_94, (by decide : 3 + 0 ≤ _), (by decide : 15 + 0 ≤ _)⟩)
    dsimp only [Pt.U, Pt.locs, Pt.cells, Pt.slots] at X_96 l_96 y_96 z_96 st_96 hQ_96
    obtain rfl : kc_96 = 3 := y_96
    obtain rfl : nc_96 = 15 := z_96
    obtain ⟨h_96, e_96⟩ : ∃ hh, T_96.heap = hh := ⟨_, rfl⟩
    rw [e_96] at hQ_96
    obtain ⟨rfl, N_96q, sm_96⟩ := hQ_96
    have N_96 : Fr n0 L_96 := by rw [l_96]; exact Fr.app N_94 N_96q
    refine Go.st st_96 ?_
    rw [sm_96] at e_96
    show Go p e below s _ _ _ T_96 (mkF m 218 #[.val (.int k), .val (.long q0), .second, .val (.long q1), .second, .val (.long q2), .second, .val (.long q3), .second, .val (.long q4), .second, .val (.int (2 : Int32)), .val (.ref b_68), .val (.ref b_74), .val (.ref t__75)] [(.long (0 : Int64)), (.long (0 : Int64))])
    refine Go.st (fun _ => XS.lcmp X_96.here hx rfl (hb hby at_218) rfl) ?_
    show Go p e below s _ _ _ T_96 (mkF m 219 #[.val (.int k), .val (.long q0), .second, .val (.long q1), .second, .val (.long q2), .second, .val (.long q3), .second, .val (.long q4), .second, .val (.int (2 : Int32)), .val (.ref b_68), .val (.ref b_74), .val (.ref t__75)] [(.int (lcmpW (0 : Int64) (0 : Int64)))])
    refine Go.st (fun _ => XS.ifNo X_96.here hx rfl (hb hby at_219) rfl ((if0 _ _).trans (teq ((lw_eq (0 : Int64) (0 : Int64)).mpr (by decide : (0 : Int64) = (0 : Int64)))).2)) ?_
    show Go p e below s _ _ _ T_96 (mkF m 222 #[.val (.int k), .val (.long q0), .second, .val (.long q1), .second, .val (.long q2), .second, .val (.long q3), .second, .val (.long q4), .second, .val (.int (2 : Int32)), .val (.ref b_68), .val (.ref b_74), .val (.ref t__75)] [])
    refine Go.st (fun _ => XS.aload X_96.here hx rfl (hb hby at_222) rfl rfl) ?_
    show Go p e below s _ _ _ T_96 (mkF m 224 #[.val (.int k), .val (.long q0), .second, .val (.long q1), .second, .val (.long q2), .second, .val (.long q3), .second, .val (.long q4), .second, .val (.int (2 : Int32)), .val (.ref b_68), .val (.ref b_74), .val (.ref t__75)] [(.ref t__75)])
    refine Go.st (fun _ => XS.iconst X_96.here hx rfl (hb hby at_224)) ?_
    show Go p e below s _ _ _ T_96 (mkF m 225 #[.val (.int k), .val (.long q0), .second, .val (.long q1), .second, .val (.long q2), .second, .val (.long q3), .second, .val (.long q4), .second, .val (.int (2 : Int32)), .val (.ref b_68), .val (.ref b_74), .val (.ref t__75)] [(.int (5 : Int32)), (.ref t__75)])
    obtain ⟨cl_97, Ar_97, q_97, S_97, M_97, H_97, G_97⟩ := id p_79_0
    have hin_97 : ¬ ((5 : Int32) < 0 ∨ cl_97.slots.size ≤ ((5 : Int32)).toNatClampNeg) := inb_of S_97 ⟨by decide, by decide⟩
    have hat_97 : cl_97.slots[((5 : Int32)).toNatClampNeg]? = some (.long (0 : Int64)) := H_97.at hin_97 rfl
    refine Go.st (fun tG => X_96.laload hx (j := (5 : Int32)) (v := (.long (0 : Int64))) (by rw [e_96]; exact Ar_97.1) (State.isArrayOf_alike hZ.alike Ar_97.2.1) Ar_97.2.2 hin_97 hat_97 (g := (mkF m 225 #[.val (.int k), .val (.long q0), .second, .val (.long q1), .second, .val (.long q2), .second, .val (.long q3), .second, .val (.long q4), .second, .val (.int (2 : Int32)), .val (.ref b_68), .val (.ref b_74), .val (.ref t__75)] [(.int (5 : Int32)), (.ref t__75)])) rfl rfl (hb hby at_225) tG) ?_
    show Go p e below s _ _ _ T_96 (mkF m 226 #[.val (.int k), .val (.long q0), .second, .val (.long q1), .second, .val (.long q2), .second, .val (.long q3), .second, .val (.long q4), .second, .val (.int (2 : Int32)), .val (.ref b_68), .val (.ref b_74), .val (.ref t__75)] [(.long (0 : Int64))])
    refine Go.st (fun _ => XS.aload X_96.here hx rfl (hb hby at_226) rfl rfl) ?_
    show Go p e below s _ _ _ T_96 (mkF m 228 #[.val (.int k), .val (.long q0), .second, .val (.long q1), .second, .val (.long q2), .second, .val (.long q3), .second, .val (.long q4), .second, .val (.int (2 : Int32)), .val (.ref b_68), .val (.ref b_74), .val (.ref t__75)] [(.ref b_68), (.long (0 : Int64))])
    refine Go.st (fun _ => XS.iload X_96.here hx rfl (hb hby at_228) rfl) ?_
    show Go p e below s _ _ _ T_96 (mkF m 230 #[.val (.int k), .val (.long q0), .second, .val (.long q1), .second, .val (.long q2), .second, .val (.long q3), .second, .val (.long q4), .second, .val (.int (2 : Int32)), .val (.ref b_68), .val (.ref b_74), .val (.ref t__75)] [(.int (2 : Int32)), (.ref b_68), (.long (0 : Int64))])
    refine Go.st (fun _ => XS.iconst X_96.here hx rfl (hb hby at_230)) ?_
    show Go p e below s _ _ _ T_96 (mkF m 231 #[.val (.int k), .val (.long q0), .second, .val (.long q1), .second, .val (.long q2), .second, .val (.long q3), .second, .val (.long q4), .second, .val (.int (2 : Int32)), .val (.ref b_68), .val (.ref b_74), .val (.ref t__75)] [(.int (5 : Int32)), (.int (2 : Int32)), (.ref b_68), (.long (0 : Int64))])
    obtain ⟨_, _, ⟨T_98, L_98, kc_98, nc_98⟩, -, X_98, ⟨Lc_98, hQ_98, l_98, y_98, z_98⟩, st_98⟩ := Jvm.LawKit.callS X_96 hx (y := (⟨"com/example/moat/moat/xpath/HandlesReversePinLaw", "exp", "([JII)J"⟩ : MethodName)) hown (mvT hZ (hw _ (List.mem_of_getElem? (i := 30) rfl))) (mvT hZ (hw _ (List.mem_of_getElem? (i := 31) rfl))) (mvT hZ (hw _ (List.mem_of_getElem? (i := 32) rfl))) (mvT hZ (hw _ (List.mem_of_getElem? (i := 33) rfl))) (by decide) (backOf (W := 2) (rmXb l Z a0 hw [] b_68 (2 : Int32) (5 : Int32) h_79 n0 z_79q (by decide)) hZ (hw _ (List.mem_of_getElem? (i := 33) rfl)) (hw _ (List.mem_of_getElem? (i := 32) rfl)) (by decide) (by decide)) (g := (mkF m 231 #[.val (.int k), .val (.long q0), .second, .val (.long q1), .second, .val (.long q2), .second, .val (.long q3), .second, .val (.long q4), .second, .val (.int (2 : Int32)), .val (.ref b_68), .val (.ref b_74), .val (.ref t__75)] [(.int (5 : Int32)), (.int (2 : Int32)), (.ref b_68), (.long (0 : Int64))])) rfl (by rw [hml]; rfl) (argsL := [(.ref b_68), (.int (2 : Int32)), (.int (5 : Int32))]) (rest := [(.long (0 : Int64))]) (lenOf pd_3 rfl) rfl (by show 2 * 0 + _ ≤ _; exact Nat.le_of_eq rfl) (hb hby at_231) (fun _ _ => ⟨rfl, e_96, (by decide : 3 + 0 ≤ _), (by decide : 15 + 0 ≤ _)⟩)
    dsimp only [Pt.U, Pt.locs, Pt.cells, Pt.slots] at X_98 l_98 y_98 z_98 st_98 hQ_98
    obtain rfl : kc_98 = 3 := y_98
    obtain rfl : nc_98 = 15 := z_98
    obtain ⟨h_98, e_98⟩ : ∃ hh, T_98.heap = hh := ⟨_, rfl⟩
    rw [e_98] at hQ_98
    obtain ⟨rfl, N_98q, sm_98⟩ := hQ_98
    have N_98 : Fr n0 L_98 := by rw [l_98]; exact Fr.app N_96 N_98q
    refine Go.st st_98 ?_
    rw [sm_98] at e_98
    show Go p e below s _ _ _ T_98 (mkF m 234 #[.val (.int k), .val (.long q0), .second, .val (.long q1), .second, .val (.long q2), .second, .val (.long q3), .second, .val (.long q4), .second, .val (.int (2 : Int32)), .val (.ref b_68), .val (.ref b_74), .val (.ref t__75)] [(.long (0 : Int64)), (.long (0 : Int64))])
    refine Go.st (fun _ => XS.lcmp X_98.here hx rfl (hb hby at_234) rfl) ?_
    show Go p e below s _ _ _ T_98 (mkF m 235 #[.val (.int k), .val (.long q0), .second, .val (.long q1), .second, .val (.long q2), .second, .val (.long q3), .second, .val (.long q4), .second, .val (.int (2 : Int32)), .val (.ref b_68), .val (.ref b_74), .val (.ref t__75)] [(.int (lcmpW (0 : Int64) (0 : Int64)))])
    refine Go.st (fun _ => XS.ifNo X_98.here hx rfl (hb hby at_235) rfl ((if0 _ _).trans (teq ((lw_eq (0 : Int64) (0 : Int64)).mpr (by decide : (0 : Int64) = (0 : Int64)))).2)) ?_
    show Go p e below s _ _ _ T_98 (mkF m 238 #[.val (.int k), .val (.long q0), .second, .val (.long q1), .second, .val (.long q2), .second, .val (.long q3), .second, .val (.long q4), .second, .val (.int (2 : Int32)), .val (.ref b_68), .val (.ref b_74), .val (.ref t__75)] [])
    refine Go.st (fun _ => XS.aload X_98.here hx rfl (hb hby at_238) rfl rfl) ?_
    show Go p e below s _ _ _ T_98 (mkF m 240 #[.val (.int k), .val (.long q0), .second, .val (.long q1), .second, .val (.long q2), .second, .val (.long q3), .second, .val (.long q4), .second, .val (.int (2 : Int32)), .val (.ref b_68), .val (.ref b_74), .val (.ref t__75)] [(.ref t__75)])
    refine Go.st (fun _ => XS.bipush X_98.here hx rfl (hb hby at_240)) ?_
    show Go p e below s _ _ _ T_98 (mkF m 242 #[.val (.int k), .val (.long q0), .second, .val (.long q1), .second, .val (.long q2), .second, .val (.long q3), .second, .val (.long q4), .second, .val (.int (2 : Int32)), .val (.ref b_68), .val (.ref b_74), .val (.ref t__75)] [(.int (6 : Int32)), (.ref t__75)])
    obtain ⟨cl_99, Ar_99, q_99, S_99, M_99, H_99, G_99⟩ := id p_79_0
    have hin_99 : ¬ ((6 : Int32) < 0 ∨ cl_99.slots.size ≤ ((6 : Int32)).toNatClampNeg) := inb_of S_99 ⟨by decide, by decide⟩
    have hat_99 : cl_99.slots[((6 : Int32)).toNatClampNeg]? = some (.long (0 : Int64)) := H_99.at hin_99 rfl
    refine Go.st (fun tG => X_98.laload hx (j := (6 : Int32)) (v := (.long (0 : Int64))) (by rw [e_98]; exact Ar_99.1) (State.isArrayOf_alike hZ.alike Ar_99.2.1) Ar_99.2.2 hin_99 hat_99 (g := (mkF m 242 #[.val (.int k), .val (.long q0), .second, .val (.long q1), .second, .val (.long q2), .second, .val (.long q3), .second, .val (.long q4), .second, .val (.int (2 : Int32)), .val (.ref b_68), .val (.ref b_74), .val (.ref t__75)] [(.int (6 : Int32)), (.ref t__75)])) rfl rfl (hb hby at_242) tG) ?_
    show Go p e below s _ _ _ T_98 (mkF m 243 #[.val (.int k), .val (.long q0), .second, .val (.long q1), .second, .val (.long q2), .second, .val (.long q3), .second, .val (.long q4), .second, .val (.int (2 : Int32)), .val (.ref b_68), .val (.ref b_74), .val (.ref t__75)] [(.long (0 : Int64))])
    refine Go.st (fun _ => XS.aload X_98.here hx rfl (hb hby at_243) rfl rfl) ?_
    show Go p e below s _ _ _ T_98 (mkF m 245 #[.val (.int k), .val (.long q0), .second, .val (.long q1), .second, .val (.long q2), .second, .val (.long q3), .second, .val (.long q4), .second, .val (.int (2 : Int32)), .val (.ref b_68), .val (.ref b_74), .val (.ref t__75)] [(.ref b_68), (.long (0 : Int64))])
    refine Go.st (fun _ => XS.iload X_98.here hx rfl (hb hby at_245) rfl) ?_
    show Go p e below s _ _ _ T_98 (mkF m 247 #[.val (.int k), .val (.long q0), .second, .val (.long q1), .second, .val (.long q2), .second, .val (.long q3), .second, .val (.long q4), .second, .val (.int (2 : Int32)), .val (.ref b_68), .val (.ref b_74), .val (.ref t__75)] [(.int (2 : Int32)), (.ref b_68), (.long (0 : Int64))])
    refine Go.st (fun _ => XS.bipush X_98.here hx rfl (hb hby at_247)) ?_
    show Go p e below s _ _ _ T_98 (mkF m 249 #[.val (.int k), .val (.long q0), .second, .val (.long q1), .second, .val (.long q2), .second, .val (.long q3), .second, .val (.long q4), .second, .val (.int (2 : Int32)), .val (.ref b_68), .val (.ref b_74), .val (.ref t__75)] [(.int (6 : Int32)), (.int (2 : Int32)), (.ref b_68), (.long (0 : Int64))])
    obtain ⟨_, _, ⟨T_100, L_100, kc_100, nc_100⟩, -, X_100, ⟨Lc_100, hQ_100, l_100, y_100, z_100⟩, st_100⟩ := Jvm.LawKit.callS X_98 hx (y := (⟨"com/example/moat/moat/xpath/HandlesReversePinLaw", "exp", "([JII)J"⟩ : MethodName)) hown (mvT hZ (hw _ (List.mem_of_getElem? (i := 30) rfl))) (mvT hZ (hw _ (List.mem_of_getElem? (i := 31) rfl))) (mvT hZ (hw _ (List.mem_of_getElem? (i := 32) rfl))) (mvT hZ (hw _ (List.mem_of_getElem? (i := 33) rfl))) (by decide) (backOf (W := 2) (rmXb l Z a0 hw [] b_68 (2 : Int32) (6 : Int32) h_79 n0 z_79q (by decide)) hZ (hw _ (List.mem_of_getElem? (i := 33) rfl)) (hw _ (List.mem_of_getElem? (i := 32) rfl)) (by decide) (by decide)) (g := (mkF m 249 #[.val (.int k), .val (.long q0), .second, .val (.long q1), .second, .val (.long q2), .second, .val (.long q3), .second, .val (.long q4), .second, .val (.int (2 : Int32)), .val (.ref b_68), .val (.ref b_74), .val (.ref t__75)] [(.int (6 : Int32)), (.int (2 : Int32)), (.ref b_68), (.long (0 : Int64))])) rfl (by rw [hml]; rfl) (argsL := [(.ref b_68), (.int (2 : Int32)), (.int (6 : Int32))]) (rest := [(.long (0 : Int64))]) (lenOf pd_3 rfl) rfl (by show 2 * 0 + _ ≤ _; exact Nat.le_of_eq rfl) (hb hby at_249) (fun _ _ => ⟨rfl, e_98, (by decide : 3 + 0 ≤ _), (by decide : 15 + 0 ≤ _)⟩)
    dsimp only [Pt.U, Pt.locs, Pt.cells, Pt.slots] at X_100 l_100 y_100 z_100 st_100 hQ_100
    obtain rfl : kc_100 = 3 := y_100
    obtain rfl : nc_100 = 15 := z_100
    obtain ⟨h_100, e_100⟩ : ∃ hh, T_100.heap = hh := ⟨_, rfl⟩
    rw [e_100] at hQ_100
    obtain ⟨rfl, N_100q, sm_100⟩ := hQ_100
    have N_100 : Fr n0 L_100 := by rw [l_100]; exact Fr.app N_98 N_100q
    refine Go.st st_100 ?_
    rw [sm_100] at e_100
    show Go p e below s _ _ _ T_100 (mkF m 252 #[.val (.int k), .val (.long q0), .second, .val (.long q1), .second, .val (.long q2), .second, .val (.long q3), .second, .val (.long q4), .second, .val (.int (2 : Int32)), .val (.ref b_68), .val (.ref b_74), .val (.ref t__75)] [(.long (0 : Int64)), (.long (0 : Int64))])
    refine Go.st (fun _ => XS.lcmp X_100.here hx rfl (hb hby at_252) rfl) ?_
    show Go p e below s _ _ _ T_100 (mkF m 253 #[.val (.int k), .val (.long q0), .second, .val (.long q1), .second, .val (.long q2), .second, .val (.long q3), .second, .val (.long q4), .second, .val (.int (2 : Int32)), .val (.ref b_68), .val (.ref b_74), .val (.ref t__75)] [(.int (lcmpW (0 : Int64) (0 : Int64)))])
    refine Go.st (fun _ => XS.ifNo X_100.here hx rfl (hb hby at_253) rfl ((if0 _ _).trans (teq ((lw_eq (0 : Int64) (0 : Int64)).mpr (by decide : (0 : Int64) = (0 : Int64)))).2)) ?_
    show Go p e below s _ _ _ T_100 (mkF m 256 #[.val (.int k), .val (.long q0), .second, .val (.long q1), .second, .val (.long q2), .second, .val (.long q3), .second, .val (.long q4), .second, .val (.int (2 : Int32)), .val (.ref b_68), .val (.ref b_74), .val (.ref t__75)] [])
    refine Go.st (fun _ => XS.aload X_100.here hx rfl (hb hby at_256) rfl rfl) ?_
    show Go p e below s _ _ _ T_100 (mkF m 258 #[.val (.int k), .val (.long q0), .second, .val (.long q1), .second, .val (.long q2), .second, .val (.long q3), .second, .val (.long q4), .second, .val (.int (2 : Int32)), .val (.ref b_68), .val (.ref b_74), .val (.ref t__75)] [(.ref t__75)])
    refine Go.st (fun _ => XS.bipush X_100.here hx rfl (hb hby at_258)) ?_
    show Go p e below s _ _ _ T_100 (mkF m 260 #[.val (.int k), .val (.long q0), .second, .val (.long q1), .second, .val (.long q2), .second, .val (.long q3), .second, .val (.long q4), .second, .val (.int (2 : Int32)), .val (.ref b_68), .val (.ref b_74), .val (.ref t__75)] [(.int (7 : Int32)), (.ref t__75)])
    obtain ⟨cl_101, Ar_101, q_101, S_101, M_101, H_101, G_101⟩ := id p_79_0
    have hin_101 : ¬ ((7 : Int32) < 0 ∨ cl_101.slots.size ≤ ((7 : Int32)).toNatClampNeg) := inb_of S_101 ⟨by decide, by decide⟩
    have hat_101 : cl_101.slots[((7 : Int32)).toNatClampNeg]? = some (.long (0 : Int64)) := H_101.at hin_101 rfl
    refine Go.st (fun tG => X_100.laload hx (j := (7 : Int32)) (v := (.long (0 : Int64))) (by rw [e_100]; exact Ar_101.1) (State.isArrayOf_alike hZ.alike Ar_101.2.1) Ar_101.2.2 hin_101 hat_101 (g := (mkF m 260 #[.val (.int k), .val (.long q0), .second, .val (.long q1), .second, .val (.long q2), .second, .val (.long q3), .second, .val (.long q4), .second, .val (.int (2 : Int32)), .val (.ref b_68), .val (.ref b_74), .val (.ref t__75)] [(.int (7 : Int32)), (.ref t__75)])) rfl rfl (hb hby at_260) tG) ?_
    show Go p e below s _ _ _ T_100 (mkF m 261 #[.val (.int k), .val (.long q0), .second, .val (.long q1), .second, .val (.long q2), .second, .val (.long q3), .second, .val (.long q4), .second, .val (.int (2 : Int32)), .val (.ref b_68), .val (.ref b_74), .val (.ref t__75)] [(.long (0 : Int64))])
    refine Go.st (fun _ => XS.aload X_100.here hx rfl (hb hby at_261) rfl rfl) ?_
    show Go p e below s _ _ _ T_100 (mkF m 263 #[.val (.int k), .val (.long q0), .second, .val (.long q1), .second, .val (.long q2), .second, .val (.long q3), .second, .val (.long q4), .second, .val (.int (2 : Int32)), .val (.ref b_68), .val (.ref b_74), .val (.ref t__75)] [(.ref b_68), (.long (0 : Int64))])
    refine Go.st (fun _ => XS.iload X_100.here hx rfl (hb hby at_263) rfl) ?_
    show Go p e below s _ _ _ T_100 (mkF m 265 #[.val (.int k), .val (.long q0), .second, .val (.long q1), .second, .val (.long q2), .second, .val (.long q3), .second, .val (.long q4), .second, .val (.int (2 : Int32)), .val (.ref b_68), .val (.ref b_74), .val (.ref t__75)] [(.int (2 : Int32)), (.ref b_68), (.long (0 : Int64))])
    refine Go.st (fun _ => XS.bipush X_100.here hx rfl (hb hby at_265)) ?_
    show Go p e below s _ _ _ T_100 (mkF m 267 #[.val (.int k), .val (.long q0), .second, .val (.long q1), .second, .val (.long q2), .second, .val (.long q3), .second, .val (.long q4), .second, .val (.int (2 : Int32)), .val (.ref b_68), .val (.ref b_74), .val (.ref t__75)] [(.int (7 : Int32)), (.int (2 : Int32)), (.ref b_68), (.long (0 : Int64))])
    obtain ⟨_, _, ⟨T_102, L_102, kc_102, nc_102⟩, -, X_102, ⟨Lc_102, hQ_102, l_102, y_102, z_102⟩, st_102⟩ := Jvm.LawKit.callS X_100 hx (y := (⟨"com/example/moat/moat/xpath/HandlesReversePinLaw", "exp", "([JII)J"⟩ : MethodName)) hown (mvT hZ (hw _ (List.mem_of_getElem? (i := 30) rfl))) (mvT hZ (hw _ (List.mem_of_getElem? (i := 31) rfl))) (mvT hZ (hw _ (List.mem_of_getElem? (i := 32) rfl))) (mvT hZ (hw _ (List.mem_of_getElem? (i := 33) rfl))) (by decide) (backOf (W := 2) (rmXb l Z a0 hw [] b_68 (2 : Int32) (7 : Int32) h_79 n0 z_79q (by decide)) hZ (hw _ (List.mem_of_getElem? (i := 33) rfl)) (hw _ (List.mem_of_getElem? (i := 32) rfl)) (by decide) (by decide)) (g := (mkF m 267 #[.val (.int k), .val (.long q0), .second, .val (.long q1), .second, .val (.long q2), .second, .val (.long q3), .second, .val (.long q4), .second, .val (.int (2 : Int32)), .val (.ref b_68), .val (.ref b_74), .val (.ref t__75)] [(.int (7 : Int32)), (.int (2 : Int32)), (.ref b_68), (.long (0 : Int64))])) rfl (by rw [hml]; rfl) (argsL := [(.ref b_68), (.int (2 : Int32)), (.int (7 : Int32))]) (rest := [(.long (0 : Int64))]) (lenOf pd_3 rfl) rfl (by show 2 * 0 + _ ≤ _; exact Nat.le_of_eq rfl) (hb hby at_267) (fun _ _ => ⟨rfl, e_100, (by decide : 3 + 0 ≤ _), (by decide : 15 + 0 ≤ _)⟩)
    dsimp only [Pt.U, Pt.locs, Pt.cells, Pt.slots] at X_102 l_102 y_102 z_102 st_102 hQ_102
    obtain rfl : kc_102 = 3 := y_102
    obtain rfl : nc_102 = 15 := z_102
    obtain ⟨h_102, e_102⟩ : ∃ hh, T_102.heap = hh := ⟨_, rfl⟩
    rw [e_102] at hQ_102
    obtain ⟨rfl, N_102q, sm_102⟩ := hQ_102
    have N_102 : Fr n0 L_102 := by rw [l_102]; exact Fr.app N_100 N_102q
    refine Go.st st_102 ?_
    rw [sm_102] at e_102
    show Go p e below s _ _ _ T_102 (mkF m 270 #[.val (.int k), .val (.long q0), .second, .val (.long q1), .second, .val (.long q2), .second, .val (.long q3), .second, .val (.long q4), .second, .val (.int (2 : Int32)), .val (.ref b_68), .val (.ref b_74), .val (.ref t__75)] [(.long (0 : Int64)), (.long (0 : Int64))])
    refine Go.st (fun _ => XS.lcmp X_102.here hx rfl (hb hby at_270) rfl) ?_
    show Go p e below s _ _ _ T_102 (mkF m 271 #[.val (.int k), .val (.long q0), .second, .val (.long q1), .second, .val (.long q2), .second, .val (.long q3), .second, .val (.long q4), .second, .val (.int (2 : Int32)), .val (.ref b_68), .val (.ref b_74), .val (.ref t__75)] [(.int (lcmpW (0 : Int64) (0 : Int64)))])
    refine Go.st (fun _ => XS.ifNo X_102.here hx rfl (hb hby at_271) rfl ((if0 _ _).trans (teq ((lw_eq (0 : Int64) (0 : Int64)).mpr (by decide : (0 : Int64) = (0 : Int64)))).2)) ?_
    show Go p e below s _ _ _ T_102 (mkF m 274 #[.val (.int k), .val (.long q0), .second, .val (.long q1), .second, .val (.long q2), .second, .val (.long q3), .second, .val (.long q4), .second, .val (.int (2 : Int32)), .val (.ref b_68), .val (.ref b_74), .val (.ref t__75)] [])
    refine Go.st (fun _ => XS.iconst X_102.here hx rfl (hb hby at_274)) ?_
    show Go p e below s _ _ _ T_102 (mkF m 275 #[.val (.int k), .val (.long q0), .second, .val (.long q1), .second, .val (.long q2), .second, .val (.long q3), .second, .val (.long q4), .second, .val (.int (2 : Int32)), .val (.ref b_68), .val (.ref b_74), .val (.ref t__75)] [(.int (1 : Int32))])
    refine Go.st (fun _ => XS.goto X_102.here hx rfl (pc0 := 275) (pc' := 279) rfl (hb hby at_275) (by decide) (by decide)) ?_
    show Go p e below s _ _ _ T_102 (mkF m 279 #[.val (.int k), .val (.long q0), .second, .val (.long q1), .second, .val (.long q2), .second, .val (.long q3), .second, .val (.long q4), .second, .val (.int (2 : Int32)), .val (.ref b_68), .val (.ref b_74), .val (.ref t__75)] [(.int (1 : Int32))])
    exact Go.retZ X_102 hx hlk Bd.returns (hb hby at_279) rfl (by rw [e_102]; exact ⟨rfl, N_102⟩) (by decide) (by decide)
  · rw [show ((k &&& (2147483647 : Int32)) % (6 : Int32)) = (3 : Int32) from hd_1]
    show Go p e below s _ _ _ s₁ (mkF m 7 #[.val (.int k), .val (.long q0), .second, .val (.long q1), .second, .val (.long q2), .second, .val (.long q3), .second, .val (.long q4), .second, .unset, .unset, .unset, .unset] [(.int (3 : Int32))])
    refine Go.st (fun _ => XS.istore X0.here hx rfl (hb hby at_7) rfl (l' := #[.val (.int k), .val (.long q0), .second, .val (.long q1), .second, .val (.long q2), .second, .val (.long q3), .second, .val (.long q4), .second, .val (.int (3 : Int32)), .unset, .unset, .unset]) rfl) ?_
    show Go p e below s _ _ _ s₁ (mkF m 9 #[.val (.int k), .val (.long q0), .second, .val (.long q1), .second, .val (.long q2), .second, .val (.long q3), .second, .val (.long q4), .second, .val (.int (3 : Int32)), .unset, .unset, .unset] [])
    refine Go.st (fun _ => XS.iconst X0.here hx rfl (hb hby at_9)) ?_
    show Go p e below s _ _ _ s₁ (mkF m 10 #[.val (.int k), .val (.long q0), .second, .val (.long q1), .second, .val (.long q2), .second, .val (.long q3), .second, .val (.long q4), .second, .val (.int (3 : Int32)), .unset, .unset, .unset] [(.int (5 : Int32))])
    obtain ⟨T_103, h_103, kA_103, X_103, e_103, E_103, A_103, st_103⟩ := newP X0 hx hZ (hw _ (List.mem_of_getElem? (i := 1) rfl)) e0 (g := (mkF m 10 #[.val (.int k), .val (.long q0), .second, .val (.long q1), .second, .val (.long q2), .second, .val (.long q3), .second, .val (.long q4), .second, .val (.int (3 : Int32)), .unset, .unset, .unset] [(.int (5 : Int32))])) rfl (hb hby at_10) rfl (by decide) (cap := 5) (by decide) (by decide) (by decide) (by decide)
    obtain ⟨b_103, g_103⟩ : ∃ z, z = h0.size := ⟨_, rfl⟩
    rw [← g_103] at A_103 st_103
    refine Go.st st_103 ?_
    have gg_103 : n0 ≤ b_103 := Nat.le_trans Z0 (Nat.le_of_eq g_103.symm)
    have z_103 : n0 ≤ h_103.size := Nat.le_trans Z0 E_103.1
    have V_b_103 : Arv Z h_103 b_103 kA_103 .long (5 : Int32) [(.long (0 : Int64)), (.long (0 : Int64)), (.long (0 : Int64)), (.long (0 : Int64)), (.long (0 : Int64))] (.long (0 : Int64)) := (Arv.new A_103 (by decide)).pad (pad_rep [] (.long (0 : Int64)) 5)
    show Go p e below s _ _ _ T_103 (mkF m 12 #[.val (.int k), .val (.long q0), .second, .val (.long q1), .second, .val (.long q2), .second, .val (.long q3), .second, .val (.long q4), .second, .val (.int (3 : Int32)), .unset, .unset, .unset] [(.ref b_103)])
    refine Go.st (fun _ => XS.dup X_103.here hx rfl (hb hby at_12) rfl rfl) ?_
    show Go p e below s _ _ _ T_103 (mkF m 13 #[.val (.int k), .val (.long q0), .second, .val (.long q1), .second, .val (.long q2), .second, .val (.long q3), .second, .val (.long q4), .second, .val (.int (3 : Int32)), .unset, .unset, .unset] [(.ref b_103), (.ref b_103)])
    refine Go.st (fun _ => XS.iconst X_103.here hx rfl (hb hby at_13)) ?_
    show Go p e below s _ _ _ T_103 (mkF m 14 #[.val (.int k), .val (.long q0), .second, .val (.long q1), .second, .val (.long q2), .second, .val (.long q3), .second, .val (.long q4), .second, .val (.int (3 : Int32)), .unset, .unset, .unset] [(.int (0 : Int32)), (.ref b_103), (.ref b_103)])
    refine Go.st (fun _ => XS.lloadN X_103.here hx rfl (hb hby at_14) rfl) ?_
    show Go p e below s _ _ _ T_103 (mkF m 15 #[.val (.int k), .val (.long q0), .second, .val (.long q1), .second, .val (.long q2), .second, .val (.long q3), .second, .val (.long q4), .second, .val (.int (3 : Int32)), .unset, .unset, .unset] [(.long q0), (.int (0 : Int32)), (.ref b_103), (.ref b_103)])
    obtain ⟨cl_104, Ar_104, q_104, S_104, M_104, H_104, G_104⟩ := id V_b_103
    have hin_104 : ¬ ((0 : Int32) < 0 ∨ cl_104.slots.size ≤ ((0 : Int32)).toNatClampNeg) := inb_of S_104 ⟨by decide, by decide⟩
    obtain ⟨T_104, h_104, X_104, e_104, W_104, st_104⟩ := stJ X_103 hx hZ e_103 Ar_104 (j := (0 : Int32)) hin_104 (g := (mkF m 15 #[.val (.int k), .val (.long q0), .second, .val (.long q1), .second, .val (.long q2), .second, .val (.long q3), .second, .val (.long q4), .second, .val (.int (3 : Int32)), .unset, .unset, .unset] [(.long q0), (.int (0 : Int32)), (.ref b_103), (.ref b_103)])) rfl rfl (hb hby at_15)
    refine Go.st st_104 ?_
    have V_104 : Arv Z h_104 b_103 kA_103 .long (5 : Int32) [(.long q0), (.long (0 : Int64)), (.long (0 : Int64)), (.long (0 : Int64)), (.long (0 : Int64))] (.long (0 : Int64)) := Arv.set Ar_104 q_104 S_104 M_104 H_104 G_104 rfl W_104 0 rfl (Nat.le_of_ble_eq_true rfl)
    have N_104 := Fr.snoc X_104 N0 gg_103
    have z_104 : n0 ≤ h_104.size := Nat.le_trans z_103 (Nat.le_of_eq W_104.size.symm)
    show Go p e below s _ _ _ T_104 (mkF m 16 #[.val (.int k), .val (.long q0), .second, .val (.long q1), .second, .val (.long q2), .second, .val (.long q3), .second, .val (.long q4), .second, .val (.int (3 : Int32)), .unset, .unset, .unset] [(.ref b_103)])
    refine Go.st (fun _ => XS.dup X_104.here hx rfl (hb hby at_16) rfl rfl) ?_
    show Go p e below s _ _ _ T_104 (mkF m 17 #[.val (.int k), .val (.long q0), .second, .val (.long q1), .second, .val (.long q2), .second, .val (.long q3), .second, .val (.long q4), .second, .val (.int (3 : Int32)), .unset, .unset, .unset] [(.ref b_103), (.ref b_103)])
    refine Go.st (fun _ => XS.iconst X_104.here hx rfl (hb hby at_17)) ?_
    show Go p e below s _ _ _ T_104 (mkF m 18 #[.val (.int k), .val (.long q0), .second, .val (.long q1), .second, .val (.long q2), .second, .val (.long q3), .second, .val (.long q4), .second, .val (.int (3 : Int32)), .unset, .unset, .unset] [(.int (1 : Int32)), (.ref b_103), (.ref b_103)])
    refine Go.st (fun _ => XS.lloadN X_104.here hx rfl (hb hby at_18) rfl) ?_
    show Go p e below s _ _ _ T_104 (mkF m 19 #[.val (.int k), .val (.long q0), .second, .val (.long q1), .second, .val (.long q2), .second, .val (.long q3), .second, .val (.long q4), .second, .val (.int (3 : Int32)), .unset, .unset, .unset] [(.long q1), (.int (1 : Int32)), (.ref b_103), (.ref b_103)])
    obtain ⟨cl_105, Ar_105, q_105, S_105, M_105, H_105, G_105⟩ := id V_104
    have hin_105 : ¬ ((1 : Int32) < 0 ∨ cl_105.slots.size ≤ ((1 : Int32)).toNatClampNeg) := inb_of S_105 ⟨by decide, by decide⟩
    obtain ⟨T_105, h_105, X_105, e_105, W_105, st_105⟩ := stJ X_104 hx hZ e_104 Ar_105 (j := (1 : Int32)) hin_105 (g := (mkF m 19 #[.val (.int k), .val (.long q0), .second, .val (.long q1), .second, .val (.long q2), .second, .val (.long q3), .second, .val (.long q4), .second, .val (.int (3 : Int32)), .unset, .unset, .unset] [(.long q1), (.int (1 : Int32)), (.ref b_103), (.ref b_103)])) rfl rfl (hb hby at_19)
    refine Go.st st_105 ?_
    have V_105 : Arv Z h_105 b_103 kA_103 .long (5 : Int32) [(.long q0), (.long q1), (.long (0 : Int64)), (.long (0 : Int64)), (.long (0 : Int64))] (.long (0 : Int64)) := Arv.set Ar_105 q_105 S_105 M_105 H_105 G_105 rfl W_105 1 rfl (Nat.le_of_ble_eq_true rfl)
    have N_105 := Fr.snoc X_105 N_104 gg_103
    have z_105 : n0 ≤ h_105.size := Nat.le_trans z_104 (Nat.le_of_eq W_105.size.symm)
    show Go p e below s _ _ _ T_105 (mkF m 20 #[.val (.int k), .val (.long q0), .second, .val (.long q1), .second, .val (.long q2), .second, .val (.long q3), .second, .val (.long q4), .second, .val (.int (3 : Int32)), .unset, .unset, .unset] [(.ref b_103)])
    refine Go.st (fun _ => XS.dup X_105.here hx rfl (hb hby at_20) rfl rfl) ?_
    show Go p e below s _ _ _ T_105 (mkF m 21 #[.val (.int k), .val (.long q0), .second, .val (.long q1), .second, .val (.long q2), .second, .val (.long q3), .second, .val (.long q4), .second, .val (.int (3 : Int32)), .unset, .unset, .unset] [(.ref b_103), (.ref b_103)])
    refine Go.st (fun _ => XS.iconst X_105.here hx rfl (hb hby at_21)) ?_
    show Go p e below s _ _ _ T_105 (mkF m 22 #[.val (.int k), .val (.long q0), .second, .val (.long q1), .second, .val (.long q2), .second, .val (.long q3), .second, .val (.long q4), .second, .val (.int (3 : Int32)), .unset, .unset, .unset] [(.int (2 : Int32)), (.ref b_103), (.ref b_103)])
    refine Go.st (fun _ => XS.lload X_105.here hx rfl (hb hby at_22) rfl) ?_
    show Go p e below s _ _ _ T_105 (mkF m 24 #[.val (.int k), .val (.long q0), .second, .val (.long q1), .second, .val (.long q2), .second, .val (.long q3), .second, .val (.long q4), .second, .val (.int (3 : Int32)), .unset, .unset, .unset] [(.long q2), (.int (2 : Int32)), (.ref b_103), (.ref b_103)])
    obtain ⟨cl_106, Ar_106, q_106, S_106, M_106, H_106, G_106⟩ := id V_105
    have hin_106 : ¬ ((2 : Int32) < 0 ∨ cl_106.slots.size ≤ ((2 : Int32)).toNatClampNeg) := inb_of S_106 ⟨by decide, by decide⟩
    obtain ⟨T_106, h_106, X_106, e_106, W_106, st_106⟩ := stJ X_105 hx hZ e_105 Ar_106 (j := (2 : Int32)) hin_106 (g := (mkF m 24 #[.val (.int k), .val (.long q0), .second, .val (.long q1), .second, .val (.long q2), .second, .val (.long q3), .second, .val (.long q4), .second, .val (.int (3 : Int32)), .unset, .unset, .unset] [(.long q2), (.int (2 : Int32)), (.ref b_103), (.ref b_103)])) rfl rfl (hb hby at_24)
    refine Go.st st_106 ?_
    have V_106 : Arv Z h_106 b_103 kA_103 .long (5 : Int32) [(.long q0), (.long q1), (.long q2), (.long (0 : Int64)), (.long (0 : Int64))] (.long (0 : Int64)) := Arv.set Ar_106 q_106 S_106 M_106 H_106 G_106 rfl W_106 2 rfl (Nat.le_of_ble_eq_true rfl)
    have N_106 := Fr.snoc X_106 N_105 gg_103
    have z_106 : n0 ≤ h_106.size := Nat.le_trans z_105 (Nat.le_of_eq W_106.size.symm)
    show Go p e below s _ _ _ T_106 (mkF m 25 #[.val (.int k), .val (.long q0), .second, .val (.long q1), .second, .val (.long q2), .second, .val (.long q3), .second, .val (.long q4), .second, .val (.int (3 : Int32)), .unset, .unset, .unset] [(.ref b_103)])
    refine Go.st (fun _ => XS.dup X_106.here hx rfl (hb hby at_25) rfl rfl) ?_
    show Go p e below s _ _ _ T_106 (mkF m 26 #[.val (.int k), .val (.long q0), .second, .val (.long q1), .second, .val (.long q2), .second, .val (.long q3), .second, .val (.long q4), .second, .val (.int (3 : Int32)), .unset, .unset, .unset] [(.ref b_103), (.ref b_103)])
    refine Go.st (fun _ => XS.iconst X_106.here hx rfl (hb hby at_26)) ?_
    show Go p e below s _ _ _ T_106 (mkF m 27 #[.val (.int k), .val (.long q0), .second, .val (.long q1), .second, .val (.long q2), .second, .val (.long q3), .second, .val (.long q4), .second, .val (.int (3 : Int32)), .unset, .unset, .unset] [(.int (3 : Int32)), (.ref b_103), (.ref b_103)])
    refine Go.st (fun _ => XS.lload X_106.here hx rfl (hb hby at_27) rfl) ?_
    show Go p e below s _ _ _ T_106 (mkF m 29 #[.val (.int k), .val (.long q0), .second, .val (.long q1), .second, .val (.long q2), .second, .val (.long q3), .second, .val (.long q4), .second, .val (.int (3 : Int32)), .unset, .unset, .unset] [(.long q3), (.int (3 : Int32)), (.ref b_103), (.ref b_103)])
    obtain ⟨cl_107, Ar_107, q_107, S_107, M_107, H_107, G_107⟩ := id V_106
    have hin_107 : ¬ ((3 : Int32) < 0 ∨ cl_107.slots.size ≤ ((3 : Int32)).toNatClampNeg) := inb_of S_107 ⟨by decide, by decide⟩
    obtain ⟨T_107, h_107, X_107, e_107, W_107, st_107⟩ := stJ X_106 hx hZ e_106 Ar_107 (j := (3 : Int32)) hin_107 (g := (mkF m 29 #[.val (.int k), .val (.long q0), .second, .val (.long q1), .second, .val (.long q2), .second, .val (.long q3), .second, .val (.long q4), .second, .val (.int (3 : Int32)), .unset, .unset, .unset] [(.long q3), (.int (3 : Int32)), (.ref b_103), (.ref b_103)])) rfl rfl (hb hby at_29)
    refine Go.st st_107 ?_
    have V_107 : Arv Z h_107 b_103 kA_103 .long (5 : Int32) [(.long q0), (.long q1), (.long q2), (.long q3), (.long (0 : Int64))] (.long (0 : Int64)) := Arv.set Ar_107 q_107 S_107 M_107 H_107 G_107 rfl W_107 3 rfl (Nat.le_of_ble_eq_true rfl)
    have N_107 := Fr.snoc X_107 N_106 gg_103
    have z_107 : n0 ≤ h_107.size := Nat.le_trans z_106 (Nat.le_of_eq W_107.size.symm)
    show Go p e below s _ _ _ T_107 (mkF m 30 #[.val (.int k), .val (.long q0), .second, .val (.long q1), .second, .val (.long q2), .second, .val (.long q3), .second, .val (.long q4), .second, .val (.int (3 : Int32)), .unset, .unset, .unset] [(.ref b_103)])
    refine Go.st (fun _ => XS.dup X_107.here hx rfl (hb hby at_30) rfl rfl) ?_
    show Go p e below s _ _ _ T_107 (mkF m 31 #[.val (.int k), .val (.long q0), .second, .val (.long q1), .second, .val (.long q2), .second, .val (.long q3), .second, .val (.long q4), .second, .val (.int (3 : Int32)), .unset, .unset, .unset] [(.ref b_103), (.ref b_103)])
    refine Go.st (fun _ => XS.iconst X_107.here hx rfl (hb hby at_31)) ?_
    show Go p e below s _ _ _ T_107 (mkF m 32 #[.val (.int k), .val (.long q0), .second, .val (.long q1), .second, .val (.long q2), .second, .val (.long q3), .second, .val (.long q4), .second, .val (.int (3 : Int32)), .unset, .unset, .unset] [(.int (4 : Int32)), (.ref b_103), (.ref b_103)])
    refine Go.st (fun _ => XS.lload X_107.here hx rfl (hb hby at_32) rfl) ?_
    show Go p e below s _ _ _ T_107 (mkF m 34 #[.val (.int k), .val (.long q0), .second, .val (.long q1), .second, .val (.long q2), .second, .val (.long q3), .second, .val (.long q4), .second, .val (.int (3 : Int32)), .unset, .unset, .unset] [(.long q4), (.int (4 : Int32)), (.ref b_103), (.ref b_103)])
    obtain ⟨cl_108, Ar_108, q_108, S_108, M_108, H_108, G_108⟩ := id V_107
    have hin_108 : ¬ ((4 : Int32) < 0 ∨ cl_108.slots.size ≤ ((4 : Int32)).toNatClampNeg) := inb_of S_108 ⟨by decide, by decide⟩
    obtain ⟨T_108, h_108, X_108, e_108, W_108, st_108⟩ := stJ X_107 hx hZ e_107 Ar_108 (j := (4 : Int32)) hin_108 (g := (mkF m 34 #[.val (.int k), .val (.long q0), .second, .val (.long q1), .second, .val (.long q2), .second, .val (.long q3), .second, .val (.long q4), .second, .val (.int (3 : Int32)), .unset, .unset, .unset] [(.long q4), (.int (4 : Int32)), (.ref b_103), (.ref b_103)])) rfl rfl (hb hby at_34)
    refine Go.st st_108 ?_
    have V_108 : Arv Z h_108 b_103 kA_103 .long (5 : Int32) [(.long q0), (.long q1), (.long q2), (.long q3), (.long q4)] (.long (0 : Int64)) := Arv.set Ar_108 q_108 S_108 M_108 H_108 G_108 rfl W_108 4 rfl (Nat.le_of_ble_eq_true rfl)
    have N_108 := Fr.snoc X_108 N_107 gg_103
    have z_108 : n0 ≤ h_108.size := Nat.le_trans z_107 (Nat.le_of_eq W_108.size.symm)
    show Go p e below s _ _ _ T_108 (mkF m 35 #[.val (.int k), .val (.long q0), .second, .val (.long q1), .second, .val (.long q2), .second, .val (.long q3), .second, .val (.long q4), .second, .val (.int (3 : Int32)), .unset, .unset, .unset] [(.ref b_103)])
    refine Go.st (fun _ => XS.astore X_108.here hx rfl (hb hby at_35) rfl rfl (l' := #[.val (.int k), .val (.long q0), .second, .val (.long q1), .second, .val (.long q2), .second, .val (.long q3), .second, .val (.long q4), .second, .val (.int (3 : Int32)), .val (.ref b_103), .unset, .unset]) rfl) ?_
    show Go p e below s _ _ _ T_108 (mkF m 37 #[.val (.int k), .val (.long q0), .second, .val (.long q1), .second, .val (.long q2), .second, .val (.long q3), .second, .val (.long q4), .second, .val (.int (3 : Int32)), .val (.ref b_103), .unset, .unset] [])
    obtain ⟨T_109, h_109, X_109, e_109, E_109, A_109, D_109, -, st_109⟩ := newO X_108 hx hZ hown (hw _ (List.mem_of_getElem? (i := 2) rfl)) (hw _ (List.mem_of_getElem? (i := 3) rfl)) (hw _ (List.mem_of_getElem? (i := 4) rfl)) e_108 (g := (mkF m 37 #[.val (.int k), .val (.long q0), .second, .val (.long q1), .second, .val (.long q2), .second, .val (.long q3), .second, .val (.long q4), .second, .val (.int (3 : Int32)), .val (.ref b_103), .unset, .unset] [])) rfl (hb hby at_37) (by decide) (by decide)
    obtain ⟨b_109, g_109⟩ : ∃ z, z = h_108.size := ⟨_, rfl⟩
    rw [← g_109] at A_109 D_109 st_109
    refine Go.st st_109 ?_
    have ne_b_103_b_109 : b_103 ≠ b_109 := Nat.ne_of_lt (Nat.lt_of_lt_of_eq V_108.lt g_109.symm)
    have gg_109 : n0 ≤ b_109 := Nat.le_trans z_108 (Nat.le_of_eq g_109.symm)
    have z_109 : n0 ≤ h_109.size := Nat.le_trans z_108 E_109.1
    have F_nodes_b_109 : Fld Z h_109 b_109 "com/example/moat/moat/xpath/Handles" "nodes" "[J" .null := D_109 (Or.inl (hw _ (List.mem_of_getElem? (i := 12) rfl))) (ty := (.array .long)) (by decide)
    have F_size_b_109 : Fld Z h_109 b_109 "com/example/moat/moat/xpath/Handles" "size" "I" (.int (0 : Int32)) := D_109 (Or.inl (hw _ (List.mem_of_getElem? (i := 19) rfl))) (ty := .int) (by decide)
    show Go p e below s _ _ _ T_109 (mkF m 40 #[.val (.int k), .val (.long q0), .second, .val (.long q1), .second, .val (.long q2), .second, .val (.long q3), .second, .val (.long q4), .second, .val (.int (3 : Int32)), .val (.ref b_103), .unset, .unset] [(.ref b_109)])
    refine Go.st (fun _ => XS.dup X_109.here hx rfl (hb hby at_40) rfl rfl) ?_
    show Go p e below s _ _ _ T_109 (mkF m 41 #[.val (.int k), .val (.long q0), .second, .val (.long q1), .second, .val (.long q2), .second, .val (.long q3), .second, .val (.long q4), .second, .val (.int (3 : Int32)), .val (.ref b_103), .unset, .unset] [(.ref b_109), (.ref b_109)])
    obtain ⟨_, _, ⟨T_110, L_110, kc_110, nc_110⟩, -, X_110, ⟨Lc_110, hQ_110, l_110, y_110, z_110⟩, st_110⟩ := X_109.specialBack hx (y := (⟨"com/example/moat/moat/xpath/Handles", "<init>", "()V"⟩ : MethodName)) rfl hown (mvT hZ (hw _ (List.mem_of_getElem? (i := 5) rfl))) (mvT hZ (hw _ (List.mem_of_getElem? (i := 6) rfl))) (mvT hZ (hw _ (List.mem_of_getElem? (i := 7) rfl))) (by decide) (backOf (W := 1) (rm1 l Z a0 hw [] b_109 h_109 n0 z_109 A_109 F_nodes_b_109 F_size_b_109 gg_109) hZ (hw _ (List.mem_of_getElem? (i := 7) rfl)) (hw _ (List.mem_of_getElem? (i := 4) rfl)) (by decide) (by decide)) (g := (mkF m 41 #[.val (.int k), .val (.long q0), .second, .val (.long q1), .second, .val (.long q2), .second, .val (.long q3), .second, .val (.long q4), .second, .val (.int (3 : Int32)), .val (.ref b_103), .unset, .unset] [(.ref b_109), (.ref b_109)])) rfl (by rw [hml]; rfl) (Steps.refl _) (a := b_109) (argsL := []) (rest := [(.ref b_109)]) (lenOf pd_0 rfl) rfl (by show 2 * 0 + _ ≤ _; exact Nat.le_of_eq rfl) (hb hby at_41) (fun _ _ => ⟨rfl, e_109, (by decide : 2 + 1 ≤ _), (by decide : 7 + 8 ≤ _)⟩)
    dsimp only [Pt.U, Pt.locs, Pt.cells, Pt.slots] at X_110 l_110 y_110 z_110 st_110 hQ_110
    obtain rfl : kc_110 = 3 := y_110
    obtain rfl : nc_110 = 15 := z_110
    obtain ⟨h_110, e_110⟩ : ∃ hh, T_110.heap = hh := ⟨_, rfl⟩
    rw [e_110] at hQ_110
    obtain ⟨t__110, kt__110, rfl, N_110q, K_110, p_110_0, p_110_1, p_110_2, p_110_3, p_110_4, p_110_5⟩ := hQ_110
    have N_110 : Fr n0 L_110 := by rw [l_110]; exact Fr.app N_108 N_110q
    refine Go.st (fun _ kk => st_110.trans kk) ?_
    have f_111 := (V_108.ext E_109)
    have ne_b_103_t__110 : b_103 ≠ t__110 := Nat.ne_of_lt (Nat.lt_of_lt_of_le f_111.lt p_110_1)
    have ne_b_109_t__110 : b_109 ≠ t__110 := Nat.ne_of_lt (Nat.lt_of_lt_of_le A_109.lt p_110_1)
    have z_110q : n0 ≤ h_110.size := Nat.le_trans z_109 K_110.1
    show Go p e below s _ _ _ T_110 (mkF m 44 #[.val (.int k), .val (.long q0), .second, .val (.long q1), .second, .val (.long q2), .second, .val (.long q3), .second, .val (.long q4), .second, .val (.int (3 : Int32)), .val (.ref b_103), .unset, .unset] [(.ref b_109)])
    refine Go.st (fun _ => XS.astore X_110.here hx rfl (hb hby at_44) rfl rfl (l' := #[.val (.int k), .val (.long q0), .second, .val (.long q1), .second, .val (.long q2), .second, .val (.long q3), .second, .val (.long q4), .second, .val (.int (3 : Int32)), .val (.ref b_103), .val (.ref b_109), .unset]) rfl) ?_
    show Go p e below s _ _ _ T_110 (mkF m 46 #[.val (.int k), .val (.long q0), .second, .val (.long q1), .second, .val (.long q2), .second, .val (.long q3), .second, .val (.long q4), .second, .val (.int (3 : Int32)), .val (.ref b_103), .val (.ref b_109), .unset] [])
    refine Go.st (fun _ => XS.iload X_110.here hx rfl (hb hby at_46) rfl) ?_
    show Go p e below s _ _ _ T_110 (mkF m 48 #[.val (.int k), .val (.long q0), .second, .val (.long q1), .second, .val (.long q2), .second, .val (.long q3), .second, .val (.long q4), .second, .val (.int (3 : Int32)), .val (.ref b_103), .val (.ref b_109), .unset] [(.int (3 : Int32))])
    refine Go.st (fun _ => XS.ifNo X_110.here hx rfl (hb hby at_48) rfl ((if0 _ _).trans (tlt (by decide : (0 : Int32) < (3 : Int32))).2.2.2)) ?_
    show Go p e below s _ _ _ T_110 (mkF m 51 #[.val (.int k), .val (.long q0), .second, .val (.long q1), .second, .val (.long q2), .second, .val (.long q3), .second, .val (.long q4), .second, .val (.int (3 : Int32)), .val (.ref b_103), .val (.ref b_109), .unset] [])
    refine Go.st (fun _ => XS.aload X_110.here hx rfl (hb hby at_51) rfl rfl) ?_
    show Go p e below s _ _ _ T_110 (mkF m 53 #[.val (.int k), .val (.long q0), .second, .val (.long q1), .second, .val (.long q2), .second, .val (.long q3), .second, .val (.long q4), .second, .val (.int (3 : Int32)), .val (.ref b_103), .val (.ref b_109), .unset] [(.ref b_109)])
    refine Go.st (fun _ => XS.lloadN X_110.here hx rfl (hb hby at_53) rfl) ?_
    show Go p e below s _ _ _ T_110 (mkF m 54 #[.val (.int k), .val (.long q0), .second, .val (.long q1), .second, .val (.long q2), .second, .val (.long q3), .second, .val (.long q4), .second, .val (.int (3 : Int32)), .val (.ref b_103), .val (.ref b_109), .unset] [(.long q0), (.ref b_109)])
    obtain ⟨cq_112, kq_112, q_112a, q_112b, q_112c⟩ := isOf hZ e_110 p_110_2
    obtain ⟨_, _, ⟨T_112, L_112, kc_112, nc_112⟩, -, X_112, ⟨Lc_112, hQ_112, l_112, y_112, z_112⟩, st_112⟩ := X_110.virtualBack hx (y := (⟨"com/example/moat/moat/xpath/Handles", "add", "(J)V"⟩ : MethodName)) (z := (⟨"com/example/moat/moat/xpath/Handles", "add", "(J)V"⟩ : MethodName)) hown (mvT hZ (hw _ (List.mem_of_getElem? (i := 34) rfl))) (mvT hZ (hw _ (List.mem_of_getElem? (i := 35) rfl))) (notFace_of_selects (args := #[]) (mvT hZ (hw _ (List.mem_of_getElem? (i := 37) rfl)))) (mvT hZ (hw _ (List.mem_of_getElem? (i := 37) rfl))) (mvT hZ (hw _ (List.mem_of_getElem? (i := 36) rfl))) (by decide) (backOf (W := 0) (rm7 l Z a0 hw [] b_109 q0 t__110 kt__110 (0 : Int32) [(.long (0 : Int64)), (.long (0 : Int64)), (.long (0 : Int64)), (.long (0 : Int64)), (.long (0 : Int64)), (.long (0 : Int64)), (.long (0 : Int64)), (.long (0 : Int64))] (.long (0 : Int64)) h_110 n0 z_110q p_110_2 p_110_3 p_110_4 p_110_5 gg_109 p_110_0 ne_b_109_t__110 (by decide) (by decide) (show ((0 : Int32)).toNatClampNeg < 8 from by decide)) hZ (hw _ (List.mem_of_getElem? (i := 38) rfl)) (hw _ (List.mem_of_getElem? (i := 4) rfl)) (by decide) (by decide)) q_112a q_112c (g := (mkF m 54 #[.val (.int k), .val (.long q0), .second, .val (.long q1), .second, .val (.long q2), .second, .val (.long q3), .second, .val (.long q4), .second, .val (.int (3 : Int32)), .val (.ref b_103), .val (.ref b_109), .unset] [(.long q0), (.ref b_109)])) rfl (by rw [hml]; rfl) (Steps.refl _) (argsL := [(.long q0)]) (rest := []) (lenOf pd_4 rfl) rfl (by show 2 * 0 + _ ≤ _; exact Nat.le_of_eq rfl) (hb hby at_54) (fun _ _ => ⟨rfl, e_110, (by decide : 3 + 0 ≤ _), (by decide : 15 + 0 ≤ _)⟩)
    dsimp only [Pt.U, Pt.locs, Pt.cells, Pt.slots] at X_112 l_112 y_112 z_112 st_112 hQ_112
    obtain rfl : kc_112 = 3 := y_112
    obtain rfl : nc_112 = 15 := z_112
    obtain ⟨h_112, e_112⟩ : ∃ hh, T_112.heap = hh := ⟨_, rfl⟩
    rw [e_112] at hQ_112
    obtain ⟨rfl, N_112q, K_112, p_112_0, p_112_1, p_112_2, p_112_3⟩ := hQ_112
    have N_112 : Fr n0 L_112 := by rw [l_112]; exact Fr.app N_110 N_112q
    refine Go.st (fun _ kk => st_112.trans kk) ?_
    have z_112q : n0 ≤ h_112.size := Nat.le_trans z_110q K_112.1
    rw [show ((0 : Int32) + (1 : Int32)) = (1 : Int32) from by decide] at p_112_2
    have p_112_3' : Arv Z h_112 t__110 kt__110 .long (8 : Int32) [(.long q0), (.long (0 : Int64)), (.long (0 : Int64)), (.long (0 : Int64)), (.long (0 : Int64)), (.long (0 : Int64)), (.long (0 : Int64)), (.long (0 : Int64))] (.long (0 : Int64)) := p_112_3
    show Go p e below s _ _ _ T_112 (mkF m 57 #[.val (.int k), .val (.long q0), .second, .val (.long q1), .second, .val (.long q2), .second, .val (.long q3), .second, .val (.long q4), .second, .val (.int (3 : Int32)), .val (.ref b_103), .val (.ref b_109), .unset] [])
    refine Go.st (fun _ => XS.iload X_112.here hx rfl (hb hby at_57) rfl) ?_
    show Go p e below s _ _ _ T_112 (mkF m 59 #[.val (.int k), .val (.long q0), .second, .val (.long q1), .second, .val (.long q2), .second, .val (.long q3), .second, .val (.long q4), .second, .val (.int (3 : Int32)), .val (.ref b_103), .val (.ref b_109), .unset] [(.int (3 : Int32))])
    refine Go.st (fun _ => XS.iconst X_112.here hx rfl (hb hby at_59)) ?_
    show Go p e below s _ _ _ T_112 (mkF m 60 #[.val (.int k), .val (.long q0), .second, .val (.long q1), .second, .val (.long q2), .second, .val (.long q3), .second, .val (.long q4), .second, .val (.int (3 : Int32)), .val (.ref b_103), .val (.ref b_109), .unset] [(.int (1 : Int32)), (.int (3 : Int32))])
    refine Go.st (fun _ => XS.icmpNo X_112.here hx rfl (hb hby at_60) rfl (tlt (by decide : (1 : Int32) < (3 : Int32))).2.2.2) ?_
    show Go p e below s _ _ _ T_112 (mkF m 63 #[.val (.int k), .val (.long q0), .second, .val (.long q1), .second, .val (.long q2), .second, .val (.long q3), .second, .val (.long q4), .second, .val (.int (3 : Int32)), .val (.ref b_103), .val (.ref b_109), .unset] [])
    refine Go.st (fun _ => XS.aload X_112.here hx rfl (hb hby at_63) rfl rfl) ?_
    show Go p e below s _ _ _ T_112 (mkF m 65 #[.val (.int k), .val (.long q0), .second, .val (.long q1), .second, .val (.long q2), .second, .val (.long q3), .second, .val (.long q4), .second, .val (.int (3 : Int32)), .val (.ref b_103), .val (.ref b_109), .unset] [(.ref b_109)])
    refine Go.st (fun _ => XS.lloadN X_112.here hx rfl (hb hby at_65) rfl) ?_
    show Go p e below s _ _ _ T_112 (mkF m 66 #[.val (.int k), .val (.long q0), .second, .val (.long q1), .second, .val (.long q2), .second, .val (.long q3), .second, .val (.long q4), .second, .val (.int (3 : Int32)), .val (.ref b_103), .val (.ref b_109), .unset] [(.long q1), (.ref b_109)])
    obtain ⟨cq_113, kq_113, q_113a, q_113b, q_113c⟩ := isOf hZ e_112 p_112_0
    obtain ⟨_, _, ⟨T_113, L_113, kc_113, nc_113⟩, -, X_113, ⟨Lc_113, hQ_113, l_113, y_113, z_113⟩, st_113⟩ := X_112.virtualBack hx (y := (⟨"com/example/moat/moat/xpath/Handles", "add", "(J)V"⟩ : MethodName)) (z := (⟨"com/example/moat/moat/xpath/Handles", "add", "(J)V"⟩ : MethodName)) hown (mvT hZ (hw _ (List.mem_of_getElem? (i := 34) rfl))) (mvT hZ (hw _ (List.mem_of_getElem? (i := 35) rfl))) (notFace_of_selects (args := #[]) (mvT hZ (hw _ (List.mem_of_getElem? (i := 37) rfl)))) (mvT hZ (hw _ (List.mem_of_getElem? (i := 37) rfl))) (mvT hZ (hw _ (List.mem_of_getElem? (i := 36) rfl))) (by decide) (backOf (W := 0) (rm7 l Z a0 hw [] b_109 q1 t__110 kt__110 (1 : Int32) [(.long q0), (.long (0 : Int64)), (.long (0 : Int64)), (.long (0 : Int64)), (.long (0 : Int64)), (.long (0 : Int64)), (.long (0 : Int64)), (.long (0 : Int64))] (.long (0 : Int64)) h_112 n0 z_112q p_112_0 p_112_1 p_112_2 p_112_3' gg_109 p_110_0 ne_b_109_t__110 (by decide) (by decide) (show ((1 : Int32)).toNatClampNeg < 8 from by decide)) hZ (hw _ (List.mem_of_getElem? (i := 38) rfl)) (hw _ (List.mem_of_getElem? (i := 4) rfl)) (by decide) (by decide)) q_113a q_113c (g := (mkF m 66 #[.val (.int k), .val (.long q0), .second, .val (.long q1), .second, .val (.long q2), .second, .val (.long q3), .second, .val (.long q4), .second, .val (.int (3 : Int32)), .val (.ref b_103), .val (.ref b_109), .unset] [(.long q1), (.ref b_109)])) rfl (by rw [hml]; rfl) (Steps.refl _) (argsL := [(.long q1)]) (rest := []) (lenOf pd_4 rfl) rfl (by show 2 * 0 + _ ≤ _; exact Nat.le_of_eq rfl) (hb hby at_66) (fun _ _ => ⟨rfl, e_112, (by decide : 3 + 0 ≤ _), (by decide : 15 + 0 ≤ _)⟩)
    dsimp only [Pt.U, Pt.locs, Pt.cells, Pt.slots] at X_113 l_113 y_113 z_113 st_113 hQ_113
    obtain rfl : kc_113 = 3 := y_113
    obtain rfl : nc_113 = 15 := z_113
    obtain ⟨h_113, e_113⟩ : ∃ hh, T_113.heap = hh := ⟨_, rfl⟩
    rw [e_113] at hQ_113
    obtain ⟨rfl, N_113q, K_113, p_113_0, p_113_1, p_113_2, p_113_3⟩ := hQ_113
    have N_113 : Fr n0 L_113 := by rw [l_113]; exact Fr.app N_112 N_113q
    refine Go.st (fun _ kk => st_113.trans kk) ?_
    have z_113q : n0 ≤ h_113.size := Nat.le_trans z_112q K_113.1
    rw [show ((1 : Int32) + (1 : Int32)) = (2 : Int32) from by decide] at p_113_2
    have p_113_3' : Arv Z h_113 t__110 kt__110 .long (8 : Int32) [(.long q0), (.long q1), (.long (0 : Int64)), (.long (0 : Int64)), (.long (0 : Int64)), (.long (0 : Int64)), (.long (0 : Int64)), (.long (0 : Int64))] (.long (0 : Int64)) := p_113_3
    show Go p e below s _ _ _ T_113 (mkF m 69 #[.val (.int k), .val (.long q0), .second, .val (.long q1), .second, .val (.long q2), .second, .val (.long q3), .second, .val (.long q4), .second, .val (.int (3 : Int32)), .val (.ref b_103), .val (.ref b_109), .unset] [])
    refine Go.st (fun _ => XS.iload X_113.here hx rfl (hb hby at_69) rfl) ?_
    show Go p e below s _ _ _ T_113 (mkF m 71 #[.val (.int k), .val (.long q0), .second, .val (.long q1), .second, .val (.long q2), .second, .val (.long q3), .second, .val (.long q4), .second, .val (.int (3 : Int32)), .val (.ref b_103), .val (.ref b_109), .unset] [(.int (3 : Int32))])
    refine Go.st (fun _ => XS.iconst X_113.here hx rfl (hb hby at_71)) ?_
    show Go p e below s _ _ _ T_113 (mkF m 72 #[.val (.int k), .val (.long q0), .second, .val (.long q1), .second, .val (.long q2), .second, .val (.long q3), .second, .val (.long q4), .second, .val (.int (3 : Int32)), .val (.ref b_103), .val (.ref b_109), .unset] [(.int (2 : Int32)), (.int (3 : Int32))])
    refine Go.st (fun _ => XS.icmpNo X_113.here hx rfl (hb hby at_72) rfl (tlt (by decide : (2 : Int32) < (3 : Int32))).2.2.2) ?_
    show Go p e below s _ _ _ T_113 (mkF m 75 #[.val (.int k), .val (.long q0), .second, .val (.long q1), .second, .val (.long q2), .second, .val (.long q3), .second, .val (.long q4), .second, .val (.int (3 : Int32)), .val (.ref b_103), .val (.ref b_109), .unset] [])
    refine Go.st (fun _ => XS.aload X_113.here hx rfl (hb hby at_75) rfl rfl) ?_
    show Go p e below s _ _ _ T_113 (mkF m 77 #[.val (.int k), .val (.long q0), .second, .val (.long q1), .second, .val (.long q2), .second, .val (.long q3), .second, .val (.long q4), .second, .val (.int (3 : Int32)), .val (.ref b_103), .val (.ref b_109), .unset] [(.ref b_109)])
    refine Go.st (fun _ => XS.lload X_113.here hx rfl (hb hby at_77) rfl) ?_
    show Go p e below s _ _ _ T_113 (mkF m 79 #[.val (.int k), .val (.long q0), .second, .val (.long q1), .second, .val (.long q2), .second, .val (.long q3), .second, .val (.long q4), .second, .val (.int (3 : Int32)), .val (.ref b_103), .val (.ref b_109), .unset] [(.long q2), (.ref b_109)])
    obtain ⟨cq_114, kq_114, q_114a, q_114b, q_114c⟩ := isOf hZ e_113 p_113_0
    obtain ⟨_, _, ⟨T_114, L_114, kc_114, nc_114⟩, -, X_114, ⟨Lc_114, hQ_114, l_114, y_114, z_114⟩, st_114⟩ := X_113.virtualBack hx (y := (⟨"com/example/moat/moat/xpath/Handles", "add", "(J)V"⟩ : MethodName)) (z := (⟨"com/example/moat/moat/xpath/Handles", "add", "(J)V"⟩ : MethodName)) hown (mvT hZ (hw _ (List.mem_of_getElem? (i := 34) rfl))) (mvT hZ (hw _ (List.mem_of_getElem? (i := 35) rfl))) (notFace_of_selects (args := #[]) (mvT hZ (hw _ (List.mem_of_getElem? (i := 37) rfl)))) (mvT hZ (hw _ (List.mem_of_getElem? (i := 37) rfl))) (mvT hZ (hw _ (List.mem_of_getElem? (i := 36) rfl))) (by decide) (backOf (W := 0) (rm7 l Z a0 hw [] b_109 q2 t__110 kt__110 (2 : Int32) [(.long q0), (.long q1), (.long (0 : Int64)), (.long (0 : Int64)), (.long (0 : Int64)), (.long (0 : Int64)), (.long (0 : Int64)), (.long (0 : Int64))] (.long (0 : Int64)) h_113 n0 z_113q p_113_0 p_113_1 p_113_2 p_113_3' gg_109 p_110_0 ne_b_109_t__110 (by decide) (by decide) (show ((2 : Int32)).toNatClampNeg < 8 from by decide)) hZ (hw _ (List.mem_of_getElem? (i := 38) rfl)) (hw _ (List.mem_of_getElem? (i := 4) rfl)) (by decide) (by decide)) q_114a q_114c (g := (mkF m 79 #[.val (.int k), .val (.long q0), .second, .val (.long q1), .second, .val (.long q2), .second, .val (.long q3), .second, .val (.long q4), .second, .val (.int (3 : Int32)), .val (.ref b_103), .val (.ref b_109), .unset] [(.long q2), (.ref b_109)])) rfl (by rw [hml]; rfl) (Steps.refl _) (argsL := [(.long q2)]) (rest := []) (lenOf pd_4 rfl) rfl (by show 2 * 0 + _ ≤ _; exact Nat.le_of_eq rfl) (hb hby at_79) (fun _ _ => ⟨rfl, e_113, (by decide : 3 + 0 ≤ _), (by decide : 15 + 0 ≤ _)⟩)
    dsimp only [Pt.U, Pt.locs, Pt.cells, Pt.slots] at X_114 l_114 y_114 z_114 st_114 hQ_114
    obtain rfl : kc_114 = 3 := y_114
    obtain rfl : nc_114 = 15 := z_114
    obtain ⟨h_114, e_114⟩ : ∃ hh, T_114.heap = hh := ⟨_, rfl⟩
    rw [e_114] at hQ_114
    obtain ⟨rfl, N_114q, K_114, p_114_0, p_114_1, p_114_2, p_114_3⟩ := hQ_114
    have N_114 : Fr n0 L_114 := by rw [l_114]; exact Fr.app N_113 N_114q
    refine Go.st (fun _ kk => st_114.trans kk) ?_
    have z_114q : n0 ≤ h_114.size := Nat.le_trans z_113q K_114.1
    rw [show ((2 : Int32) + (1 : Int32)) = (3 : Int32) from by decide] at p_114_2
    have p_114_3' : Arv Z h_114 t__110 kt__110 .long (8 : Int32) [(.long q0), (.long q1), (.long q2), (.long (0 : Int64)), (.long (0 : Int64)), (.long (0 : Int64)), (.long (0 : Int64)), (.long (0 : Int64))] (.long (0 : Int64)) := p_114_3
    show Go p e below s _ _ _ T_114 (mkF m 82 #[.val (.int k), .val (.long q0), .second, .val (.long q1), .second, .val (.long q2), .second, .val (.long q3), .second, .val (.long q4), .second, .val (.int (3 : Int32)), .val (.ref b_103), .val (.ref b_109), .unset] [])
    refine Go.st (fun _ => XS.iload X_114.here hx rfl (hb hby at_82) rfl) ?_
    show Go p e below s _ _ _ T_114 (mkF m 84 #[.val (.int k), .val (.long q0), .second, .val (.long q1), .second, .val (.long q2), .second, .val (.long q3), .second, .val (.long q4), .second, .val (.int (3 : Int32)), .val (.ref b_103), .val (.ref b_109), .unset] [(.int (3 : Int32))])
    refine Go.st (fun _ => XS.iconst X_114.here hx rfl (hb hby at_84)) ?_
    show Go p e below s _ _ _ T_114 (mkF m 85 #[.val (.int k), .val (.long q0), .second, .val (.long q1), .second, .val (.long q2), .second, .val (.long q3), .second, .val (.long q4), .second, .val (.int (3 : Int32)), .val (.ref b_103), .val (.ref b_109), .unset] [(.int (3 : Int32)), (.int (3 : Int32))])
    refine Go.st (fun _ => XS.icmpYes X_114.here hx rfl (pc0 := 85) (pc' := 95) rfl (hb hby at_85) rfl (flt (by decide : ¬ ((3 : Int32) < (3 : Int32)))).2.2.2 (by decide) (by decide)) ?_
    show Go p e below s _ _ _ T_114 (mkF m 95 #[.val (.int k), .val (.long q0), .second, .val (.long q1), .second, .val (.long q2), .second, .val (.long q3), .second, .val (.long q4), .second, .val (.int (3 : Int32)), .val (.ref b_103), .val (.ref b_109), .unset] [])
    refine Go.st (fun _ => XS.iload X_114.here hx rfl (hb hby at_95) rfl) ?_
    show Go p e below s _ _ _ T_114 (mkF m 97 #[.val (.int k), .val (.long q0), .second, .val (.long q1), .second, .val (.long q2), .second, .val (.long q3), .second, .val (.long q4), .second, .val (.int (3 : Int32)), .val (.ref b_103), .val (.ref b_109), .unset] [(.int (3 : Int32))])
    refine Go.st (fun _ => XS.iconst X_114.here hx rfl (hb hby at_97)) ?_
    show Go p e below s _ _ _ T_114 (mkF m 98 #[.val (.int k), .val (.long q0), .second, .val (.long q1), .second, .val (.long q2), .second, .val (.long q3), .second, .val (.long q4), .second, .val (.int (3 : Int32)), .val (.ref b_103), .val (.ref b_109), .unset] [(.int (4 : Int32)), (.int (3 : Int32))])
    refine Go.st (fun _ => XS.icmpYes X_114.here hx rfl (pc0 := 98) (pc' := 108) rfl (hb hby at_98) rfl (flt (by decide : ¬ ((4 : Int32) < (3 : Int32)))).2.2.2 (by decide) (by decide)) ?_
    show Go p e below s _ _ _ T_114 (mkF m 108 #[.val (.int k), .val (.long q0), .second, .val (.long q1), .second, .val (.long q2), .second, .val (.long q3), .second, .val (.long q4), .second, .val (.int (3 : Int32)), .val (.ref b_103), .val (.ref b_109), .unset] [])
    refine Go.st (fun _ => XS.aload X_114.here hx rfl (hb hby at_108) rfl rfl) ?_
    show Go p e below s _ _ _ T_114 (mkF m 110 #[.val (.int k), .val (.long q0), .second, .val (.long q1), .second, .val (.long q2), .second, .val (.long q3), .second, .val (.long q4), .second, .val (.int (3 : Int32)), .val (.ref b_103), .val (.ref b_109), .unset] [(.ref b_109)])
    obtain ⟨cq_115, kq_115, q_115a, q_115b, q_115c⟩ := isOf hZ e_114 p_114_0
    obtain ⟨_, _, ⟨T_115, L_115, kc_115, nc_115⟩, -, X_115, ⟨Lc_115, hQ_115, l_115, y_115, z_115⟩, st_115⟩ := X_114.virtualBack hx (y := (⟨"com/example/moat/moat/xpath/Handles", "reverse", "()V"⟩ : MethodName)) (z := (⟨"com/example/moat/moat/xpath/Handles", "reverse", "()V"⟩ : MethodName)) hown (mvT hZ (hw _ (List.mem_of_getElem? (i := 13) rfl))) (mvT hZ (hw _ (List.mem_of_getElem? (i := 14) rfl))) (notFace_of_selects (args := #[]) (mvT hZ (hw _ (List.mem_of_getElem? (i := 16) rfl)))) (mvT hZ (hw _ (List.mem_of_getElem? (i := 16) rfl))) (mvT hZ (hw _ (List.mem_of_getElem? (i := 15) rfl))) (by decide) (backOf (W := 0) (rmR3 l Z a0 hw [] b_109 t__110 kt__110 q0 q1 q2 (0 : Int64) (0 : Int64) (0 : Int64) (0 : Int64) (0 : Int64) h_114 n0 z_114q p_114_1 p_114_2 p_114_3' p_110_0 ne_b_109_t__110) hZ (hw _ (List.mem_of_getElem? (i := 17) rfl)) (hw _ (List.mem_of_getElem? (i := 4) rfl)) (by decide) (by decide)) q_115a q_115c (g := (mkF m 110 #[.val (.int k), .val (.long q0), .second, .val (.long q1), .second, .val (.long q2), .second, .val (.long q3), .second, .val (.long q4), .second, .val (.int (3 : Int32)), .val (.ref b_103), .val (.ref b_109), .unset] [(.ref b_109)])) rfl (by rw [hml]; rfl) (Steps.refl _) (argsL := []) (rest := []) (lenOf pd_0 rfl) rfl (by show 2 * 0 + _ ≤ _; exact Nat.le_of_eq rfl) (hb hby at_110) (fun _ _ => ⟨rfl, e_114, (by decide : 3 + 0 ≤ _), (by decide : 15 + 0 ≤ _)⟩)
    dsimp only [Pt.U, Pt.locs, Pt.cells, Pt.slots] at X_115 l_115 y_115 z_115 st_115 hQ_115
    obtain rfl : kc_115 = 3 := y_115
    obtain rfl : nc_115 = 15 := z_115
    obtain ⟨h_115, e_115⟩ : ∃ hh, T_115.heap = hh := ⟨_, rfl⟩
    rw [e_115] at hQ_115
    obtain ⟨rfl, N_115q, K_115, p_115_0⟩ := hQ_115
    have N_115 : Fr n0 L_115 := by rw [l_115]; exact Fr.app N_114 N_115q
    refine Go.st (fun _ kk => st_115.trans kk) ?_
    have z_115q : n0 ≤ h_115.size := Nat.le_trans z_114q K_115.1
    show Go p e below s _ _ _ T_115 (mkF m 113 #[.val (.int k), .val (.long q0), .second, .val (.long q1), .second, .val (.long q2), .second, .val (.long q3), .second, .val (.long q4), .second, .val (.int (3 : Int32)), .val (.ref b_103), .val (.ref b_109), .unset] [])
    refine Go.st (fun _ => XS.aload X_115.here hx rfl (hb hby at_113) rfl rfl) ?_
    show Go p e below s _ _ _ T_115 (mkF m 115 #[.val (.int k), .val (.long q0), .second, .val (.long q1), .second, .val (.long q2), .second, .val (.long q3), .second, .val (.long q4), .second, .val (.int (3 : Int32)), .val (.ref b_103), .val (.ref b_109), .unset] [(.ref b_109)])
    have f_117 := (p_114_2.keep K_115 (ninS ne_b_109_t__110 nin0))
    have f_118 := (p_114_0.keep K_115)
    obtain ⟨cq_116, kq_116, q_116a, q_116b, q_116c⟩ := isOf hZ e_115 f_118
    obtain ⟨_, _, ⟨T_116, L_116, kc_116, nc_116⟩, -, X_116, ⟨Lc_116, hQ_116, l_116, y_116, z_116⟩, st_116⟩ := X_115.virtualBack hx (y := (⟨"com/example/moat/moat/xpath/Handles", "size", "()I"⟩ : MethodName)) (z := (⟨"com/example/moat/moat/xpath/Handles", "size", "()I"⟩ : MethodName)) hown (mvT hZ (hw _ (List.mem_of_getElem? (i := 20) rfl))) (mvT hZ (hw _ (List.mem_of_getElem? (i := 21) rfl))) (notFace_of_selects (args := #[]) (mvT hZ (hw _ (List.mem_of_getElem? (i := 23) rfl)))) (mvT hZ (hw _ (List.mem_of_getElem? (i := 23) rfl))) (mvT hZ (hw _ (List.mem_of_getElem? (i := 22) rfl))) (by decide) (backOf (W := 0) (rm4 l Z a0 hw [] b_109 (3 : Int32) h_115 n0 z_115q f_117) hZ (hw _ (List.mem_of_getElem? (i := 24) rfl)) (hw _ (List.mem_of_getElem? (i := 4) rfl)) (by decide) (by decide)) q_116a q_116c (g := (mkF m 115 #[.val (.int k), .val (.long q0), .second, .val (.long q1), .second, .val (.long q2), .second, .val (.long q3), .second, .val (.long q4), .second, .val (.int (3 : Int32)), .val (.ref b_103), .val (.ref b_109), .unset] [(.ref b_109)])) rfl (by rw [hml]; rfl) (Steps.refl _) (argsL := []) (rest := []) (lenOf pd_1 rfl) rfl (by show 2 * 0 + _ ≤ _; exact Nat.le_of_eq rfl) (hb hby at_115) (fun _ _ => ⟨rfl, e_115, (by decide : 3 + 0 ≤ _), (by decide : 15 + 0 ≤ _)⟩)
    dsimp only [Pt.U, Pt.locs, Pt.cells, Pt.slots] at X_116 l_116 y_116 z_116 st_116 hQ_116
    obtain rfl : kc_116 = 3 := y_116
    obtain rfl : nc_116 = 15 := z_116
    obtain ⟨h_116, e_116⟩ : ∃ hh, T_116.heap = hh := ⟨_, rfl⟩
    rw [e_116] at hQ_116
    obtain ⟨rfl, N_116q, sm_116⟩ := hQ_116
    have N_116 : Fr n0 L_116 := by rw [l_116]; exact Fr.app N_115 N_116q
    refine Go.st (fun _ kk => st_116.trans kk) ?_
    rw [sm_116] at e_116
    show Go p e below s _ _ _ T_116 (mkF m 118 #[.val (.int k), .val (.long q0), .second, .val (.long q1), .second, .val (.long q2), .second, .val (.long q3), .second, .val (.long q4), .second, .val (.int (3 : Int32)), .val (.ref b_103), .val (.ref b_109), .unset] [(.int (3 : Int32))])
    refine Go.st (fun _ => XS.iload X_116.here hx rfl (hb hby at_118) rfl) ?_
    show Go p e below s _ _ _ T_116 (mkF m 120 #[.val (.int k), .val (.long q0), .second, .val (.long q1), .second, .val (.long q2), .second, .val (.long q3), .second, .val (.long q4), .second, .val (.int (3 : Int32)), .val (.ref b_103), .val (.ref b_109), .unset] [(.int (3 : Int32)), (.int (3 : Int32))])
    refine Go.st (fun _ => XS.icmpYes X_116.here hx rfl (pc0 := 120) (pc' := 125) rfl (hb hby at_120) rfl (teq (by decide : (3 : Int32) = (3 : Int32))).1 (by decide) (by decide)) ?_
    show Go p e below s _ _ _ T_116 (mkF m 125 #[.val (.int k), .val (.long q0), .second, .val (.long q1), .second, .val (.long q2), .second, .val (.long q3), .second, .val (.long q4), .second, .val (.int (3 : Int32)), .val (.ref b_103), .val (.ref b_109), .unset] [])
    refine Go.st (fun _ => XS.aload X_116.here hx rfl (hb hby at_125) rfl rfl) ?_
    show Go p e below s _ _ _ T_116 (mkF m 127 #[.val (.int k), .val (.long q0), .second, .val (.long q1), .second, .val (.long q2), .second, .val (.long q3), .second, .val (.long q4), .second, .val (.int (3 : Int32)), .val (.ref b_103), .val (.ref b_109), .unset] [(.ref b_109)])
    have f_120 := (p_114_1.keep K_115 (ninS ne_b_109_t__110 nin0))
    obtain ⟨cq_119, kq_119, q_119a, q_119b, q_119c⟩ := isOf hZ e_116 f_118
    obtain ⟨_, _, ⟨T_119, L_119, kc_119, nc_119⟩, -, X_119, ⟨Lc_119, hQ_119, l_119, y_119, z_119⟩, st_119⟩ := X_116.virtualBack hx (y := (⟨"com/example/moat/moat/xpath/Handles", "array", "()[J"⟩ : MethodName)) (z := (⟨"com/example/moat/moat/xpath/Handles", "array", "()[J"⟩ : MethodName)) hown (mvT hZ (hw _ (List.mem_of_getElem? (i := 25) rfl))) (mvT hZ (hw _ (List.mem_of_getElem? (i := 26) rfl))) (notFace_of_selects (args := #[]) (mvT hZ (hw _ (List.mem_of_getElem? (i := 28) rfl)))) (mvT hZ (hw _ (List.mem_of_getElem? (i := 28) rfl))) (mvT hZ (hw _ (List.mem_of_getElem? (i := 27) rfl))) (by decide) (backOf (W := 0) (rm5 l Z a0 hw [] b_109 t__110 h_115 n0 z_115q f_120) hZ (hw _ (List.mem_of_getElem? (i := 29) rfl)) (hw _ (List.mem_of_getElem? (i := 4) rfl)) (by decide) (by decide)) q_119a q_119c (g := (mkF m 127 #[.val (.int k), .val (.long q0), .second, .val (.long q1), .second, .val (.long q2), .second, .val (.long q3), .second, .val (.long q4), .second, .val (.int (3 : Int32)), .val (.ref b_103), .val (.ref b_109), .unset] [(.ref b_109)])) rfl (by rw [hml]; rfl) (Steps.refl _) (argsL := []) (rest := []) (lenOf pd_2 rfl) rfl (by show 2 * 0 + _ ≤ _; exact Nat.le_of_eq rfl) (hb hby at_127) (fun _ _ => ⟨rfl, e_116, (by decide : 3 + 0 ≤ _), (by decide : 15 + 0 ≤ _)⟩)
    dsimp only [Pt.U, Pt.locs, Pt.cells, Pt.slots] at X_119 l_119 y_119 z_119 st_119 hQ_119
    obtain rfl : kc_119 = 3 := y_119
    obtain rfl : nc_119 = 15 := z_119
    obtain ⟨h_119, e_119⟩ : ∃ hh, T_119.heap = hh := ⟨_, rfl⟩
    rw [e_119] at hQ_119
    obtain ⟨rfl, N_119q, sm_119⟩ := hQ_119
    have N_119 : Fr n0 L_119 := by rw [l_119]; exact Fr.app N_116 N_119q
    refine Go.st (fun _ kk => st_119.trans kk) ?_
    rw [sm_119] at e_119
    show Go p e below s _ _ _ T_119 (mkF m 130 #[.val (.int k), .val (.long q0), .second, .val (.long q1), .second, .val (.long q2), .second, .val (.long q3), .second, .val (.long q4), .second, .val (.int (3 : Int32)), .val (.ref b_103), .val (.ref b_109), .unset] [(.ref t__110)])
    refine Go.st (fun _ => XS.astore X_119.here hx rfl (hb hby at_130) rfl rfl (l' := #[.val (.int k), .val (.long q0), .second, .val (.long q1), .second, .val (.long q2), .second, .val (.long q3), .second, .val (.long q4), .second, .val (.int (3 : Int32)), .val (.ref b_103), .val (.ref b_109), .val (.ref t__110)]) rfl) ?_
    show Go p e below s _ _ _ T_119 (mkF m 132 #[.val (.int k), .val (.long q0), .second, .val (.long q1), .second, .val (.long q2), .second, .val (.long q3), .second, .val (.long q4), .second, .val (.int (3 : Int32)), .val (.ref b_103), .val (.ref b_109), .val (.ref t__110)] [])
    refine Go.st (fun _ => XS.aload X_119.here hx rfl (hb hby at_132) rfl rfl) ?_
    show Go p e below s _ _ _ T_119 (mkF m 134 #[.val (.int k), .val (.long q0), .second, .val (.long q1), .second, .val (.long q2), .second, .val (.long q3), .second, .val (.long q4), .second, .val (.int (3 : Int32)), .val (.ref b_103), .val (.ref b_109), .val (.ref t__110)] [(.ref t__110)])
    obtain ⟨cl_121, Ar_121, q_121, S_121, M_121, H_121, G_121⟩ := id p_115_0
    refine Go.st (fun tG => X_119.arraylength hx (by rw [e_119]; exact Ar_121.1) (State.isArrayOf_alike hZ.alike Ar_121.2.1) (g := (mkF m 134 #[.val (.int k), .val (.long q0), .second, .val (.long q1), .second, .val (.long q2), .second, .val (.long q3), .second, .val (.long q4), .second, .val (.int (3 : Int32)), .val (.ref b_103), .val (.ref b_109), .val (.ref t__110)] [(.ref t__110)])) rfl rfl (hb hby at_134) tG) ?_
    rw [len_of S_121 M_121]
    show Go p e below s _ _ _ T_119 (mkF m 135 #[.val (.int k), .val (.long q0), .second, .val (.long q1), .second, .val (.long q2), .second, .val (.long q3), .second, .val (.long q4), .second, .val (.int (3 : Int32)), .val (.ref b_103), .val (.ref b_109), .val (.ref t__110)] [(.int (8 : Int32))])
    refine Go.st (fun _ => XS.bipush X_119.here hx rfl (hb hby at_135)) ?_
    show Go p e below s _ _ _ T_119 (mkF m 137 #[.val (.int k), .val (.long q0), .second, .val (.long q1), .second, .val (.long q2), .second, .val (.long q3), .second, .val (.long q4), .second, .val (.int (3 : Int32)), .val (.ref b_103), .val (.ref b_109), .val (.ref t__110)] [(.int (8 : Int32)), (.int (8 : Int32))])
    refine Go.st (fun _ => XS.icmpYes X_119.here hx rfl (pc0 := 137) (pc' := 142) rfl (hb hby at_137) rfl (teq (by decide : (8 : Int32) = (8 : Int32))).1 (by decide) (by decide)) ?_
    show Go p e below s _ _ _ T_119 (mkF m 142 #[.val (.int k), .val (.long q0), .second, .val (.long q1), .second, .val (.long q2), .second, .val (.long q3), .second, .val (.long q4), .second, .val (.int (3 : Int32)), .val (.ref b_103), .val (.ref b_109), .val (.ref t__110)] [])
    refine Go.st (fun _ => XS.aload X_119.here hx rfl (hb hby at_142) rfl rfl) ?_
    show Go p e below s _ _ _ T_119 (mkF m 144 #[.val (.int k), .val (.long q0), .second, .val (.long q1), .second, .val (.long q2), .second, .val (.long q3), .second, .val (.long q4), .second, .val (.int (3 : Int32)), .val (.ref b_103), .val (.ref b_109), .val (.ref t__110)] [(.ref t__110)])
    refine Go.st (fun _ => XS.iconst X_119.here hx rfl (hb hby at_144)) ?_
    show Go p e below s _ _ _ T_119 (mkF m 145 #[.val (.int k), .val (.long q0), .second, .val (.long q1), .second, .val (.long q2), .second, .val (.long q3), .second, .val (.long q4), .second, .val (.int (3 : Int32)), .val (.ref b_103), .val (.ref b_109), .val (.ref t__110)] [(.int (0 : Int32)), (.ref t__110)])
    obtain ⟨cl_122, Ar_122, q_122, S_122, M_122, H_122, G_122⟩ := id p_115_0
    have hin_122 : ¬ ((0 : Int32) < 0 ∨ cl_122.slots.size ≤ ((0 : Int32)).toNatClampNeg) := inb_of S_122 ⟨by decide, by decide⟩
    have hat_122 : cl_122.slots[((0 : Int32)).toNatClampNeg]? = some (.long q2) := H_122.at hin_122 rfl
    refine Go.st (fun tG => X_119.laload hx (j := (0 : Int32)) (v := (.long q2)) (by rw [e_119]; exact Ar_122.1) (State.isArrayOf_alike hZ.alike Ar_122.2.1) Ar_122.2.2 hin_122 hat_122 (g := (mkF m 145 #[.val (.int k), .val (.long q0), .second, .val (.long q1), .second, .val (.long q2), .second, .val (.long q3), .second, .val (.long q4), .second, .val (.int (3 : Int32)), .val (.ref b_103), .val (.ref b_109), .val (.ref t__110)] [(.int (0 : Int32)), (.ref t__110)])) rfl rfl (hb hby at_145) tG) ?_
    show Go p e below s _ _ _ T_119 (mkF m 146 #[.val (.int k), .val (.long q0), .second, .val (.long q1), .second, .val (.long q2), .second, .val (.long q3), .second, .val (.long q4), .second, .val (.int (3 : Int32)), .val (.ref b_103), .val (.ref b_109), .val (.ref t__110)] [(.long q2)])
    refine Go.st (fun _ => XS.aload X_119.here hx rfl (hb hby at_146) rfl rfl) ?_
    show Go p e below s _ _ _ T_119 (mkF m 148 #[.val (.int k), .val (.long q0), .second, .val (.long q1), .second, .val (.long q2), .second, .val (.long q3), .second, .val (.long q4), .second, .val (.int (3 : Int32)), .val (.ref b_103), .val (.ref b_109), .val (.ref t__110)] [(.ref b_103), (.long q2)])
    refine Go.st (fun _ => XS.iload X_119.here hx rfl (hb hby at_148) rfl) ?_
    show Go p e below s _ _ _ T_119 (mkF m 150 #[.val (.int k), .val (.long q0), .second, .val (.long q1), .second, .val (.long q2), .second, .val (.long q3), .second, .val (.long q4), .second, .val (.int (3 : Int32)), .val (.ref b_103), .val (.ref b_109), .val (.ref t__110)] [(.int (3 : Int32)), (.ref b_103), (.long q2)])
    refine Go.st (fun _ => XS.iconst X_119.here hx rfl (hb hby at_150)) ?_
    show Go p e below s _ _ _ T_119 (mkF m 151 #[.val (.int k), .val (.long q0), .second, .val (.long q1), .second, .val (.long q2), .second, .val (.long q3), .second, .val (.long q4), .second, .val (.int (3 : Int32)), .val (.ref b_103), .val (.ref b_109), .val (.ref t__110)] [(.int (0 : Int32)), (.int (3 : Int32)), (.ref b_103), (.long q2)])
    have f_124 := (((((f_111.keep K_110 (ninS ne_b_103_b_109 nin0)).keep K_112 (ninS ne_b_103_b_109 (ninS ne_b_103_t__110 nin0))).keep K_113 (ninS ne_b_103_b_109 (ninS ne_b_103_t__110 nin0))).keep K_114 (ninS ne_b_103_b_109 (ninS ne_b_103_t__110 nin0))).keep K_115 (ninS ne_b_103_t__110 nin0))
    obtain ⟨_, _, ⟨T_123, L_123, kc_123, nc_123⟩, -, X_123, ⟨Lc_123, hQ_123, l_123, y_123, z_123⟩, st_123⟩ := Jvm.LawKit.callS X_119 hx (y := (⟨"com/example/moat/moat/xpath/HandlesReversePinLaw", "exp", "([JII)J"⟩ : MethodName)) hown (mvT hZ (hw _ (List.mem_of_getElem? (i := 30) rfl))) (mvT hZ (hw _ (List.mem_of_getElem? (i := 31) rfl))) (mvT hZ (hw _ (List.mem_of_getElem? (i := 32) rfl))) (mvT hZ (hw _ (List.mem_of_getElem? (i := 33) rfl))) (by decide) (backOf (W := 2) (rmXa l Z a0 hw [] b_103 (3 : Int32) (0 : Int32) kA_103 (5 : Int32) [(.long q0), (.long q1), (.long q2), (.long q3), (.long q4)] (.long (0 : Int64)) q2 h_115 n0 z_115q f_124 (by decide) (by decide) rfl) hZ (hw _ (List.mem_of_getElem? (i := 33) rfl)) (hw _ (List.mem_of_getElem? (i := 32) rfl)) (by decide) (by decide)) (g := (mkF m 151 #[.val (.int k), .val (.long q0), .second, .val (.long q1), .second, .val (.long q2), .second, .val (.long q3), .second, .val (.long q4), .second, .val (.int (3 : Int32)), .val (.ref b_103), .val (.ref b_109), .val (.ref t__110)] [(.int (0 : Int32)), (.int (3 : Int32)), (.ref b_103), (.long q2)])) rfl (by rw [hml]; rfl) (argsL := [(.ref b_103), (.int (3 : Int32)), (.int (0 : Int32))]) (rest := [(.long q2)]) (lenOf pd_3 rfl) rfl (by show 2 * 0 + _ ≤ _; exact Nat.le_of_eq rfl) (hb hby at_151) (fun _ _ => ⟨rfl, e_119, (by decide : 3 + 0 ≤ _), (by decide : 15 + 0 ≤ _)⟩)
    dsimp only [Pt.U, Pt.locs, Pt.cells, Pt.slots] at X_123 l_123 y_123 z_123 st_123 hQ_123
    obtain rfl : kc_123 = 3 := y_123
    obtain rfl : nc_123 = 15 := z_123
    obtain ⟨h_123, e_123⟩ : ∃ hh, T_123.heap = hh := ⟨_, rfl⟩
    rw [e_123] at hQ_123
    obtain ⟨rfl, N_123q, sm_123⟩ := hQ_123
    have N_123 : Fr n0 L_123 := by rw [l_123]; exact Fr.app N_119 N_123q
    refine Go.st st_123 ?_
    rw [sm_123] at e_123
    show Go p e below s _ _ _ T_123 (mkF m 154 #[.val (.int k), .val (.long q0), .second, .val (.long q1), .second, .val (.long q2), .second, .val (.long q3), .second, .val (.long q4), .second, .val (.int (3 : Int32)), .val (.ref b_103), .val (.ref b_109), .val (.ref t__110)] [(.long q2), (.long q2)])
    refine Go.st (fun _ => XS.lcmp X_123.here hx rfl (hb hby at_154) rfl) ?_
    show Go p e below s _ _ _ T_123 (mkF m 155 #[.val (.int k), .val (.long q0), .second, .val (.long q1), .second, .val (.long q2), .second, .val (.long q3), .second, .val (.long q4), .second, .val (.int (3 : Int32)), .val (.ref b_103), .val (.ref b_109), .val (.ref t__110)] [(.int (lcmpW q2 q2))])
    refine Go.st (fun _ => XS.ifNo X_123.here hx rfl (hb hby at_155) rfl ((if0 _ _).trans (teq ((lw_eq q2 q2).mpr (rfl : q2 = q2))).2)) ?_
    show Go p e below s _ _ _ T_123 (mkF m 158 #[.val (.int k), .val (.long q0), .second, .val (.long q1), .second, .val (.long q2), .second, .val (.long q3), .second, .val (.long q4), .second, .val (.int (3 : Int32)), .val (.ref b_103), .val (.ref b_109), .val (.ref t__110)] [])
    refine Go.st (fun _ => XS.aload X_123.here hx rfl (hb hby at_158) rfl rfl) ?_
    show Go p e below s _ _ _ T_123 (mkF m 160 #[.val (.int k), .val (.long q0), .second, .val (.long q1), .second, .val (.long q2), .second, .val (.long q3), .second, .val (.long q4), .second, .val (.int (3 : Int32)), .val (.ref b_103), .val (.ref b_109), .val (.ref t__110)] [(.ref t__110)])
    refine Go.st (fun _ => XS.iconst X_123.here hx rfl (hb hby at_160)) ?_
    show Go p e below s _ _ _ T_123 (mkF m 161 #[.val (.int k), .val (.long q0), .second, .val (.long q1), .second, .val (.long q2), .second, .val (.long q3), .second, .val (.long q4), .second, .val (.int (3 : Int32)), .val (.ref b_103), .val (.ref b_109), .val (.ref t__110)] [(.int (1 : Int32)), (.ref t__110)])
    obtain ⟨cl_125, Ar_125, q_125, S_125, M_125, H_125, G_125⟩ := id p_115_0
    have hin_125 : ¬ ((1 : Int32) < 0 ∨ cl_125.slots.size ≤ ((1 : Int32)).toNatClampNeg) := inb_of S_125 ⟨by decide, by decide⟩
    have hat_125 : cl_125.slots[((1 : Int32)).toNatClampNeg]? = some (.long q1) := H_125.at hin_125 rfl
    refine Go.st (fun tG => X_123.laload hx (j := (1 : Int32)) (v := (.long q1)) (by rw [e_123]; exact Ar_125.1) (State.isArrayOf_alike hZ.alike Ar_125.2.1) Ar_125.2.2 hin_125 hat_125 (g := (mkF m 161 #[.val (.int k), .val (.long q0), .second, .val (.long q1), .second, .val (.long q2), .second, .val (.long q3), .second, .val (.long q4), .second, .val (.int (3 : Int32)), .val (.ref b_103), .val (.ref b_109), .val (.ref t__110)] [(.int (1 : Int32)), (.ref t__110)])) rfl rfl (hb hby at_161) tG) ?_
    show Go p e below s _ _ _ T_123 (mkF m 162 #[.val (.int k), .val (.long q0), .second, .val (.long q1), .second, .val (.long q2), .second, .val (.long q3), .second, .val (.long q4), .second, .val (.int (3 : Int32)), .val (.ref b_103), .val (.ref b_109), .val (.ref t__110)] [(.long q1)])
    refine Go.st (fun _ => XS.aload X_123.here hx rfl (hb hby at_162) rfl rfl) ?_
    show Go p e below s _ _ _ T_123 (mkF m 164 #[.val (.int k), .val (.long q0), .second, .val (.long q1), .second, .val (.long q2), .second, .val (.long q3), .second, .val (.long q4), .second, .val (.int (3 : Int32)), .val (.ref b_103), .val (.ref b_109), .val (.ref t__110)] [(.ref b_103), (.long q1)])
    refine Go.st (fun _ => XS.iload X_123.here hx rfl (hb hby at_164) rfl) ?_
    show Go p e below s _ _ _ T_123 (mkF m 166 #[.val (.int k), .val (.long q0), .second, .val (.long q1), .second, .val (.long q2), .second, .val (.long q3), .second, .val (.long q4), .second, .val (.int (3 : Int32)), .val (.ref b_103), .val (.ref b_109), .val (.ref t__110)] [(.int (3 : Int32)), (.ref b_103), (.long q1)])
    refine Go.st (fun _ => XS.iconst X_123.here hx rfl (hb hby at_166)) ?_
    show Go p e below s _ _ _ T_123 (mkF m 167 #[.val (.int k), .val (.long q0), .second, .val (.long q1), .second, .val (.long q2), .second, .val (.long q3), .second, .val (.long q4), .second, .val (.int (3 : Int32)), .val (.ref b_103), .val (.ref b_109), .val (.ref t__110)] [(.int (1 : Int32)), (.int (3 : Int32)), (.ref b_103), (.long q1)])
    obtain ⟨_, _, ⟨T_126, L_126, kc_126, nc_126⟩, -, X_126, ⟨Lc_126, hQ_126, l_126, y_126, z_126⟩, st_126⟩ := Jvm.LawKit.callS X_123 hx (y := (⟨"com/example/moat/moat/xpath/HandlesReversePinLaw", "exp", "([JII)J"⟩ : MethodName)) hown (mvT hZ (hw _ (List.mem_of_getElem? (i := 30) rfl))) (mvT hZ (hw _ (List.mem_of_getElem? (i := 31) rfl))) (mvT hZ (hw _ (List.mem_of_getElem? (i := 32) rfl))) (mvT hZ (hw _ (List.mem_of_getElem? (i := 33) rfl))) (by decide) (backOf (W := 2) (rmXa l Z a0 hw [] b_103 (3 : Int32) (1 : Int32) kA_103 (5 : Int32) [(.long q0), (.long q1), (.long q2), (.long q3), (.long q4)] (.long (0 : Int64)) q1 h_115 n0 z_115q f_124 (by decide) (by decide) rfl) hZ (hw _ (List.mem_of_getElem? (i := 33) rfl)) (hw _ (List.mem_of_getElem? (i := 32) rfl)) (by decide) (by decide)) (g := (mkF m 167 #[.val (.int k), .val (.long q0), .second, .val (.long q1), .second, .val (.long q2), .second, .val (.long q3), .second, .val (.long q4), .second, .val (.int (3 : Int32)), .val (.ref b_103), .val (.ref b_109), .val (.ref t__110)] [(.int (1 : Int32)), (.int (3 : Int32)), (.ref b_103), (.long q1)])) rfl (by rw [hml]; rfl) (argsL := [(.ref b_103), (.int (3 : Int32)), (.int (1 : Int32))]) (rest := [(.long q1)]) (lenOf pd_3 rfl) rfl (by show 2 * 0 + _ ≤ _; exact Nat.le_of_eq rfl) (hb hby at_167) (fun _ _ => ⟨rfl, e_123, (by decide : 3 + 0 ≤ _), (by decide : 15 + 0 ≤ _)⟩)
    dsimp only [Pt.U, Pt.locs, Pt.cells, Pt.slots] at X_126 l_126 y_126 z_126 st_126 hQ_126
    obtain rfl : kc_126 = 3 := y_126
    obtain rfl : nc_126 = 15 := z_126
    obtain ⟨h_126, e_126⟩ : ∃ hh, T_126.heap = hh := ⟨_, rfl⟩
    rw [e_126] at hQ_126
    obtain ⟨rfl, N_126q, sm_126⟩ := hQ_126
    have N_126 : Fr n0 L_126 := by rw [l_126]; exact Fr.app N_123 N_126q
    refine Go.st st_126 ?_
    rw [sm_126] at e_126
    show Go p e below s _ _ _ T_126 (mkF m 170 #[.val (.int k), .val (.long q0), .second, .val (.long q1), .second, .val (.long q2), .second, .val (.long q3), .second, .val (.long q4), .second, .val (.int (3 : Int32)), .val (.ref b_103), .val (.ref b_109), .val (.ref t__110)] [(.long q1), (.long q1)])
    refine Go.st (fun _ => XS.lcmp X_126.here hx rfl (hb hby at_170) rfl) ?_
    show Go p e below s _ _ _ T_126 (mkF m 171 #[.val (.int k), .val (.long q0), .second, .val (.long q1), .second, .val (.long q2), .second, .val (.long q3), .second, .val (.long q4), .second, .val (.int (3 : Int32)), .val (.ref b_103), .val (.ref b_109), .val (.ref t__110)] [(.int (lcmpW q1 q1))])
    refine Go.st (fun _ => XS.ifNo X_126.here hx rfl (hb hby at_171) rfl ((if0 _ _).trans (teq ((lw_eq q1 q1).mpr (rfl : q1 = q1))).2)) ?_
    show Go p e below s _ _ _ T_126 (mkF m 174 #[.val (.int k), .val (.long q0), .second, .val (.long q1), .second, .val (.long q2), .second, .val (.long q3), .second, .val (.long q4), .second, .val (.int (3 : Int32)), .val (.ref b_103), .val (.ref b_109), .val (.ref t__110)] [])
    refine Go.st (fun _ => XS.aload X_126.here hx rfl (hb hby at_174) rfl rfl) ?_
    show Go p e below s _ _ _ T_126 (mkF m 176 #[.val (.int k), .val (.long q0), .second, .val (.long q1), .second, .val (.long q2), .second, .val (.long q3), .second, .val (.long q4), .second, .val (.int (3 : Int32)), .val (.ref b_103), .val (.ref b_109), .val (.ref t__110)] [(.ref t__110)])
    refine Go.st (fun _ => XS.iconst X_126.here hx rfl (hb hby at_176)) ?_
    show Go p e below s _ _ _ T_126 (mkF m 177 #[.val (.int k), .val (.long q0), .second, .val (.long q1), .second, .val (.long q2), .second, .val (.long q3), .second, .val (.long q4), .second, .val (.int (3 : Int32)), .val (.ref b_103), .val (.ref b_109), .val (.ref t__110)] [(.int (2 : Int32)), (.ref t__110)])
    obtain ⟨cl_127, Ar_127, q_127, S_127, M_127, H_127, G_127⟩ := id p_115_0
    have hin_127 : ¬ ((2 : Int32) < 0 ∨ cl_127.slots.size ≤ ((2 : Int32)).toNatClampNeg) := inb_of S_127 ⟨by decide, by decide⟩
    have hat_127 : cl_127.slots[((2 : Int32)).toNatClampNeg]? = some (.long q0) := H_127.at hin_127 rfl
    refine Go.st (fun tG => X_126.laload hx (j := (2 : Int32)) (v := (.long q0)) (by rw [e_126]; exact Ar_127.1) (State.isArrayOf_alike hZ.alike Ar_127.2.1) Ar_127.2.2 hin_127 hat_127 (g := (mkF m 177 #[.val (.int k), .val (.long q0), .second, .val (.long q1), .second, .val (.long q2), .second, .val (.long q3), .second, .val (.long q4), .second, .val (.int (3 : Int32)), .val (.ref b_103), .val (.ref b_109), .val (.ref t__110)] [(.int (2 : Int32)), (.ref t__110)])) rfl rfl (hb hby at_177) tG) ?_
    show Go p e below s _ _ _ T_126 (mkF m 178 #[.val (.int k), .val (.long q0), .second, .val (.long q1), .second, .val (.long q2), .second, .val (.long q3), .second, .val (.long q4), .second, .val (.int (3 : Int32)), .val (.ref b_103), .val (.ref b_109), .val (.ref t__110)] [(.long q0)])
    refine Go.st (fun _ => XS.aload X_126.here hx rfl (hb hby at_178) rfl rfl) ?_
    show Go p e below s _ _ _ T_126 (mkF m 180 #[.val (.int k), .val (.long q0), .second, .val (.long q1), .second, .val (.long q2), .second, .val (.long q3), .second, .val (.long q4), .second, .val (.int (3 : Int32)), .val (.ref b_103), .val (.ref b_109), .val (.ref t__110)] [(.ref b_103), (.long q0)])
    refine Go.st (fun _ => XS.iload X_126.here hx rfl (hb hby at_180) rfl) ?_
    show Go p e below s _ _ _ T_126 (mkF m 182 #[.val (.int k), .val (.long q0), .second, .val (.long q1), .second, .val (.long q2), .second, .val (.long q3), .second, .val (.long q4), .second, .val (.int (3 : Int32)), .val (.ref b_103), .val (.ref b_109), .val (.ref t__110)] [(.int (3 : Int32)), (.ref b_103), (.long q0)])
    refine Go.st (fun _ => XS.iconst X_126.here hx rfl (hb hby at_182)) ?_
    show Go p e below s _ _ _ T_126 (mkF m 183 #[.val (.int k), .val (.long q0), .second, .val (.long q1), .second, .val (.long q2), .second, .val (.long q3), .second, .val (.long q4), .second, .val (.int (3 : Int32)), .val (.ref b_103), .val (.ref b_109), .val (.ref t__110)] [(.int (2 : Int32)), (.int (3 : Int32)), (.ref b_103), (.long q0)])
    obtain ⟨_, _, ⟨T_128, L_128, kc_128, nc_128⟩, -, X_128, ⟨Lc_128, hQ_128, l_128, y_128, z_128⟩, st_128⟩ := Jvm.LawKit.callS X_126 hx (y := (⟨"com/example/moat/moat/xpath/HandlesReversePinLaw", "exp", "([JII)J"⟩ : MethodName)) hown (mvT hZ (hw _ (List.mem_of_getElem? (i := 30) rfl))) (mvT hZ (hw _ (List.mem_of_getElem? (i := 31) rfl))) (mvT hZ (hw _ (List.mem_of_getElem? (i := 32) rfl))) (mvT hZ (hw _ (List.mem_of_getElem? (i := 33) rfl))) (by decide) (backOf (W := 2) (rmXa l Z a0 hw [] b_103 (3 : Int32) (2 : Int32) kA_103 (5 : Int32) [(.long q0), (.long q1), (.long q2), (.long q3), (.long q4)] (.long (0 : Int64)) q0 h_115 n0 z_115q f_124 (by decide) (by decide) rfl) hZ (hw _ (List.mem_of_getElem? (i := 33) rfl)) (hw _ (List.mem_of_getElem? (i := 32) rfl)) (by decide) (by decide)) (g := (mkF m 183 #[.val (.int k), .val (.long q0), .second, .val (.long q1), .second, .val (.long q2), .second, .val (.long q3), .second, .val (.long q4), .second, .val (.int (3 : Int32)), .val (.ref b_103), .val (.ref b_109), .val (.ref t__110)] [(.int (2 : Int32)), (.int (3 : Int32)), (.ref b_103), (.long q0)])) rfl (by rw [hml]; rfl) (argsL := [(.ref b_103), (.int (3 : Int32)), (.int (2 : Int32))]) (rest := [(.long q0)]) (lenOf pd_3 rfl) rfl (by show 2 * 0 + _ ≤ _; exact Nat.le_of_eq rfl) (hb hby at_183) (fun _ _ => ⟨rfl, e_126, (by decide : 3 + 0 ≤ _), (by decide : 15 + 0 ≤ _)⟩)
    dsimp only [Pt.U, Pt.locs, Pt.cells, Pt.slots] at X_128 l_128 y_128 z_128 st_128 hQ_128
    obtain rfl : kc_128 = 3 := y_128
    obtain rfl : nc_128 = 15 := z_128
    obtain ⟨h_128, e_128⟩ : ∃ hh, T_128.heap = hh := ⟨_, rfl⟩
    rw [e_128] at hQ_128
    obtain ⟨rfl, N_128q, sm_128⟩ := hQ_128
    have N_128 : Fr n0 L_128 := by rw [l_128]; exact Fr.app N_126 N_128q
    refine Go.st st_128 ?_
    rw [sm_128] at e_128
    show Go p e below s _ _ _ T_128 (mkF m 186 #[.val (.int k), .val (.long q0), .second, .val (.long q1), .second, .val (.long q2), .second, .val (.long q3), .second, .val (.long q4), .second, .val (.int (3 : Int32)), .val (.ref b_103), .val (.ref b_109), .val (.ref t__110)] [(.long q0), (.long q0)])
    refine Go.st (fun _ => XS.lcmp X_128.here hx rfl (hb hby at_186) rfl) ?_
    show Go p e below s _ _ _ T_128 (mkF m 187 #[.val (.int k), .val (.long q0), .second, .val (.long q1), .second, .val (.long q2), .second, .val (.long q3), .second, .val (.long q4), .second, .val (.int (3 : Int32)), .val (.ref b_103), .val (.ref b_109), .val (.ref t__110)] [(.int (lcmpW q0 q0))])
    refine Go.st (fun _ => XS.ifNo X_128.here hx rfl (hb hby at_187) rfl ((if0 _ _).trans (teq ((lw_eq q0 q0).mpr (rfl : q0 = q0))).2)) ?_
    show Go p e below s _ _ _ T_128 (mkF m 190 #[.val (.int k), .val (.long q0), .second, .val (.long q1), .second, .val (.long q2), .second, .val (.long q3), .second, .val (.long q4), .second, .val (.int (3 : Int32)), .val (.ref b_103), .val (.ref b_109), .val (.ref t__110)] [])
    refine Go.st (fun _ => XS.aload X_128.here hx rfl (hb hby at_190) rfl rfl) ?_
    show Go p e below s _ _ _ T_128 (mkF m 192 #[.val (.int k), .val (.long q0), .second, .val (.long q1), .second, .val (.long q2), .second, .val (.long q3), .second, .val (.long q4), .second, .val (.int (3 : Int32)), .val (.ref b_103), .val (.ref b_109), .val (.ref t__110)] [(.ref t__110)])
    refine Go.st (fun _ => XS.iconst X_128.here hx rfl (hb hby at_192)) ?_
    show Go p e below s _ _ _ T_128 (mkF m 193 #[.val (.int k), .val (.long q0), .second, .val (.long q1), .second, .val (.long q2), .second, .val (.long q3), .second, .val (.long q4), .second, .val (.int (3 : Int32)), .val (.ref b_103), .val (.ref b_109), .val (.ref t__110)] [(.int (3 : Int32)), (.ref t__110)])
    obtain ⟨cl_129, Ar_129, q_129, S_129, M_129, H_129, G_129⟩ := id p_115_0
    have hin_129 : ¬ ((3 : Int32) < 0 ∨ cl_129.slots.size ≤ ((3 : Int32)).toNatClampNeg) := inb_of S_129 ⟨by decide, by decide⟩
    have hat_129 : cl_129.slots[((3 : Int32)).toNatClampNeg]? = some (.long (0 : Int64)) := H_129.at hin_129 rfl
    refine Go.st (fun tG => X_128.laload hx (j := (3 : Int32)) (v := (.long (0 : Int64))) (by rw [e_128]; exact Ar_129.1) (State.isArrayOf_alike hZ.alike Ar_129.2.1) Ar_129.2.2 hin_129 hat_129 (g := (mkF m 193 #[.val (.int k), .val (.long q0), .second, .val (.long q1), .second, .val (.long q2), .second, .val (.long q3), .second, .val (.long q4), .second, .val (.int (3 : Int32)), .val (.ref b_103), .val (.ref b_109), .val (.ref t__110)] [(.int (3 : Int32)), (.ref t__110)])) rfl rfl (hb hby at_193) tG) ?_
    show Go p e below s _ _ _ T_128 (mkF m 194 #[.val (.int k), .val (.long q0), .second, .val (.long q1), .second, .val (.long q2), .second, .val (.long q3), .second, .val (.long q4), .second, .val (.int (3 : Int32)), .val (.ref b_103), .val (.ref b_109), .val (.ref t__110)] [(.long (0 : Int64))])
    refine Go.st (fun _ => XS.aload X_128.here hx rfl (hb hby at_194) rfl rfl) ?_
    show Go p e below s _ _ _ T_128 (mkF m 196 #[.val (.int k), .val (.long q0), .second, .val (.long q1), .second, .val (.long q2), .second, .val (.long q3), .second, .val (.long q4), .second, .val (.int (3 : Int32)), .val (.ref b_103), .val (.ref b_109), .val (.ref t__110)] [(.ref b_103), (.long (0 : Int64))])
    refine Go.st (fun _ => XS.iload X_128.here hx rfl (hb hby at_196) rfl) ?_
    show Go p e below s _ _ _ T_128 (mkF m 198 #[.val (.int k), .val (.long q0), .second, .val (.long q1), .second, .val (.long q2), .second, .val (.long q3), .second, .val (.long q4), .second, .val (.int (3 : Int32)), .val (.ref b_103), .val (.ref b_109), .val (.ref t__110)] [(.int (3 : Int32)), (.ref b_103), (.long (0 : Int64))])
    refine Go.st (fun _ => XS.iconst X_128.here hx rfl (hb hby at_198)) ?_
    show Go p e below s _ _ _ T_128 (mkF m 199 #[.val (.int k), .val (.long q0), .second, .val (.long q1), .second, .val (.long q2), .second, .val (.long q3), .second, .val (.long q4), .second, .val (.int (3 : Int32)), .val (.ref b_103), .val (.ref b_109), .val (.ref t__110)] [(.int (3 : Int32)), (.int (3 : Int32)), (.ref b_103), (.long (0 : Int64))])
    obtain ⟨_, _, ⟨T_130, L_130, kc_130, nc_130⟩, -, X_130, ⟨Lc_130, hQ_130, l_130, y_130, z_130⟩, st_130⟩ := Jvm.LawKit.callS X_128 hx (y := (⟨"com/example/moat/moat/xpath/HandlesReversePinLaw", "exp", "([JII)J"⟩ : MethodName)) hown (mvT hZ (hw _ (List.mem_of_getElem? (i := 30) rfl))) (mvT hZ (hw _ (List.mem_of_getElem? (i := 31) rfl))) (mvT hZ (hw _ (List.mem_of_getElem? (i := 32) rfl))) (mvT hZ (hw _ (List.mem_of_getElem? (i := 33) rfl))) (by decide) (backOf (W := 2) (rmXb l Z a0 hw [] b_103 (3 : Int32) (3 : Int32) h_115 n0 z_115q (by decide)) hZ (hw _ (List.mem_of_getElem? (i := 33) rfl)) (hw _ (List.mem_of_getElem? (i := 32) rfl)) (by decide) (by decide)) (g := (mkF m 199 #[.val (.int k), .val (.long q0), .second, .val (.long q1), .second, .val (.long q2), .second, .val (.long q3), .second, .val (.long q4), .second, .val (.int (3 : Int32)), .val (.ref b_103), .val (.ref b_109), .val (.ref t__110)] [(.int (3 : Int32)), (.int (3 : Int32)), (.ref b_103), (.long (0 : Int64))])) rfl (by rw [hml]; rfl) (argsL := [(.ref b_103), (.int (3 : Int32)), (.int (3 : Int32))]) (rest := [(.long (0 : Int64))]) (lenOf pd_3 rfl) rfl (by show 2 * 0 + _ ≤ _; exact Nat.le_of_eq rfl) (hb hby at_199) (fun _ _ => ⟨rfl, e_128, (by decide : 3 + 0 ≤ _), (by decide : 15 + 0 ≤ _)⟩)
    dsimp only [Pt.U, Pt.locs, Pt.cells, Pt.slots] at X_130 l_130 y_130 z_130 st_130 hQ_130
    obtain rfl : kc_130 = 3 := y_130
    obtain rfl : nc_130 = 15 := z_130
    obtain ⟨h_130, e_130⟩ : ∃ hh, T_130.heap = hh := ⟨_, rfl⟩
    rw [e_130] at hQ_130
    obtain ⟨rfl, N_130q, sm_130⟩ := hQ_130
    have N_130 : Fr n0 L_130 := by rw [l_130]; exact Fr.app N_128 N_130q
    refine Go.st st_130 ?_
    rw [sm_130] at e_130
    show Go p e below s _ _ _ T_130 (mkF m 202 #[.val (.int k), .val (.long q0), .second, .val (.long q1), .second, .val (.long q2), .second, .val (.long q3), .second, .val (.long q4), .second, .val (.int (3 : Int32)), .val (.ref b_103), .val (.ref b_109), .val (.ref t__110)] [(.long (0 : Int64)), (.long (0 : Int64))])
    refine Go.st (fun _ => XS.lcmp X_130.here hx rfl (hb hby at_202) rfl) ?_
    show Go p e below s _ _ _ T_130 (mkF m 203 #[.val (.int k), .val (.long q0), .second, .val (.long q1), .second, .val (.long q2), .second, .val (.long q3), .second, .val (.long q4), .second, .val (.int (3 : Int32)), .val (.ref b_103), .val (.ref b_109), .val (.ref t__110)] [(.int (lcmpW (0 : Int64) (0 : Int64)))])
    refine Go.st (fun _ => XS.ifNo X_130.here hx rfl (hb hby at_203) rfl ((if0 _ _).trans (teq ((lw_eq (0 : Int64) (0 : Int64)).mpr (by decide : (0 : Int64) = (0 : Int64)))).2)) ?_
    show Go p e below s _ _ _ T_130 (mkF m 206 #[.val (.int k), .val (.long q0), .second, .val (.long q1), .second, .val (.long q2), .second, .val (.long q3), .second, .val (.long q4), .second, .val (.int (3 : Int32)), .val (.ref b_103), .val (.ref b_109), .val (.ref t__110)] [])
    refine Go.st (fun _ => XS.aload X_130.here hx rfl (hb hby at_206) rfl rfl) ?_
    show Go p e below s _ _ _ T_130 (mkF m 208 #[.val (.int k), .val (.long q0), .second, .val (.long q1), .second, .val (.long q2), .second, .val (.long q3), .second, .val (.long q4), .second, .val (.int (3 : Int32)), .val (.ref b_103), .val (.ref b_109), .val (.ref t__110)] [(.ref t__110)])
    refine Go.st (fun _ => XS.iconst X_130.here hx rfl (hb hby at_208)) ?_
    show Go p e below s _ _ _ T_130 (mkF m 209 #[.val (.int k), .val (.long q0), .second, .val (.long q1), .second, .val (.long q2), .second, .val (.long q3), .second, .val (.long q4), .second, .val (.int (3 : Int32)), .val (.ref b_103), .val (.ref b_109), .val (.ref t__110)] [(.int (4 : Int32)), (.ref t__110)])
    obtain ⟨cl_131, Ar_131, q_131, S_131, M_131, H_131, G_131⟩ := id p_115_0
    have hin_131 : ¬ ((4 : Int32) < 0 ∨ cl_131.slots.size ≤ ((4 : Int32)).toNatClampNeg) := inb_of S_131 ⟨by decide, by decide⟩
    have hat_131 : cl_131.slots[((4 : Int32)).toNatClampNeg]? = some (.long (0 : Int64)) := H_131.at hin_131 rfl
    refine Go.st (fun tG => X_130.laload hx (j := (4 : Int32)) (v := (.long (0 : Int64))) (by rw [e_130]; exact Ar_131.1) (State.isArrayOf_alike hZ.alike Ar_131.2.1) Ar_131.2.2 hin_131 hat_131 (g := (mkF m 209 #[.val (.int k), .val (.long q0), .second, .val (.long q1), .second, .val (.long q2), .second, .val (.long q3), .second, .val (.long q4), .second, .val (.int (3 : Int32)), .val (.ref b_103), .val (.ref b_109), .val (.ref t__110)] [(.int (4 : Int32)), (.ref t__110)])) rfl rfl (hb hby at_209) tG) ?_
    show Go p e below s _ _ _ T_130 (mkF m 210 #[.val (.int k), .val (.long q0), .second, .val (.long q1), .second, .val (.long q2), .second, .val (.long q3), .second, .val (.long q4), .second, .val (.int (3 : Int32)), .val (.ref b_103), .val (.ref b_109), .val (.ref t__110)] [(.long (0 : Int64))])
    refine Go.st (fun _ => XS.aload X_130.here hx rfl (hb hby at_210) rfl rfl) ?_
    show Go p e below s _ _ _ T_130 (mkF m 212 #[.val (.int k), .val (.long q0), .second, .val (.long q1), .second, .val (.long q2), .second, .val (.long q3), .second, .val (.long q4), .second, .val (.int (3 : Int32)), .val (.ref b_103), .val (.ref b_109), .val (.ref t__110)] [(.ref b_103), (.long (0 : Int64))])
    refine Go.st (fun _ => XS.iload X_130.here hx rfl (hb hby at_212) rfl) ?_
    show Go p e below s _ _ _ T_130 (mkF m 214 #[.val (.int k), .val (.long q0), .second, .val (.long q1), .second, .val (.long q2), .second, .val (.long q3), .second, .val (.long q4), .second, .val (.int (3 : Int32)), .val (.ref b_103), .val (.ref b_109), .val (.ref t__110)] [(.int (3 : Int32)), (.ref b_103), (.long (0 : Int64))])
    refine Go.st (fun _ => XS.iconst X_130.here hx rfl (hb hby at_214)) ?_
    show Go p e below s _ _ _ T_130 (mkF m 215 #[.val (.int k), .val (.long q0), .second, .val (.long q1), .second, .val (.long q2), .second, .val (.long q3), .second, .val (.long q4), .second, .val (.int (3 : Int32)), .val (.ref b_103), .val (.ref b_109), .val (.ref t__110)] [(.int (4 : Int32)), (.int (3 : Int32)), (.ref b_103), (.long (0 : Int64))])
    obtain ⟨_, _, ⟨T_132, L_132, kc_132, nc_132⟩, -, X_132, ⟨Lc_132, hQ_132, l_132, y_132, z_132⟩, st_132⟩ := Jvm.LawKit.callS X_130 hx (y := (⟨"com/example/moat/moat/xpath/HandlesReversePinLaw", "exp", "([JII)J"⟩ : MethodName)) hown (mvT hZ (hw _ (List.mem_of_getElem? (i := 30) rfl))) (mvT hZ (hw _ (List.mem_of_getElem? (i := 31) rfl))) (mvT hZ (hw _ (List.mem_of_getElem? (i := 32) rfl))) (mvT hZ (hw _ (List.mem_of_getElem? (i := 33) rfl))) (by decide) (backOf (W := 2) (rmXb l Z a0 hw [] b_103 (3 : Int32) (4 : Int32) h_115 n0 z_115q (by decide)) hZ (hw _ (List.mem_of_getElem? (i := 33) rfl)) (hw _ (List.mem_of_getElem? (i := 32) rfl)) (by decide) (by decide)) (g := (mkF m 215 #[.val (.int k), .val (.long q0), .second, .val (.long q1), .second, .val (.long q2), .second, .val (.long q3), .second, .val (.long q4), .second, .val (.int (3 : Int32)), .val (.ref b_103), .val (.ref b_109), .val (.ref t__110)] [(.int (4 : Int32)), (.int (3 : Int32)), (.ref b_103), (.long (0 : Int64))])) rfl (by rw [hml]; rfl) (argsL := [(.ref b_103), (.int (3 : Int32)), (.int (4 : Int32))]) (rest := [(.long (0 : Int64))]) (lenOf pd_3 rfl) rfl (by show 2 * 0 + _ ≤ _; exact Nat.le_of_eq rfl) (hb hby at_215) (fun _ _ => ⟨rfl, e_130, (by decide : 3 + 0 ≤ _), (by decide : 15 + 0 ≤ _)⟩)
    dsimp only [Pt.U, Pt.locs, Pt.cells, Pt.slots] at X_132 l_132 y_132 z_132 st_132 hQ_132
    obtain rfl : kc_132 = 3 := y_132
    obtain rfl : nc_132 = 15 := z_132
    obtain ⟨h_132, e_132⟩ : ∃ hh, T_132.heap = hh := ⟨_, rfl⟩
    rw [e_132] at hQ_132
    obtain ⟨rfl, N_132q, sm_132⟩ := hQ_132
    have N_132 : Fr n0 L_132 := by rw [l_132]; exact Fr.app N_130 N_132q
    refine Go.st st_132 ?_
    rw [sm_132] at e_132
    show Go p e below s _ _ _ T_132 (mkF m 218 #[.val (.int k), .val (.long q0), .second, .val (.long q1), .second, .val (.long q2), .second, .val (.long q3), .second, .val (.long q4), .second, .val (.int (3 : Int32)), .val (.ref b_103), .val (.ref b_109), .val (.ref t__110)] [(.long (0 : Int64)), (.long (0 : Int64))])
    refine Go.st (fun _ => XS.lcmp X_132.here hx rfl (hb hby at_218) rfl) ?_
    show Go p e below s _ _ _ T_132 (mkF m 219 #[.val (.int k), .val (.long q0), .second, .val (.long q1), .second, .val (.long q2), .second, .val (.long q3), .second, .val (.long q4), .second, .val (.int (3 : Int32)), .val (.ref b_103), .val (.ref b_109), .val (.ref t__110)] [(.int (lcmpW (0 : Int64) (0 : Int64)))])
    refine Go.st (fun _ => XS.ifNo X_132.here hx rfl (hb hby at_219) rfl ((if0 _ _).trans (teq ((lw_eq (0 : Int64) (0 : Int64)).mpr (by decide : (0 : Int64) = (0 : Int64)))).2)) ?_
    show Go p e below s _ _ _ T_132 (mkF m 222 #[.val (.int k), .val (.long q0), .second, .val (.long q1), .second, .val (.long q2), .second, .val (.long q3), .second, .val (.long q4), .second, .val (.int (3 : Int32)), .val (.ref b_103), .val (.ref b_109), .val (.ref t__110)] [])
    refine Go.st (fun _ => XS.aload X_132.here hx rfl (hb hby at_222) rfl rfl) ?_
    show Go p e below s _ _ _ T_132 (mkF m 224 #[.val (.int k), .val (.long q0), .second, .val (.long q1), .second, .val (.long q2), .second, .val (.long q3), .second, .val (.long q4), .second, .val (.int (3 : Int32)), .val (.ref b_103), .val (.ref b_109), .val (.ref t__110)] [(.ref t__110)])
    refine Go.st (fun _ => XS.iconst X_132.here hx rfl (hb hby at_224)) ?_
    show Go p e below s _ _ _ T_132 (mkF m 225 #[.val (.int k), .val (.long q0), .second, .val (.long q1), .second, .val (.long q2), .second, .val (.long q3), .second, .val (.long q4), .second, .val (.int (3 : Int32)), .val (.ref b_103), .val (.ref b_109), .val (.ref t__110)] [(.int (5 : Int32)), (.ref t__110)])
    obtain ⟨cl_133, Ar_133, q_133, S_133, M_133, H_133, G_133⟩ := id p_115_0
    have hin_133 : ¬ ((5 : Int32) < 0 ∨ cl_133.slots.size ≤ ((5 : Int32)).toNatClampNeg) := inb_of S_133 ⟨by decide, by decide⟩
    have hat_133 : cl_133.slots[((5 : Int32)).toNatClampNeg]? = some (.long (0 : Int64)) := H_133.at hin_133 rfl
    refine Go.st (fun tG => X_132.laload hx (j := (5 : Int32)) (v := (.long (0 : Int64))) (by rw [e_132]; exact Ar_133.1) (State.isArrayOf_alike hZ.alike Ar_133.2.1) Ar_133.2.2 hin_133 hat_133 (g := (mkF m 225 #[.val (.int k), .val (.long q0), .second, .val (.long q1), .second, .val (.long q2), .second, .val (.long q3), .second, .val (.long q4), .second, .val (.int (3 : Int32)), .val (.ref b_103), .val (.ref b_109), .val (.ref t__110)] [(.int (5 : Int32)), (.ref t__110)])) rfl rfl (hb hby at_225) tG) ?_
    show Go p e below s _ _ _ T_132 (mkF m 226 #[.val (.int k), .val (.long q0), .second, .val (.long q1), .second, .val (.long q2), .second, .val (.long q3), .second, .val (.long q4), .second, .val (.int (3 : Int32)), .val (.ref b_103), .val (.ref b_109), .val (.ref t__110)] [(.long (0 : Int64))])
    refine Go.st (fun _ => XS.aload X_132.here hx rfl (hb hby at_226) rfl rfl) ?_
    show Go p e below s _ _ _ T_132 (mkF m 228 #[.val (.int k), .val (.long q0), .second, .val (.long q1), .second, .val (.long q2), .second, .val (.long q3), .second, .val (.long q4), .second, .val (.int (3 : Int32)), .val (.ref b_103), .val (.ref b_109), .val (.ref t__110)] [(.ref b_103), (.long (0 : Int64))])
    refine Go.st (fun _ => XS.iload X_132.here hx rfl (hb hby at_228) rfl) ?_
    show Go p e below s _ _ _ T_132 (mkF m 230 #[.val (.int k), .val (.long q0), .second, .val (.long q1), .second, .val (.long q2), .second, .val (.long q3), .second, .val (.long q4), .second, .val (.int (3 : Int32)), .val (.ref b_103), .val (.ref b_109), .val (.ref t__110)] [(.int (3 : Int32)), (.ref b_103), (.long (0 : Int64))])
    refine Go.st (fun _ => XS.iconst X_132.here hx rfl (hb hby at_230)) ?_
    show Go p e below s _ _ _ T_132 (mkF m 231 #[.val (.int k), .val (.long q0), .second, .val (.long q1), .second, .val (.long q2), .second, .val (.long q3), .second, .val (.long q4), .second, .val (.int (3 : Int32)), .val (.ref b_103), .val (.ref b_109), .val (.ref t__110)] [(.int (5 : Int32)), (.int (3 : Int32)), (.ref b_103), (.long (0 : Int64))])
    obtain ⟨_, _, ⟨T_134, L_134, kc_134, nc_134⟩, -, X_134, ⟨Lc_134, hQ_134, l_134, y_134, z_134⟩, st_134⟩ := Jvm.LawKit.callS X_132 hx (y := (⟨"com/example/moat/moat/xpath/HandlesReversePinLaw", "exp", "([JII)J"⟩ : MethodName)) hown (mvT hZ (hw _ (List.mem_of_getElem? (i := 30) rfl))) (mvT hZ (hw _ (List.mem_of_getElem? (i := 31) rfl))) (mvT hZ (hw _ (List.mem_of_getElem? (i := 32) rfl))) (mvT hZ (hw _ (List.mem_of_getElem? (i := 33) rfl))) (by decide) (backOf (W := 2) (rmXb l Z a0 hw [] b_103 (3 : Int32) (5 : Int32) h_115 n0 z_115q (by decide)) hZ (hw _ (List.mem_of_getElem? (i := 33) rfl)) (hw _ (List.mem_of_getElem? (i := 32) rfl)) (by decide) (by decide)) (g := (mkF m 231 #[.val (.int k), .val (.long q0), .second, .val (.long q1), .second, .val (.long q2), .second, .val (.long q3), .second, .val (.long q4), .second, .val (.int (3 : Int32)), .val (.ref b_103), .val (.ref b_109), .val (.ref t__110)] [(.int (5 : Int32)), (.int (3 : Int32)), (.ref b_103), (.long (0 : Int64))])) rfl (by rw [hml]; rfl) (argsL := [(.ref b_103), (.int (3 : Int32)), (.int (5 : Int32))]) (rest := [(.long (0 : Int64))]) (lenOf pd_3 rfl) rfl (by show 2 * 0 + _ ≤ _; exact Nat.le_of_eq rfl) (hb hby at_231) (fun _ _ => ⟨rfl, e_132, (by decide : 3 + 0 ≤ _), (by decide : 15 + 0 ≤ _)⟩)
    dsimp only [Pt.U, Pt.locs, Pt.cells, Pt.slots] at X_134 l_134 y_134 z_134 st_134 hQ_134
    obtain rfl : kc_134 = 3 := y_134
    obtain rfl : nc_134 = 15 := z_134
    obtain ⟨h_134, e_134⟩ : ∃ hh, T_134.heap = hh := ⟨_, rfl⟩
    rw [e_134] at hQ_134
    obtain ⟨rfl, N_134q, sm_134⟩ := hQ_134
    have N_134 : Fr n0 L_134 := by rw [l_134]; exact Fr.app N_132 N_134q
    refine Go.st st_134 ?_
    rw [sm_134] at e_134
    show Go p e below s _ _ _ T_134 (mkF m 234 #[.val (.int k), .val (.long q0), .second, .val (.long q1), .second, .val (.long q2), .second, .val (.long q3), .second, .val (.long q4), .second, .val (.int (3 : Int32)), .val (.ref b_103), .val (.ref b_109), .val (.ref t__110)] [(.long (0 : Int64)), (.long (0 : Int64))])
    refine Go.st (fun _ => XS.lcmp X_134.here hx rfl (hb hby at_234) rfl) ?_
    show Go p e below s _ _ _ T_134 (mkF m 235 #[.val (.int k), .val (.long q0), .second, .val (.long q1), .second, .val (.long q2), .second, .val (.long q3), .second, .val (.long q4), .second, .val (.int (3 : Int32)), .val (.ref b_103), .val (.ref b_109), .val (.ref t__110)] [(.int (lcmpW (0 : Int64) (0 : Int64)))])
    refine Go.st (fun _ => XS.ifNo X_134.here hx rfl (hb hby at_235) rfl ((if0 _ _).trans (teq ((lw_eq (0 : Int64) (0 : Int64)).mpr (by decide : (0 : Int64) = (0 : Int64)))).2)) ?_
    show Go p e below s _ _ _ T_134 (mkF m 238 #[.val (.int k), .val (.long q0), .second, .val (.long q1), .second, .val (.long q2), .second, .val (.long q3), .second, .val (.long q4), .second, .val (.int (3 : Int32)), .val (.ref b_103), .val (.ref b_109), .val (.ref t__110)] [])
    refine Go.st (fun _ => XS.aload X_134.here hx rfl (hb hby at_238) rfl rfl) ?_
    show Go p e below s _ _ _ T_134 (mkF m 240 #[.val (.int k), .val (.long q0), .second, .val (.long q1), .second, .val (.long q2), .second, .val (.long q3), .second, .val (.long q4), .second, .val (.int (3 : Int32)), .val (.ref b_103), .val (.ref b_109), .val (.ref t__110)] [(.ref t__110)])
    refine Go.st (fun _ => XS.bipush X_134.here hx rfl (hb hby at_240)) ?_
    show Go p e below s _ _ _ T_134 (mkF m 242 #[.val (.int k), .val (.long q0), .second, .val (.long q1), .second, .val (.long q2), .second, .val (.long q3), .second, .val (.long q4), .second, .val (.int (3 : Int32)), .val (.ref b_103), .val (.ref b_109), .val (.ref t__110)] [(.int (6 : Int32)), (.ref t__110)])
    obtain ⟨cl_135, Ar_135, q_135, S_135, M_135, H_135, G_135⟩ := id p_115_0
    have hin_135 : ¬ ((6 : Int32) < 0 ∨ cl_135.slots.size ≤ ((6 : Int32)).toNatClampNeg) := inb_of S_135 ⟨by decide, by decide⟩
    have hat_135 : cl_135.slots[((6 : Int32)).toNatClampNeg]? = some (.long (0 : Int64)) := H_135.at hin_135 rfl
    refine Go.st (fun tG => X_134.laload hx (j := (6 : Int32)) (v := (.long (0 : Int64))) (by rw [e_134]; exact Ar_135.1) (State.isArrayOf_alike hZ.alike Ar_135.2.1) Ar_135.2.2 hin_135 hat_135 (g := (mkF m 242 #[.val (.int k), .val (.long q0), .second, .val (.long q1), .second, .val (.long q2), .second, .val (.long q3), .second, .val (.long q4), .second, .val (.int (3 : Int32)), .val (.ref b_103), .val (.ref b_109), .val (.ref t__110)] [(.int (6 : Int32)), (.ref t__110)])) rfl rfl (hb hby at_242) tG) ?_
    show Go p e below s _ _ _ T_134 (mkF m 243 #[.val (.int k), .val (.long q0), .second, .val (.long q1), .second, .val (.long q2), .second, .val (.long q3), .second, .val (.long q4), .second, .val (.int (3 : Int32)), .val (.ref b_103), .val (.ref b_109), .val (.ref t__110)] [(.long (0 : Int64))])
    refine Go.st (fun _ => XS.aload X_134.here hx rfl (hb hby at_243) rfl rfl) ?_
    show Go p e below s _ _ _ T_134 (mkF m 245 #[.val (.int k), .val (.long q0), .second, .val (.long q1), .second, .val (.long q2), .second, .val (.long q3), .second, .val (.long q4), .second, .val (.int (3 : Int32)), .val (.ref b_103), .val (.ref b_109), .val (.ref t__110)] [(.ref b_103), (.long (0 : Int64))])
    refine Go.st (fun _ => XS.iload X_134.here hx rfl (hb hby at_245) rfl) ?_
    show Go p e below s _ _ _ T_134 (mkF m 247 #[.val (.int k), .val (.long q0), .second, .val (.long q1), .second, .val (.long q2), .second, .val (.long q3), .second, .val (.long q4), .second, .val (.int (3 : Int32)), .val (.ref b_103), .val (.ref b_109), .val (.ref t__110)] [(.int (3 : Int32)), (.ref b_103), (.long (0 : Int64))])
    refine Go.st (fun _ => XS.bipush X_134.here hx rfl (hb hby at_247)) ?_
    show Go p e below s _ _ _ T_134 (mkF m 249 #[.val (.int k), .val (.long q0), .second, .val (.long q1), .second, .val (.long q2), .second, .val (.long q3), .second, .val (.long q4), .second, .val (.int (3 : Int32)), .val (.ref b_103), .val (.ref b_109), .val (.ref t__110)] [(.int (6 : Int32)), (.int (3 : Int32)), (.ref b_103), (.long (0 : Int64))])
    obtain ⟨_, _, ⟨T_136, L_136, kc_136, nc_136⟩, -, X_136, ⟨Lc_136, hQ_136, l_136, y_136, z_136⟩, st_136⟩ := Jvm.LawKit.callS X_134 hx (y := (⟨"com/example/moat/moat/xpath/HandlesReversePinLaw", "exp", "([JII)J"⟩ : MethodName)) hown (mvT hZ (hw _ (List.mem_of_getElem? (i := 30) rfl))) (mvT hZ (hw _ (List.mem_of_getElem? (i := 31) rfl))) (mvT hZ (hw _ (List.mem_of_getElem? (i := 32) rfl))) (mvT hZ (hw _ (List.mem_of_getElem? (i := 33) rfl))) (by decide) (backOf (W := 2) (rmXb l Z a0 hw [] b_103 (3 : Int32) (6 : Int32) h_115 n0 z_115q (by decide)) hZ (hw _ (List.mem_of_getElem? (i := 33) rfl)) (hw _ (List.mem_of_getElem? (i := 32) rfl)) (by decide) (by decide)) (g := (mkF m 249 #[.val (.int k), .val (.long q0), .second, .val (.long q1), .second, .val (.long q2), .second, .val (.long q3), .second, .val (.long q4), .second, .val (.int (3 : Int32)), .val (.ref b_103), .val (.ref b_109), .val (.ref t__110)] [(.int (6 : Int32)), (.int (3 : Int32)), (.ref b_103), (.long (0 : Int64))])) rfl (by rw [hml]; rfl) (argsL := [(.ref b_103), (.int (3 : Int32)), (.int (6 : Int32))]) (rest := [(.long (0 : Int64))]) (lenOf pd_3 rfl) rfl (by show 2 * 0 + _ ≤ _; exact Nat.le_of_eq rfl) (hb hby at_249) (fun _ _ => ⟨rfl, e_134, (by decide : 3 + 0 ≤ _), (by decide : 15 + 0 ≤ _)⟩)
    dsimp only [Pt.U, Pt.locs, Pt.cells, Pt.slots] at X_136 l_136 y_136 z_136 st_136 hQ_136
    obtain rfl : kc_136 = 3 := y_136
    obtain rfl : nc_136 = 15 := z_136
    obtain ⟨h_136, e_136⟩ : ∃ hh, T_136.heap = hh := ⟨_, rfl⟩
    rw [e_136] at hQ_136
    obtain ⟨rfl, N_136q, sm_136⟩ := hQ_136
    have N_136 : Fr n0 L_136 := by rw [l_136]; exact Fr.app N_134 N_136q
    refine Go.st st_136 ?_
    rw [sm_136] at e_136
    show Go p e below s _ _ _ T_136 (mkF m 252 #[.val (.int k), .val (.long q0), .second, .val (.long q1), .second, .val (.long q2), .second, .val (.long q3), .second, .val (.long q4), .second, .val (.int (3 : Int32)), .val (.ref b_103), .val (.ref b_109), .val (.ref t__110)] [(.long (0 : Int64)), (.long (0 : Int64))])
    refine Go.st (fun _ => XS.lcmp X_136.here hx rfl (hb hby at_252) rfl) ?_
    show Go p e below s _ _ _ T_136 (mkF m 253 #[.val (.int k), .val (.long q0), .second, .val (.long q1), .second, .val (.long q2), .second, .val (.long q3), .second, .val (.long q4), .second, .val (.int (3 : Int32)), .val (.ref b_103), .val (.ref b_109), .val (.ref t__110)] [(.int (lcmpW (0 : Int64) (0 : Int64)))])
    refine Go.st (fun _ => XS.ifNo X_136.here hx rfl (hb hby at_253) rfl ((if0 _ _).trans (teq ((lw_eq (0 : Int64) (0 : Int64)).mpr (by decide : (0 : Int64) = (0 : Int64)))).2)) ?_
    show Go p e below s _ _ _ T_136 (mkF m 256 #[.val (.int k), .val (.long q0), .second, .val (.long q1), .second, .val (.long q2), .second, .val (.long q3), .second, .val (.long q4), .second, .val (.int (3 : Int32)), .val (.ref b_103), .val (.ref b_109), .val (.ref t__110)] [])
    refine Go.st (fun _ => XS.aload X_136.here hx rfl (hb hby at_256) rfl rfl) ?_
    show Go p e below s _ _ _ T_136 (mkF m 258 #[.val (.int k), .val (.long q0), .second, .val (.long q1), .second, .val (.long q2), .second, .val (.long q3), .second, .val (.long q4), .second, .val (.int (3 : Int32)), .val (.ref b_103), .val (.ref b_109), .val (.ref t__110)] [(.ref t__110)])
    refine Go.st (fun _ => XS.bipush X_136.here hx rfl (hb hby at_258)) ?_
    show Go p e below s _ _ _ T_136 (mkF m 260 #[.val (.int k), .val (.long q0), .second, .val (.long q1), .second, .val (.long q2), .second, .val (.long q3), .second, .val (.long q4), .second, .val (.int (3 : Int32)), .val (.ref b_103), .val (.ref b_109), .val (.ref t__110)] [(.int (7 : Int32)), (.ref t__110)])
    obtain ⟨cl_137, Ar_137, q_137, S_137, M_137, H_137, G_137⟩ := id p_115_0
    have hin_137 : ¬ ((7 : Int32) < 0 ∨ cl_137.slots.size ≤ ((7 : Int32)).toNatClampNeg) := inb_of S_137 ⟨by decide, by decide⟩
    have hat_137 : cl_137.slots[((7 : Int32)).toNatClampNeg]? = some (.long (0 : Int64)) := H_137.at hin_137 rfl
    refine Go.st (fun tG => X_136.laload hx (j := (7 : Int32)) (v := (.long (0 : Int64))) (by rw [e_136]; exact Ar_137.1) (State.isArrayOf_alike hZ.alike Ar_137.2.1) Ar_137.2.2 hin_137 hat_137 (g := (mkF m 260 #[.val (.int k), .val (.long q0), .second, .val (.long q1), .second, .val (.long q2), .second, .val (.long q3), .second, .val (.long q4), .second, .val (.int (3 : Int32)), .val (.ref b_103), .val (.ref b_109), .val (.ref t__110)] [(.int (7 : Int32)), (.ref t__110)])) rfl rfl (hb hby at_260) tG) ?_
    show Go p e below s _ _ _ T_136 (mkF m 261 #[.val (.int k), .val (.long q0), .second, .val (.long q1), .second, .val (.long q2), .second, .val (.long q3), .second, .val (.long q4), .second, .val (.int (3 : Int32)), .val (.ref b_103), .val (.ref b_109), .val (.ref t__110)] [(.long (0 : Int64))])
    refine Go.st (fun _ => XS.aload X_136.here hx rfl (hb hby at_261) rfl rfl) ?_
    show Go p e below s _ _ _ T_136 (mkF m 263 #[.val (.int k), .val (.long q0), .second, .val (.long q1), .second, .val (.long q2), .second, .val (.long q3), .second, .val (.long q4), .second, .val (.int (3 : Int32)), .val (.ref b_103), .val (.ref b_109), .val (.ref t__110)] [(.ref b_103), (.long (0 : Int64))])
    refine Go.st (fun _ => XS.iload X_136.here hx rfl (hb hby at_263) rfl) ?_
    show Go p e below s _ _ _ T_136 (mkF m 265 #[.val (.int k), .val (.long q0), .second, .val (.long q1), .second, .val (.long q2), .second, .val (.long q3), .second, .val (.long q4), .second, .val (.int (3 : Int32)), .val (.ref b_103), .val (.ref b_109), .val (.ref t__110)] [(.int (3 : Int32)), (.ref b_103), (.long (0 : Int64))])
    refine Go.st (fun _ => XS.bipush X_136.here hx rfl (hb hby at_265)) ?_
    show Go p e below s _ _ _ T_136 (mkF m 267 #[.val (.int k), .val (.long q0), .second, .val (.long q1), .second, .val (.long q2), .second, .val (.long q3), .second, .val (.long q4), .second, .val (.int (3 : Int32)), .val (.ref b_103), .val (.ref b_109), .val (.ref t__110)] [(.int (7 : Int32)), (.int (3 : Int32)), (.ref b_103), (.long (0 : Int64))])
    obtain ⟨_, _, ⟨T_138, L_138, kc_138, nc_138⟩, -, X_138, ⟨Lc_138, hQ_138, l_138, y_138, z_138⟩, st_138⟩ := Jvm.LawKit.callS X_136 hx (y := (⟨"com/example/moat/moat/xpath/HandlesReversePinLaw", "exp", "([JII)J"⟩ : MethodName)) hown (mvT hZ (hw _ (List.mem_of_getElem? (i := 30) rfl))) (mvT hZ (hw _ (List.mem_of_getElem? (i := 31) rfl))) (mvT hZ (hw _ (List.mem_of_getElem? (i := 32) rfl))) (mvT hZ (hw _ (List.mem_of_getElem? (i := 33) rfl))) (by decide) (backOf (W := 2) (rmXb l Z a0 hw [] b_103 (3 : Int32) (7 : Int32) h_115 n0 z_115q (by decide)) hZ (hw _ (List.mem_of_getElem? (i := 33) rfl)) (hw _ (List.mem_of_getElem? (i := 32) rfl)) (by decide) (by decide)) (g := (mkF m 267 #[.val (.int k), .val (.long q0), .second, .val (.long q1), .second, .val (.long q2), .second, .val (.long q3), .second, .val (.long q4), .second, .val (.int (3 : Int32)), .val (.ref b_103), .val (.ref b_109), .val (.ref t__110)] [(.int (7 : Int32)), (.int (3 : Int32)), (.ref b_103), (.long (0 : Int64))])) rfl (by rw [hml]; rfl) (argsL := [(.ref b_103), (.int (3 : Int32)), (.int (7 : Int32))]) (rest := [(.long (0 : Int64))]) (lenOf pd_3 rfl) rfl (by show 2 * 0 + _ ≤ _; exact Nat.le_of_eq rfl) (hb hby at_267) (fun _ _ => ⟨rfl, e_136, (by decide : 3 + 0 ≤ _), (by decide : 15 + 0 ≤ _)⟩)
    dsimp only [Pt.U, Pt.locs, Pt.cells, Pt.slots] at X_138 l_138 y_138 z_138 st_138 hQ_138
    obtain rfl : kc_138 = 3 := y_138
    obtain rfl : nc_138 = 15 := z_138
    obtain ⟨h_138, e_138⟩ : ∃ hh, T_138.heap = hh := ⟨_, rfl⟩
    rw [e_138] at hQ_138
    obtain ⟨rfl, N_138q, sm_138⟩ := hQ_138
    have N_138 : Fr n0 L_138 := by rw [l_138]; exact Fr.app N_136 N_138q
    refine Go.st st_138 ?_
    rw [sm_138] at e_138
    show Go p e below s _ _ _ T_138 (mkF m 270 #[.val (.int k), .val (.long q0), .second, .val (.long q1), .second, .val (.long q2), .second, .val (.long q3), .second, .val (.long q4), .second, .val (.int (3 : Int32)), .val (.ref b_103), .val (.ref b_109), .val (.ref t__110)] [(.long (0 : Int64)), (.long (0 : Int64))])
    refine Go.st (fun _ => XS.lcmp X_138.here hx rfl (hb hby at_270) rfl) ?_
    show Go p e below s _ _ _ T_138 (mkF m 271 #[.val (.int k), .val (.long q0), .second, .val (.long q1), .second, .val (.long q2), .second, .val (.long q3), .second, .val (.long q4), .second, .val (.int (3 : Int32)), .val (.ref b_103), .val (.ref b_109), .val (.ref t__110)] [(.int (lcmpW (0 : Int64) (0 : Int64)))])
    refine Go.st (fun _ => XS.ifNo X_138.here hx rfl (hb hby at_271) rfl ((if0 _ _).trans (teq ((lw_eq (0 : Int64) (0 : Int64)).mpr (by decide : (0 : Int64) = (0 : Int64)))).2)) ?_
    show Go p e below s _ _ _ T_138 (mkF m 274 #[.val (.int k), .val (.long q0), .second, .val (.long q1), .second, .val (.long q2), .second, .val (.long q3), .second, .val (.long q4), .second, .val (.int (3 : Int32)), .val (.ref b_103), .val (.ref b_109), .val (.ref t__110)] [])
    refine Go.st (fun _ => XS.iconst X_138.here hx rfl (hb hby at_274)) ?_
    show Go p e below s _ _ _ T_138 (mkF m 275 #[.val (.int k), .val (.long q0), .second, .val (.long q1), .second, .val (.long q2), .second, .val (.long q3), .second, .val (.long q4), .second, .val (.int (3 : Int32)), .val (.ref b_103), .val (.ref b_109), .val (.ref t__110)] [(.int (1 : Int32))])
    refine Go.st (fun _ => XS.goto X_138.here hx rfl (pc0 := 275) (pc' := 279) rfl (hb hby at_275) (by decide) (by decide)) ?_
    show Go p e below s _ _ _ T_138 (mkF m 279 #[.val (.int k), .val (.long q0), .second, .val (.long q1), .second, .val (.long q2), .second, .val (.long q3), .second, .val (.long q4), .second, .val (.int (3 : Int32)), .val (.ref b_103), .val (.ref b_109), .val (.ref t__110)] [(.int (1 : Int32))])
    exact Go.retZ X_138 hx hlk Bd.returns (hb hby at_279) rfl (by rw [e_138]; exact ⟨rfl, N_138⟩) (by decide) (by decide)
  · rw [show ((k &&& (2147483647 : Int32)) % (6 : Int32)) = (4 : Int32) from hd_1]
    show Go p e below s _ _ _ s₁ (mkF m 7 #[.val (.int k), .val (.long q0), .second, .val (.long q1), .second, .val (.long q2), .second, .val (.long q3), .second, .val (.long q4), .second, .unset, .unset, .unset, .unset] [(.int (4 : Int32))])
    refine Go.st (fun _ => XS.istore X0.here hx rfl (hb hby at_7) rfl (l' := #[.val (.int k), .val (.long q0), .second, .val (.long q1), .second, .val (.long q2), .second, .val (.long q3), .second, .val (.long q4), .second, .val (.int (4 : Int32)), .unset, .unset, .unset]) rfl) ?_
    show Go p e below s _ _ _ s₁ (mkF m 9 #[.val (.int k), .val (.long q0), .second, .val (.long q1), .second, .val (.long q2), .second, .val (.long q3), .second, .val (.long q4), .second, .val (.int (4 : Int32)), .unset, .unset, .unset] [])
    refine Go.st (fun _ => XS.iconst X0.here hx rfl (hb hby at_9)) ?_
    show Go p e below s _ _ _ s₁ (mkF m 10 #[.val (.int k), .val (.long q0), .second, .val (.long q1), .second, .val (.long q2), .second, .val (.long q3), .second, .val (.long q4), .second, .val (.int (4 : Int32)), .unset, .unset, .unset] [(.int (5 : Int32))])
    obtain ⟨T_139, h_139, kA_139, X_139, e_139, E_139, A_139, st_139⟩ := newP X0 hx hZ (hw _ (List.mem_of_getElem? (i := 1) rfl)) e0 (g := (mkF m 10 #[.val (.int k), .val (.long q0), .second, .val (.long q1), .second, .val (.long q2), .second, .val (.long q3), .second, .val (.long q4), .second, .val (.int (4 : Int32)), .unset, .unset, .unset] [(.int (5 : Int32))])) rfl (hb hby at_10) rfl (by decide) (cap := 5) (by decide) (by decide) (by decide) (by decide)
    obtain ⟨b_139, g_139⟩ : ∃ z, z = h0.size := ⟨_, rfl⟩
    rw [← g_139] at A_139 st_139
    refine Go.st st_139 ?_
    have gg_139 : n0 ≤ b_139 := Nat.le_trans Z0 (Nat.le_of_eq g_139.symm)
    have z_139 : n0 ≤ h_139.size := Nat.le_trans Z0 E_139.1
    have V_b_139 : Arv Z h_139 b_139 kA_139 .long (5 : Int32) [(.long (0 : Int64)), (.long (0 : Int64)), (.long (0 : Int64)), (.long (0 : Int64)), (.long (0 : Int64))] (.long (0 : Int64)) := (Arv.new A_139 (by decide)).pad (pad_rep [] (.long (0 : Int64)) 5)
    show Go p e below s _ _ _ T_139 (mkF m 12 #[.val (.int k), .val (.long q0), .second, .val (.long q1), .second, .val (.long q2), .second, .val (.long q3), .second, .val (.long q4), .second, .val (.int (4 : Int32)), .unset, .unset, .unset] [(.ref b_139)])
    refine Go.st (fun _ => XS.dup X_139.here hx rfl (hb hby at_12) rfl rfl) ?_
    show Go p e below s _ _ _ T_139 (mkF m 13 #[.val (.int k), .val (.long q0), .second, .val (.long q1), .second, .val (.long q2), .second, .val (.long q3), .second, .val (.long q4), .second, .val (.int (4 : Int32)), .unset, .unset, .unset] [(.ref b_139), (.ref b_139)])
    refine Go.st (fun _ => XS.iconst X_139.here hx rfl (hb hby at_13)) ?_
    show Go p e below s _ _ _ T_139 (mkF m 14 #[.val (.int k), .val (.long q0), .second, .val (.long q1), .second, .val (.long q2), .second, .val (.long q3), .second, .val (.long q4), .second, .val (.int (4 : Int32)), .unset, .unset, .unset] [(.int (0 : Int32)), (.ref b_139), (.ref b_139)])
    refine Go.st (fun _ => XS.lloadN X_139.here hx rfl (hb hby at_14) rfl) ?_
    show Go p e below s _ _ _ T_139 (mkF m 15 #[.val (.int k), .val (.long q0), .second, .val (.long q1), .second, .val (.long q2), .second, .val (.long q3), .second, .val (.long q4), .second, .val (.int (4 : Int32)), .unset, .unset, .unset] [(.long q0), (.int (0 : Int32)), (.ref b_139), (.ref b_139)])
    obtain ⟨cl_140, Ar_140, q_140, S_140, M_140, H_140, G_140⟩ := id V_b_139
    have hin_140 : ¬ ((0 : Int32) < 0 ∨ cl_140.slots.size ≤ ((0 : Int32)).toNatClampNeg) := inb_of S_140 ⟨by decide, by decide⟩
    obtain ⟨T_140, h_140, X_140, e_140, W_140, st_140⟩ := stJ X_139 hx hZ e_139 Ar_140 (j := (0 : Int32)) hin_140 (g := (mkF m 15 #[.val (.int k), .val (.long q0), .second, .val (.long q1), .second, .val (.long q2), .second, .val (.long q3), .second, .val (.long q4), .second, .val (.int (4 : Int32)), .unset, .unset, .unset] [(.long q0), (.int (0 : Int32)), (.ref b_139), (.ref b_139)])) rfl rfl (hb hby at_15)
    refine Go.st st_140 ?_
    have V_140 : Arv Z h_140 b_139 kA_139 .long (5 : Int32) [(.long q0), (.long (0 : Int64)), (.long (0 : Int64)), (.long (0 : Int64)), (.long (0 : Int64))] (.long (0 : Int64)) := Arv.set Ar_140 q_140 S_140 M_140 H_140 G_140 rfl W_140 0 rfl (Nat.le_of_ble_eq_true rfl)
    have N_140 := Fr.snoc X_140 N0 gg_139
    have z_140 : n0 ≤ h_140.size := Nat.le_trans z_139 (Nat.le_of_eq W_140.size.symm)
    show Go p e below s _ _ _ T_140 (mkF m 16 #[.val (.int k), .val (.long q0), .second, .val (.long q1), .second, .val (.long q2), .second, .val (.long q3), .second, .val (.long q4), .second, .val (.int (4 : Int32)), .unset, .unset, .unset] [(.ref b_139)])
    refine Go.st (fun _ => XS.dup X_140.here hx rfl (hb hby at_16) rfl rfl) ?_
    show Go p e below s _ _ _ T_140 (mkF m 17 #[.val (.int k), .val (.long q0), .second, .val (.long q1), .second, .val (.long q2), .second, .val (.long q3), .second, .val (.long q4), .second, .val (.int (4 : Int32)), .unset, .unset, .unset] [(.ref b_139), (.ref b_139)])
    refine Go.st (fun _ => XS.iconst X_140.here hx rfl (hb hby at_17)) ?_
    show Go p e below s _ _ _ T_140 (mkF m 18 #[.val (.int k), .val (.long q0), .second, .val (.long q1), .second, .val (.long q2), .second, .val (.long q3), .second, .val (.long q4), .second, .val (.int (4 : Int32)), .unset, .unset, .unset] [(.int (1 : Int32)), (.ref b_139), (.ref b_139)])
    refine Go.st (fun _ => XS.lloadN X_140.here hx rfl (hb hby at_18) rfl) ?_
    show Go p e below s _ _ _ T_140 (mkF m 19 #[.val (.int k), .val (.long q0), .second, .val (.long q1), .second, .val (.long q2), .second, .val (.long q3), .second, .val (.long q4), .second, .val (.int (4 : Int32)), .unset, .unset, .unset] [(.long q1), (.int (1 : Int32)), (.ref b_139), (.ref b_139)])
    obtain ⟨cl_141, Ar_141, q_141, S_141, M_141, H_141, G_141⟩ := id V_140
    have hin_141 : ¬ ((1 : Int32) < 0 ∨ cl_141.slots.size ≤ ((1 : Int32)).toNatClampNeg) := inb_of S_141 ⟨by decide, by decide⟩
    obtain ⟨T_141, h_141, X_141, e_141, W_141, st_141⟩ := stJ X_140 hx hZ e_140 Ar_141 (j := (1 : Int32)) hin_141 (g := (mkF m 19 #[.val (.int k), .val (.long q0), .second, .val (.long q1), .second, .val (.long q2), .second, .val (.long q3), .second, .val (.long q4), .second, .val (.int (4 : Int32)), .unset, .unset, .unset] [(.long q1), (.int (1 : Int32)), (.ref b_139), (.ref b_139)])) rfl rfl (hb hby at_19)
    refine Go.st st_141 ?_
    have V_141 : Arv Z h_141 b_139 kA_139 .long (5 : Int32) [(.long q0), (.long q1), (.long (0 : Int64)), (.long (0 : Int64)), (.long (0 : Int64))] (.long (0 : Int64)) := Arv.set Ar_141 q_141 S_141 M_141 H_141 G_141 rfl W_141 1 rfl (Nat.le_of_ble_eq_true rfl)
    have N_141 := Fr.snoc X_141 N_140 gg_139
    have z_141 : n0 ≤ h_141.size := Nat.le_trans z_140 (Nat.le_of_eq W_141.size.symm)
    show Go p e below s _ _ _ T_141 (mkF m 20 #[.val (.int k), .val (.long q0), .second, .val (.long q1), .second, .val (.long q2), .second, .val (.long q3), .second, .val (.long q4), .second, .val (.int (4 : Int32)), .unset, .unset, .unset] [(.ref b_139)])
    refine Go.st (fun _ => XS.dup X_141.here hx rfl (hb hby at_20) rfl rfl) ?_
    show Go p e below s _ _ _ T_141 (mkF m 21 #[.val (.int k), .val (.long q0), .second, .val (.long q1), .second, .val (.long q2), .second, .val (.long q3), .second, .val (.long q4), .second, .val (.int (4 : Int32)), .unset, .unset, .unset] [(.ref b_139), (.ref b_139)])
    refine Go.st (fun _ => XS.iconst X_141.here hx rfl (hb hby at_21)) ?_
    show Go p e below s _ _ _ T_141 (mkF m 22 #[.val (.int k), .val (.long q0), .second, .val (.long q1), .second, .val (.long q2), .second, .val (.long q3), .second, .val (.long q4), .second, .val (.int (4 : Int32)), .unset, .unset, .unset] [(.int (2 : Int32)), (.ref b_139), (.ref b_139)])
    refine Go.st (fun _ => XS.lload X_141.here hx rfl (hb hby at_22) rfl) ?_
    show Go p e below s _ _ _ T_141 (mkF m 24 #[.val (.int k), .val (.long q0), .second, .val (.long q1), .second, .val (.long q2), .second, .val (.long q3), .second, .val (.long q4), .second, .val (.int (4 : Int32)), .unset, .unset, .unset] [(.long q2), (.int (2 : Int32)), (.ref b_139), (.ref b_139)])
    obtain ⟨cl_142, Ar_142, q_142, S_142, M_142, H_142, G_142⟩ := id V_141
    have hin_142 : ¬ ((2 : Int32) < 0 ∨ cl_142.slots.size ≤ ((2 : Int32)).toNatClampNeg) := inb_of S_142 ⟨by decide, by decide⟩
    obtain ⟨T_142, h_142, X_142, e_142, W_142, st_142⟩ := stJ X_141 hx hZ e_141 Ar_142 (j := (2 : Int32)) hin_142 (g := (mkF m 24 #[.val (.int k), .val (.long q0), .second, .val (.long q1), .second, .val (.long q2), .second, .val (.long q3), .second, .val (.long q4), .second, .val (.int (4 : Int32)), .unset, .unset, .unset] [(.long q2), (.int (2 : Int32)), (.ref b_139), (.ref b_139)])) rfl rfl (hb hby at_24)
    refine Go.st st_142 ?_
    have V_142 : Arv Z h_142 b_139 kA_139 .long (5 : Int32) [(.long q0), (.long q1), (.long q2), (.long (0 : Int64)), (.long (0 : Int64))] (.long (0 : Int64)) := Arv.set Ar_142 q_142 S_142 M_142 H_142 G_142 rfl W_142 2 rfl (Nat.le_of_ble_eq_true rfl)
    have N_142 := Fr.snoc X_142 N_141 gg_139
    have z_142 : n0 ≤ h_142.size := Nat.le_trans z_141 (Nat.le_of_eq W_142.size.symm)
    show Go p e below s _ _ _ T_142 (mkF m 25 #[.val (.int k), .val (.long q0), .second, .val (.long q1), .second, .val (.long q2), .second, .val (.long q3), .second, .val (.long q4), .second, .val (.int (4 : Int32)), .unset, .unset, .unset] [(.ref b_139)])
    refine Go.st (fun _ => XS.dup X_142.here hx rfl (hb hby at_25) rfl rfl) ?_
    show Go p e below s _ _ _ T_142 (mkF m 26 #[.val (.int k), .val (.long q0), .second, .val (.long q1), .second, .val (.long q2), .second, .val (.long q3), .second, .val (.long q4), .second, .val (.int (4 : Int32)), .unset, .unset, .unset] [(.ref b_139), (.ref b_139)])
    refine Go.st (fun _ => XS.iconst X_142.here hx rfl (hb hby at_26)) ?_
    show Go p e below s _ _ _ T_142 (mkF m 27 #[.val (.int k), .val (.long q0), .second, .val (.long q1), .second, .val (.long q2), .second, .val (.long q3), .second, .val (.long q4), .second, .val (.int (4 : Int32)), .unset, .unset, .unset] [(.int (3 : Int32)), (.ref b_139), (.ref b_139)])
    refine Go.st (fun _ => XS.lload X_142.here hx rfl (hb hby at_27) rfl) ?_
    show Go p e below s _ _ _ T_142 (mkF m 29 #[.val (.int k), .val (.long q0), .second, .val (.long q1), .second, .val (.long q2), .second, .val (.long q3), .second, .val (.long q4), .second, .val (.int (4 : Int32)), .unset, .unset, .unset] [(.long q3), (.int (3 : Int32)), (.ref b_139), (.ref b_139)])
    obtain ⟨cl_143, Ar_143, q_143, S_143, M_143, H_143, G_143⟩ := id V_142
    have hin_143 : ¬ ((3 : Int32) < 0 ∨ cl_143.slots.size ≤ ((3 : Int32)).toNatClampNeg) := inb_of S_143 ⟨by decide, by decide⟩
    obtain ⟨T_143, h_143, X_143, e_143, W_143, st_143⟩ := stJ X_142 hx hZ e_142 Ar_143 (j := (3 : Int32)) hin_143 (g := (mkF m 29 #[.val (.int k), .val (.long q0), .second, .val (.long q1), .second, .val (.long q2), .second, .val (.long q3), .second, .val (.long q4), .second, .val (.int (4 : Int32)), .unset, .unset, .unset] [(.long q3), (.int (3 : Int32)), (.ref b_139), (.ref b_139)])) rfl rfl (hb hby at_29)
    refine Go.st st_143 ?_
    have V_143 : Arv Z h_143 b_139 kA_139 .long (5 : Int32) [(.long q0), (.long q1), (.long q2), (.long q3), (.long (0 : Int64))] (.long (0 : Int64)) := Arv.set Ar_143 q_143 S_143 M_143 H_143 G_143 rfl W_143 3 rfl (Nat.le_of_ble_eq_true rfl)
    have N_143 := Fr.snoc X_143 N_142 gg_139
    have z_143 : n0 ≤ h_143.size := Nat.le_trans z_142 (Nat.le_of_eq W_143.size.symm)
    show Go p e below s _ _ _ T_143 (mkF m 30 #[.val (.int k), .val (.long q0), .second, .val (.long q1), .second, .val (.long q2), .second, .val (.long q3), .second, .val (.long q4), .second, .val (.int (4 : Int32)), .unset, .unset, .unset] [(.ref b_139)])
    refine Go.st (fun _ => XS.dup X_143.here hx rfl (hb hby at_30) rfl rfl) ?_
    show Go p e below s _ _ _ T_143 (mkF m 31 #[.val (.int k), .val (.long q0), .second, .val (.long q1), .second, .val (.long q2), .second, .val (.long q3), .second, .val (.long q4), .second, .val (.int (4 : Int32)), .unset, .unset, .unset] [(.ref b_139), (.ref b_139)])
    refine Go.st (fun _ => XS.iconst X_143.here hx rfl (hb hby at_31)) ?_
    show Go p e below s _ _ _ T_143 (mkF m 32 #[.val (.int k), .val (.long q0), .second, .val (.long q1), .second, .val (.long q2), .second, .val (.long q3), .second, .val (.long q4), .second, .val (.int (4 : Int32)), .unset, .unset, .unset] [(.int (4 : Int32)), (.ref b_139), (.ref b_139)])
    refine Go.st (fun _ => XS.lload X_143.here hx rfl (hb hby at_32) rfl) ?_
    show Go p e below s _ _ _ T_143 (mkF m 34 #[.val (.int k), .val (.long q0), .second, .val (.long q1), .second, .val (.long q2), .second, .val (.long q3), .second, .val (.long q4), .second, .val (.int (4 : Int32)), .unset, .unset, .unset] [(.long q4), (.int (4 : Int32)), (.ref b_139), (.ref b_139)])
    obtain ⟨cl_144, Ar_144, q_144, S_144, M_144, H_144, G_144⟩ := id V_143
    have hin_144 : ¬ ((4 : Int32) < 0 ∨ cl_144.slots.size ≤ ((4 : Int32)).toNatClampNeg) := inb_of S_144 ⟨by decide, by decide⟩
    obtain ⟨T_144, h_144, X_144, e_144, W_144, st_144⟩ := stJ X_143 hx hZ e_143 Ar_144 (j := (4 : Int32)) hin_144 (g := (mkF m 34 #[.val (.int k), .val (.long q0), .second, .val (.long q1), .second, .val (.long q2), .second, .val (.long q3), .second, .val (.long q4), .second, .val (.int (4 : Int32)), .unset, .unset, .unset] [(.long q4), (.int (4 : Int32)), (.ref b_139), (.ref b_139)])) rfl rfl (hb hby at_34)
    refine Go.st st_144 ?_
    have V_144 : Arv Z h_144 b_139 kA_139 .long (5 : Int32) [(.long q0), (.long q1), (.long q2), (.long q3), (.long q4)] (.long (0 : Int64)) := Arv.set Ar_144 q_144 S_144 M_144 H_144 G_144 rfl W_144 4 rfl (Nat.le_of_ble_eq_true rfl)
    have N_144 := Fr.snoc X_144 N_143 gg_139
    have z_144 : n0 ≤ h_144.size := Nat.le_trans z_143 (Nat.le_of_eq W_144.size.symm)
    show Go p e below s _ _ _ T_144 (mkF m 35 #[.val (.int k), .val (.long q0), .second, .val (.long q1), .second, .val (.long q2), .second, .val (.long q3), .second, .val (.long q4), .second, .val (.int (4 : Int32)), .unset, .unset, .unset] [(.ref b_139)])
    refine Go.st (fun _ => XS.astore X_144.here hx rfl (hb hby at_35) rfl rfl (l' := #[.val (.int k), .val (.long q0), .second, .val (.long q1), .second, .val (.long q2), .second, .val (.long q3), .second, .val (.long q4), .second, .val (.int (4 : Int32)), .val (.ref b_139), .unset, .unset]) rfl) ?_
    show Go p e below s _ _ _ T_144 (mkF m 37 #[.val (.int k), .val (.long q0), .second, .val (.long q1), .second, .val (.long q2), .second, .val (.long q3), .second, .val (.long q4), .second, .val (.int (4 : Int32)), .val (.ref b_139), .unset, .unset] [])
    obtain ⟨T_145, h_145, X_145, e_145, E_145, A_145, D_145, -, st_145⟩ := newO X_144 hx hZ hown (hw _ (List.mem_of_getElem? (i := 2) rfl)) (hw _ (List.mem_of_getElem? (i := 3) rfl)) (hw _ (List.mem_of_getElem? (i := 4) rfl)) e_144 (g := (mkF m 37 #[.val (.int k), .val (.long q0), .second, .val (.long q1), .second, .val (.long q2), .second, .val (.long q3), .second, .val (.long q4), .second, .val (.int (4 : Int32)), .val (.ref b_139), .unset, .unset] [])) rfl (hb hby at_37) (by decide) (by decide)
    obtain ⟨b_145, g_145⟩ : ∃ z, z = h_144.size := ⟨_, rfl⟩
    rw [← g_145] at A_145 D_145 st_145
    refine Go.st st_145 ?_
    have ne_b_139_b_145 : b_139 ≠ b_145 := Nat.ne_of_lt (Nat.lt_of_lt_of_eq V_144.lt g_145.symm)
    have gg_145 : n0 ≤ b_145 := Nat.le_trans z_144 (Nat.le_of_eq g_145.symm)
    have z_145 : n0 ≤ h_145.size := Nat.le_trans z_144 E_145.1
    have F_nodes_b_145 : Fld Z h_145 b_145 "com/example/moat/moat/xpath/Handles" "nodes" "[J" .null := D_145 (Or.inl (hw _ (List.mem_of_getElem? (i := 12) rfl))) (ty := (.array .long)) (by decide)
    have F_size_b_145 : Fld Z h_145 b_145 "com/example/moat/moat/xpath/Handles" "size" "I" (.int (0 : Int32)) := D_145 (Or.inl (hw _ (List.mem_of_getElem? (i := 19) rfl))) (ty := .int) (by decide)
    show Go p e below s _ _ _ T_145 (mkF m 40 #[.val (.int k), .val (.long q0), .second, .val (.long q1), .second, .val (.long q2), .second, .val (.long q3), .second, .val (.long q4), .second, .val (.int (4 : Int32)), .val (.ref b_139), .unset, .unset] [(.ref b_145)])
    refine Go.st (fun _ => XS.dup X_145.here hx rfl (hb hby at_40) rfl rfl) ?_
    show Go p e below s _ _ _ T_145 (mkF m 41 #[.val (.int k), .val (.long q0), .second, .val (.long q1), .second, .val (.long q2), .second, .val (.long q3), .second, .val (.long q4), .second, .val (.int (4 : Int32)), .val (.ref b_139), .unset, .unset] [(.ref b_145), (.ref b_145)])
    obtain ⟨_, _, ⟨T_146, L_146, kc_146, nc_146⟩, -, X_146, ⟨Lc_146, hQ_146, l_146, y_146, z_146⟩, st_146⟩ := X_145.specialBack hx (y := (⟨"com/example/moat/moat/xpath/Handles", "<init>", "()V"⟩ : MethodName)) rfl hown (mvT hZ (hw _ (List.mem_of_getElem? (i := 5) rfl))) (mvT hZ (hw _ (List.mem_of_getElem? (i := 6) rfl))) (mvT hZ (hw _ (List.mem_of_getElem? (i := 7) rfl))) (by decide) (backOf (W := 1) (rm1 l Z a0 hw [] b_145 h_145 n0 z_145 A_145 F_nodes_b_145 F_size_b_145 gg_145) hZ (hw _ (List.mem_of_getElem? (i := 7) rfl)) (hw _ (List.mem_of_getElem? (i := 4) rfl)) (by decide) (by decide)) (g := (mkF m 41 #[.val (.int k), .val (.long q0), .second, .val (.long q1), .second, .val (.long q2), .second, .val (.long q3), .second, .val (.long q4), .second, .val (.int (4 : Int32)), .val (.ref b_139), .unset, .unset] [(.ref b_145), (.ref b_145)])) rfl (by rw [hml]; rfl) (Steps.refl _) (a := b_145) (argsL := []) (rest := [(.ref b_145)]) (lenOf pd_0 rfl) rfl (by show 2 * 0 + _ ≤ _; exact Nat.le_of_eq rfl) (hb hby at_41) (fun _ _ => ⟨rfl, e_145, (by decide : 2 + 1 ≤ _), (by decide : 7 + 8 ≤ _)⟩)
    dsimp only [Pt.U, Pt.locs, Pt.cells, Pt.slots] at X_146 l_146 y_146 z_146 st_146 hQ_146
    obtain rfl : kc_146 = 3 := y_146
    obtain rfl : nc_146 = 15 := z_146
    obtain ⟨h_146, e_146⟩ : ∃ hh, T_146.heap = hh := ⟨_, rfl⟩
    rw [e_146] at hQ_146
    obtain ⟨t__146, kt__146, rfl, N_146q, K_146, p_146_0, p_146_1, p_146_2, p_146_3, p_146_4, p_146_5⟩ := hQ_146
    have N_146 : Fr n0 L_146 := by rw [l_146]; exact Fr.app N_144 N_146q
    refine Go.st (fun _ kk => st_146.trans kk) ?_
    have f_147 := (V_144.ext E_145)
    have ne_b_139_t__146 : b_139 ≠ t__146 := Nat.ne_of_lt (Nat.lt_of_lt_of_le f_147.lt p_146_1)
    have ne_b_145_t__146 : b_145 ≠ t__146 := Nat.ne_of_lt (Nat.lt_of_lt_of_le A_145.lt p_146_1)
    have z_146q : n0 ≤ h_146.size := Nat.le_trans z_145 K_146.1
    show Go p e below s _ _ _ T_146 (mkF m 44 #[.val (.int k), .val (.long q0), .second, .val (.long q1), .second, .val (.long q2), .second, .val (.long q3), .second, .val (.long q4), .second, .val (.int (4 : Int32)), .val (.ref b_139), .unset, .unset] [(.ref b_145)])
    refine Go.st (fun _ => XS.astore X_146.here hx rfl (hb hby at_44) rfl rfl (l' := #[.val (.int k), .val (.long q0), .second, .val (.long q1), .second, .val (.long q2), .second, .val (.long q3), .second, .val (.long q4), .second, .val (.int (4 : Int32)), .val (.ref b_139), .val (.ref b_145), .unset]) rfl) ?_
    show Go p e below s _ _ _ T_146 (mkF m 46 #[.val (.int k), .val (.long q0), .second, .val (.long q1), .second, .val (.long q2), .second, .val (.long q3), .second, .val (.long q4), .second, .val (.int (4 : Int32)), .val (.ref b_139), .val (.ref b_145), .unset] [])
    refine Go.st (fun _ => XS.iload X_146.here hx rfl (hb hby at_46) rfl) ?_
    show Go p e below s _ _ _ T_146 (mkF m 48 #[.val (.int k), .val (.long q0), .second, .val (.long q1), .second, .val (.long q2), .second, .val (.long q3), .second, .val (.long q4), .second, .val (.int (4 : Int32)), .val (.ref b_139), .val (.ref b_145), .unset] [(.int (4 : Int32))])
    refine Go.st (fun _ => XS.ifNo X_146.here hx rfl (hb hby at_48) rfl ((if0 _ _).trans (tlt (by decide : (0 : Int32) < (4 : Int32))).2.2.2)) ?_
    show Go p e below s _ _ _ T_146 (mkF m 51 #[.val (.int k), .val (.long q0), .second, .val (.long q1), .second, .val (.long q2), .second, .val (.long q3), .second, .val (.long q4), .second, .val (.int (4 : Int32)), .val (.ref b_139), .val (.ref b_145), .unset] [])
    refine Go.st (fun _ => XS.aload X_146.here hx rfl (hb hby at_51) rfl rfl) ?_
    show Go p e below s _ _ _ T_146 (mkF m 53 #[.val (.int k), .val (.long q0), .second, .val (.long q1), .second, .val (.long q2), .second, .val (.long q3), .second, .val (.long q4), .second, .val (.int (4 : Int32)), .val (.ref b_139), .val (.ref b_145), .unset] [(.ref b_145)])
    refine Go.st (fun _ => XS.lloadN X_146.here hx rfl (hb hby at_53) rfl) ?_
    show Go p e below s _ _ _ T_146 (mkF m 54 #[.val (.int k), .val (.long q0), .second, .val (.long q1), .second, .val (.long q2), .second, .val (.long q3), .second, .val (.long q4), .second, .val (.int (4 : Int32)), .val (.ref b_139), .val (.ref b_145), .unset] [(.long q0), (.ref b_145)])
    obtain ⟨cq_148, kq_148, q_148a, q_148b, q_148c⟩ := isOf hZ e_146 p_146_2
    obtain ⟨_, _, ⟨T_148, L_148, kc_148, nc_148⟩, -, X_148, ⟨Lc_148, hQ_148, l_148, y_148, z_148⟩, st_148⟩ := X_146.virtualBack hx (y := (⟨"com/example/moat/moat/xpath/Handles", "add", "(J)V"⟩ : MethodName)) (z := (⟨"com/example/moat/moat/xpath/Handles", "add", "(J)V"⟩ : MethodName)) hown (mvT hZ (hw _ (List.mem_of_getElem? (i := 34) rfl))) (mvT hZ (hw _ (List.mem_of_getElem? (i := 35) rfl))) (notFace_of_selects (args := #[]) (mvT hZ (hw _ (List.mem_of_getElem? (i := 37) rfl)))) (mvT hZ (hw _ (List.mem_of_getElem? (i := 37) rfl))) (mvT hZ (hw _ (List.mem_of_getElem? (i := 36) rfl))) (by decide) (backOf (W := 0) (rm7 l Z a0 hw [] b_145 q0 t__146 kt__146 (0 : Int32) [(.long (0 : Int64)), (.long (0 : Int64)), (.long (0 : Int64)), (.long (0 : Int64)), (.long (0 : Int64)), (.long (0 : Int64)), (.long (0 : Int64)), (.long (0 : Int64))] (.long (0 : Int64)) h_146 n0 z_146q p_146_2 p_146_3 p_146_4 p_146_5 gg_145 p_146_0 ne_b_145_t__146 (by decide) (by decide) (show ((0 : Int32)).toNatClampNeg < 8 from by decide)) hZ (hw _ (List.mem_of_getElem? (i := 38) rfl)) (hw _ (List.mem_of_getElem? (i := 4) rfl)) (by decide) (by decide)) q_148a q_148c (g := (mkF m 54 #[.val (.int k), .val (.long q0), .second, .val (.long q1), .second, .val (.long q2), .second, .val (.long q3), .second, .val (.long q4), .second, .val (.int (4 : Int32)), .val (.ref b_139), .val (.ref b_145), .unset] [(.long q0), (.ref b_145)])) rfl (by rw [hml]; rfl) (Steps.refl _) (argsL := [(.long q0)]) (rest := []) (lenOf pd_4 rfl) rfl (by show 2 * 0 + _ ≤ _; exact Nat.le_of_eq rfl) (hb hby at_54) (fun _ _ => ⟨rfl, e_146, (by decide : 3 + 0 ≤ _), (by decide : 15 + 0 ≤ _)⟩)
    dsimp only [Pt.U, Pt.locs, Pt.cells, Pt.slots] at X_148 l_148 y_148 z_148 st_148 hQ_148
    obtain rfl : kc_148 = 3 := y_148
    obtain rfl : nc_148 = 15 := z_148
    obtain ⟨h_148, e_148⟩ : ∃ hh, T_148.heap = hh := ⟨_, rfl⟩
    rw [e_148] at hQ_148
    obtain ⟨rfl, N_148q, K_148, p_148_0, p_148_1, p_148_2, p_148_3⟩ := hQ_148
    have N_148 : Fr n0 L_148 := by rw [l_148]; exact Fr.app N_146 N_148q
    refine Go.st (fun _ kk => st_148.trans kk) ?_
    have z_148q : n0 ≤ h_148.size := Nat.le_trans z_146q K_148.1
    rw [show ((0 : Int32) + (1 : Int32)) = (1 : Int32) from by decide] at p_148_2
    have p_148_3' : Arv Z h_148 t__146 kt__146 .long (8 : Int32) [(.long q0), (.long (0 : Int64)), (.long (0 : Int64)), (.long (0 : Int64)), (.long (0 : Int64)), (.long (0 : Int64)), (.long (0 : Int64)), (.long (0 : Int64))] (.long (0 : Int64)) := p_148_3
    show Go p e below s _ _ _ T_148 (mkF m 57 #[.val (.int k), .val (.long q0), .second, .val (.long q1), .second, .val (.long q2), .second, .val (.long q3), .second, .val (.long q4), .second, .val (.int (4 : Int32)), .val (.ref b_139), .val (.ref b_145), .unset] [])
    refine Go.st (fun _ => XS.iload X_148.here hx rfl (hb hby at_57) rfl) ?_
    show Go p e below s _ _ _ T_148 (mkF m 59 #[.val (.int k), .val (.long q0), .second, .val (.long q1), .second, .val (.long q2), .second, .val (.long q3), .second, .val (.long q4), .second, .val (.int (4 : Int32)), .val (.ref b_139), .val (.ref b_145), .unset] [(.int (4 : Int32))])
    refine Go.st (fun _ => XS.iconst X_148.here hx rfl (hb hby at_59)) ?_
    show Go p e below s _ _ _ T_148 (mkF m 60 #[.val (.int k), .val (.long q0), .second, .val (.long q1), .second, .val (.long q2), .second, .val (.long q3), .second, .val (.long q4), .second, .val (.int (4 : Int32)), .val (.ref b_139), .val (.ref b_145), .unset] [(.int (1 : Int32)), (.int (4 : Int32))])
    refine Go.st (fun _ => XS.icmpNo X_148.here hx rfl (hb hby at_60) rfl (tlt (by decide : (1 : Int32) < (4 : Int32))).2.2.2) ?_
    show Go p e below s _ _ _ T_148 (mkF m 63 #[.val (.int k), .val (.long q0), .second, .val (.long q1), .second, .val (.long q2), .second, .val (.long q3), .second, .val (.long q4), .second, .val (.int (4 : Int32)), .val (.ref b_139), .val (.ref b_145), .unset] [])
    refine Go.st (fun _ => XS.aload X_148.here hx rfl (hb hby at_63) rfl rfl) ?_
    show Go p e below s _ _ _ T_148 (mkF m 65 #[.val (.int k), .val (.long q0), .second, .val (.long q1), .second, .val (.long q2), .second, .val (.long q3), .second, .val (.long q4), .second, .val (.int (4 : Int32)), .val (.ref b_139), .val (.ref b_145), .unset] [(.ref b_145)])
    refine Go.st (fun _ => XS.lloadN X_148.here hx rfl (hb hby at_65) rfl) ?_
    show Go p e below s _ _ _ T_148 (mkF m 66 #[.val (.int k), .val (.long q0), .second, .val (.long q1), .second, .val (.long q2), .second, .val (.long q3), .second, .val (.long q4), .second, .val (.int (4 : Int32)), .val (.ref b_139), .val (.ref b_145), .unset] [(.long q1), (.ref b_145)])
    obtain ⟨cq_149, kq_149, q_149a, q_149b, q_149c⟩ := isOf hZ e_148 p_148_0
    obtain ⟨_, _, ⟨T_149, L_149, kc_149, nc_149⟩, -, X_149, ⟨Lc_149, hQ_149, l_149, y_149, z_149⟩, st_149⟩ := X_148.virtualBack hx (y := (⟨"com/example/moat/moat/xpath/Handles", "add", "(J)V"⟩ : MethodName)) (z := (⟨"com/example/moat/moat/xpath/Handles", "add", "(J)V"⟩ : MethodName)) hown (mvT hZ (hw _ (List.mem_of_getElem? (i := 34) rfl))) (mvT hZ (hw _ (List.mem_of_getElem? (i := 35) rfl))) (notFace_of_selects (args := #[]) (mvT hZ (hw _ (List.mem_of_getElem? (i := 37) rfl)))) (mvT hZ (hw _ (List.mem_of_getElem? (i := 37) rfl))) (mvT hZ (hw _ (List.mem_of_getElem? (i := 36) rfl))) (by decide) (backOf (W := 0) (rm7 l Z a0 hw [] b_145 q1 t__146 kt__146 (1 : Int32) [(.long q0), (.long (0 : Int64)), (.long (0 : Int64)), (.long (0 : Int64)), (.long (0 : Int64)), (.long (0 : Int64)), (.long (0 : Int64)), (.long (0 : Int64))] (.long (0 : Int64)) h_148 n0 z_148q p_148_0 p_148_1 p_148_2 p_148_3' gg_145 p_146_0 ne_b_145_t__146 (by decide) (by decide) (show ((1 : Int32)).toNatClampNeg < 8 from by decide)) hZ (hw _ (List.mem_of_getElem? (i := 38) rfl)) (hw _ (List.mem_of_getElem? (i := 4) rfl)) (by decide) (by decide)) q_149a q_149c (g := (mkF m 66 #[.val (.int k), .val (.long q0), .second, .val (.long q1), .second, .val (.long q2), .second, .val (.long q3), .second, .val (.long q4), .second, .val (.int (4 : Int32)), .val (.ref b_139), .val (.ref b_145), .unset] [(.long q1), (.ref b_145)])) rfl (by rw [hml]; rfl) (Steps.refl _) (argsL := [(.long q1)]) (rest := []) (lenOf pd_4 rfl) rfl (by show 2 * 0 + _ ≤ _; exact Nat.le_of_eq rfl) (hb hby at_66) (fun _ _ => ⟨rfl, e_148, (by decide : 3 + 0 ≤ _), (by decide : 15 + 0 ≤ _)⟩)
    dsimp only [Pt.U, Pt.locs, Pt.cells, Pt.slots] at X_149 l_149 y_149 z_149 st_149 hQ_149
    obtain rfl : kc_149 = 3 := y_149
    obtain rfl : nc_149 = 15 := z_149
    obtain ⟨h_149, e_149⟩ : ∃ hh, T_149.heap = hh := ⟨_, rfl⟩
    rw [e_149] at hQ_149
    obtain ⟨rfl, N_149q, K_149, p_149_0, p_149_1, p_149_2, p_149_3⟩ := hQ_149
    have N_149 : Fr n0 L_149 := by rw [l_149]; exact Fr.app N_148 N_149q
    refine Go.st (fun _ kk => st_149.trans kk) ?_
    have z_149q : n0 ≤ h_149.size := Nat.le_trans z_148q K_149.1
    rw [show ((1 : Int32) + (1 : Int32)) = (2 : Int32) from by decide] at p_149_2
    have p_149_3' : Arv Z h_149 t__146 kt__146 .long (8 : Int32) [(.long q0), (.long q1), (.long (0 : Int64)), (.long (0 : Int64)), (.long (0 : Int64)), (.long (0 : Int64)), (.long (0 : Int64)), (.long (0 : Int64))] (.long (0 : Int64)) := p_149_3
    show Go p e below s _ _ _ T_149 (mkF m 69 #[.val (.int k), .val (.long q0), .second, .val (.long q1), .second, .val (.long q2), .second, .val (.long q3), .second, .val (.long q4), .second, .val (.int (4 : Int32)), .val (.ref b_139), .val (.ref b_145), .unset] [])
    refine Go.st (fun _ => XS.iload X_149.here hx rfl (hb hby at_69) rfl) ?_
    show Go p e below s _ _ _ T_149 (mkF m 71 #[.val (.int k), .val (.long q0), .second, .val (.long q1), .second, .val (.long q2), .second, .val (.long q3), .second, .val (.long q4), .second, .val (.int (4 : Int32)), .val (.ref b_139), .val (.ref b_145), .unset] [(.int (4 : Int32))])
    refine Go.st (fun _ => XS.iconst X_149.here hx rfl (hb hby at_71)) ?_
    show Go p e below s _ _ _ T_149 (mkF m 72 #[.val (.int k), .val (.long q0), .second, .val (.long q1), .second, .val (.long q2), .second, .val (.long q3), .second, .val (.long q4), .second, .val (.int (4 : Int32)), .val (.ref b_139), .val (.ref b_145), .unset] [(.int (2 : Int32)), (.int (4 : Int32))])
    refine Go.st (fun _ => XS.icmpNo X_149.here hx rfl (hb hby at_72) rfl (tlt (by decide : (2 : Int32) < (4 : Int32))).2.2.2) ?_
    show Go p e below s _ _ _ T_149 (mkF m 75 #[.val (.int k), .val (.long q0), .second, .val (.long q1), .second, .val (.long q2), .second, .val (.long q3), .second, .val (.long q4), .second, .val (.int (4 : Int32)), .val (.ref b_139), .val (.ref b_145), .unset] [])
    refine Go.st (fun _ => XS.aload X_149.here hx rfl (hb hby at_75) rfl rfl) ?_
    show Go p e below s _ _ _ T_149 (mkF m 77 #[.val (.int k), .val (.long q0), .second, .val (.long q1), .second, .val (.long q2), .second, .val (.long q3), .second, .val (.long q4), .second, .val (.int (4 : Int32)), .val (.ref b_139), .val (.ref b_145), .unset] [(.ref b_145)])
    refine Go.st (fun _ => XS.lload X_149.here hx rfl (hb hby at_77) rfl) ?_
    show Go p e below s _ _ _ T_149 (mkF m 79 #[.val (.int k), .val (.long q0), .second, .val (.long q1), .second, .val (.long q2), .second, .val (.long q3), .second, .val (.long q4), .second, .val (.int (4 : Int32)), .val (.ref b_139), .val (.ref b_145), .unset] [(.long q2), (.ref b_145)])
    obtain ⟨cq_150, kq_150, q_150a, q_150b, q_150c⟩ := isOf hZ e_149 p_149_0
    obtain ⟨_, _, ⟨T_150, L_150, kc_150, nc_150⟩, -, X_150, ⟨Lc_150, hQ_150, l_150, y_150, z_150⟩, st_150⟩ := X_149.virtualBack hx (y := (⟨"com/example/moat/moat/xpath/Handles", "add", "(J)V"⟩ : MethodName)) (z := (⟨"com/example/moat/moat/xpath/Handles", "add", "(J)V"⟩ : MethodName)) hown (mvT hZ (hw _ (List.mem_of_getElem? (i := 34) rfl))) (mvT hZ (hw _ (List.mem_of_getElem? (i := 35) rfl))) (notFace_of_selects (args := #[]) (mvT hZ (hw _ (List.mem_of_getElem? (i := 37) rfl)))) (mvT hZ (hw _ (List.mem_of_getElem? (i := 37) rfl))) (mvT hZ (hw _ (List.mem_of_getElem? (i := 36) rfl))) (by decide) (backOf (W := 0) (rm7 l Z a0 hw [] b_145 q2 t__146 kt__146 (2 : Int32) [(.long q0), (.long q1), (.long (0 : Int64)), (.long (0 : Int64)), (.long (0 : Int64)), (.long (0 : Int64)), (.long (0 : Int64)), (.long (0 : Int64))] (.long (0 : Int64)) h_149 n0 z_149q p_149_0 p_149_1 p_149_2 p_149_3' gg_145 p_146_0 ne_b_145_t__146 (by decide) (by decide) (show ((2 : Int32)).toNatClampNeg < 8 from by decide)) hZ (hw _ (List.mem_of_getElem? (i := 38) rfl)) (hw _ (List.mem_of_getElem? (i := 4) rfl)) (by decide) (by decide)) q_150a q_150c (g := (mkF m 79 #[.val (.int k), .val (.long q0), .second, .val (.long q1), .second, .val (.long q2), .second, .val (.long q3), .second, .val (.long q4), .second, .val (.int (4 : Int32)), .val (.ref b_139), .val (.ref b_145), .unset] [(.long q2), (.ref b_145)])) rfl (by rw [hml]; rfl) (Steps.refl _) (argsL := [(.long q2)]) (rest := []) (lenOf pd_4 rfl) rfl (by show 2 * 0 + _ ≤ _; exact Nat.le_of_eq rfl) (hb hby at_79) (fun _ _ => ⟨rfl, e_149, (by decide : 3 + 0 ≤ _), (by decide : 15 + 0 ≤ _)⟩)
    dsimp only [Pt.U, Pt.locs, Pt.cells, Pt.slots] at X_150 l_150 y_150 z_150 st_150 hQ_150
    obtain rfl : kc_150 = 3 := y_150
    obtain rfl : nc_150 = 15 := z_150
    obtain ⟨h_150, e_150⟩ : ∃ hh, T_150.heap = hh := ⟨_, rfl⟩
    rw [e_150] at hQ_150
    obtain ⟨rfl, N_150q, K_150, p_150_0, p_150_1, p_150_2, p_150_3⟩ := hQ_150
    have N_150 : Fr n0 L_150 := by rw [l_150]; exact Fr.app N_149 N_150q
    refine Go.st (fun _ kk => st_150.trans kk) ?_
    have z_150q : n0 ≤ h_150.size := Nat.le_trans z_149q K_150.1
    rw [show ((2 : Int32) + (1 : Int32)) = (3 : Int32) from by decide] at p_150_2
    have p_150_3' : Arv Z h_150 t__146 kt__146 .long (8 : Int32) [(.long q0), (.long q1), (.long q2), (.long (0 : Int64)), (.long (0 : Int64)), (.long (0 : Int64)), (.long (0 : Int64)), (.long (0 : Int64))] (.long (0 : Int64)) := p_150_3
    show Go p e below s _ _ _ T_150 (mkF m 82 #[.val (.int k), .val (.long q0), .second, .val (.long q1), .second, .val (.long q2), .second, .val (.long q3), .second, .val (.long q4), .second, .val (.int (4 : Int32)), .val (.ref b_139), .val (.ref b_145), .unset] [])
    refine Go.st (fun _ => XS.iload X_150.here hx rfl (hb hby at_82) rfl) ?_
    show Go p e below s _ _ _ T_150 (mkF m 84 #[.val (.int k), .val (.long q0), .second, .val (.long q1), .second, .val (.long q2), .second, .val (.long q3), .second, .val (.long q4), .second, .val (.int (4 : Int32)), .val (.ref b_139), .val (.ref b_145), .unset] [(.int (4 : Int32))])
    refine Go.st (fun _ => XS.iconst X_150.here hx rfl (hb hby at_84)) ?_
    show Go p e below s _ _ _ T_150 (mkF m 85 #[.val (.int k), .val (.long q0), .second, .val (.long q1), .second, .val (.long q2), .second, .val (.long q3), .second, .val (.long q4), .second, .val (.int (4 : Int32)), .val (.ref b_139), .val (.ref b_145), .unset] [(.int (3 : Int32)), (.int (4 : Int32))])
    refine Go.st (fun _ => XS.icmpNo X_150.here hx rfl (hb hby at_85) rfl (tlt (by decide : (3 : Int32) < (4 : Int32))).2.2.2) ?_
    show Go p e below s _ _ _ T_150 (mkF m 88 #[.val (.int k), .val (.long q0), .second, .val (.long q1), .second, .val (.long q2), .second, .val (.long q3), .second, .val (.long q4), .second, .val (.int (4 : Int32)), .val (.ref b_139), .val (.ref b_145), .unset] [])
    refine Go.st (fun _ => XS.aload X_150.here hx rfl (hb hby at_88) rfl rfl) ?_
    show Go p e below s _ _ _ T_150 (mkF m 90 #[.val (.int k), .val (.long q0), .second, .val (.long q1), .second, .val (.long q2), .second, .val (.long q3), .second, .val (.long q4), .second, .val (.int (4 : Int32)), .val (.ref b_139), .val (.ref b_145), .unset] [(.ref b_145)])
    refine Go.st (fun _ => XS.lload X_150.here hx rfl (hb hby at_90) rfl) ?_
    show Go p e below s _ _ _ T_150 (mkF m 92 #[.val (.int k), .val (.long q0), .second, .val (.long q1), .second, .val (.long q2), .second, .val (.long q3), .second, .val (.long q4), .second, .val (.int (4 : Int32)), .val (.ref b_139), .val (.ref b_145), .unset] [(.long q3), (.ref b_145)])
    obtain ⟨cq_151, kq_151, q_151a, q_151b, q_151c⟩ := isOf hZ e_150 p_150_0
    obtain ⟨_, _, ⟨T_151, L_151, kc_151, nc_151⟩, -, X_151, ⟨Lc_151, hQ_151, l_151, y_151, z_151⟩, st_151⟩ := X_150.virtualBack hx (y := (⟨"com/example/moat/moat/xpath/Handles", "add", "(J)V"⟩ : MethodName)) (z := (⟨"com/example/moat/moat/xpath/Handles", "add", "(J)V"⟩ : MethodName)) hown (mvT hZ (hw _ (List.mem_of_getElem? (i := 34) rfl))) (mvT hZ (hw _ (List.mem_of_getElem? (i := 35) rfl))) (notFace_of_selects (args := #[]) (mvT hZ (hw _ (List.mem_of_getElem? (i := 37) rfl)))) (mvT hZ (hw _ (List.mem_of_getElem? (i := 37) rfl))) (mvT hZ (hw _ (List.mem_of_getElem? (i := 36) rfl))) (by decide) (backOf (W := 0) (rm7 l Z a0 hw [] b_145 q3 t__146 kt__146 (3 : Int32) [(.long q0), (.long q1), (.long q2), (.long (0 : Int64)), (.long (0 : Int64)), (.long (0 : Int64)), (.long (0 : Int64)), (.long (0 : Int64))] (.long (0 : Int64)) h_150 n0 z_150q p_150_0 p_150_1 p_150_2 p_150_3' gg_145 p_146_0 ne_b_145_t__146 (by decide) (by decide) (show ((3 : Int32)).toNatClampNeg < 8 from by decide)) hZ (hw _ (List.mem_of_getElem? (i := 38) rfl)) (hw _ (List.mem_of_getElem? (i := 4) rfl)) (by decide) (by decide)) q_151a q_151c (g := (mkF m 92 #[.val (.int k), .val (.long q0), .second, .val (.long q1), .second, .val (.long q2), .second, .val (.long q3), .second, .val (.long q4), .second, .val (.int (4 : Int32)), .val (.ref b_139), .val (.ref b_145), .unset] [(.long q3), (.ref b_145)])) rfl (by rw [hml]; rfl) (Steps.refl _) (argsL := [(.long q3)]) (rest := []) (lenOf pd_4 rfl) rfl (by show 2 * 0 + _ ≤ _; exact Nat.le_of_eq rfl) (hb hby at_92) (fun _ _ => ⟨rfl, e_150, (by decide : 3 + 0 ≤ _), (by decide : 15 + 0 ≤ _)⟩)
    dsimp only [Pt.U, Pt.locs, Pt.cells, Pt.slots] at X_151 l_151 y_151 z_151 st_151 hQ_151
    obtain rfl : kc_151 = 3 := y_151
    obtain rfl : nc_151 = 15 := z_151
    obtain ⟨h_151, e_151⟩ : ∃ hh, T_151.heap = hh := ⟨_, rfl⟩
    rw [e_151] at hQ_151
    obtain ⟨rfl, N_151q, K_151, p_151_0, p_151_1, p_151_2, p_151_3⟩ := hQ_151
    have N_151 : Fr n0 L_151 := by rw [l_151]; exact Fr.app N_150 N_151q
    refine Go.st (fun _ kk => st_151.trans kk) ?_
    have z_151q : n0 ≤ h_151.size := Nat.le_trans z_150q K_151.1
    rw [show ((3 : Int32) + (1 : Int32)) = (4 : Int32) from by decide] at p_151_2
    have p_151_3' : Arv Z h_151 t__146 kt__146 .long (8 : Int32) [(.long q0), (.long q1), (.long q2), (.long q3), (.long (0 : Int64)), (.long (0 : Int64)), (.long (0 : Int64)), (.long (0 : Int64))] (.long (0 : Int64)) := p_151_3
    show Go p e below s _ _ _ T_151 (mkF m 95 #[.val (.int k), .val (.long q0), .second, .val (.long q1), .second, .val (.long q2), .second, .val (.long q3), .second, .val (.long q4), .second, .val (.int (4 : Int32)), .val (.ref b_139), .val (.ref b_145), .unset] [])
    refine Go.st (fun _ => XS.iload X_151.here hx rfl (hb hby at_95) rfl) ?_
    show Go p e below s _ _ _ T_151 (mkF m 97 #[.val (.int k), .val (.long q0), .second, .val (.long q1), .second, .val (.long q2), .second, .val (.long q3), .second, .val (.long q4), .second, .val (.int (4 : Int32)), .val (.ref b_139), .val (.ref b_145), .unset] [(.int (4 : Int32))])
    refine Go.st (fun _ => XS.iconst X_151.here hx rfl (hb hby at_97)) ?_
    show Go p e below s _ _ _ T_151 (mkF m 98 #[.val (.int k), .val (.long q0), .second, .val (.long q1), .second, .val (.long q2), .second, .val (.long q3), .second, .val (.long q4), .second, .val (.int (4 : Int32)), .val (.ref b_139), .val (.ref b_145), .unset] [(.int (4 : Int32)), (.int (4 : Int32))])
    refine Go.st (fun _ => XS.icmpYes X_151.here hx rfl (pc0 := 98) (pc' := 108) rfl (hb hby at_98) rfl (flt (by decide : ¬ ((4 : Int32) < (4 : Int32)))).2.2.2 (by decide) (by decide)) ?_
    show Go p e below s _ _ _ T_151 (mkF m 108 #[.val (.int k), .val (.long q0), .second, .val (.long q1), .second, .val (.long q2), .second, .val (.long q3), .second, .val (.long q4), .second, .val (.int (4 : Int32)), .val (.ref b_139), .val (.ref b_145), .unset] [])
    refine Go.st (fun _ => XS.aload X_151.here hx rfl (hb hby at_108) rfl rfl) ?_
    show Go p e below s _ _ _ T_151 (mkF m 110 #[.val (.int k), .val (.long q0), .second, .val (.long q1), .second, .val (.long q2), .second, .val (.long q3), .second, .val (.long q4), .second, .val (.int (4 : Int32)), .val (.ref b_139), .val (.ref b_145), .unset] [(.ref b_145)])
    obtain ⟨cq_152, kq_152, q_152a, q_152b, q_152c⟩ := isOf hZ e_151 p_151_0
    obtain ⟨_, _, ⟨T_152, L_152, kc_152, nc_152⟩, -, X_152, ⟨Lc_152, hQ_152, l_152, y_152, z_152⟩, st_152⟩ := X_151.virtualBack hx (y := (⟨"com/example/moat/moat/xpath/Handles", "reverse", "()V"⟩ : MethodName)) (z := (⟨"com/example/moat/moat/xpath/Handles", "reverse", "()V"⟩ : MethodName)) hown (mvT hZ (hw _ (List.mem_of_getElem? (i := 13) rfl))) (mvT hZ (hw _ (List.mem_of_getElem? (i := 14) rfl))) (notFace_of_selects (args := #[]) (mvT hZ (hw _ (List.mem_of_getElem? (i := 16) rfl)))) (mvT hZ (hw _ (List.mem_of_getElem? (i := 16) rfl))) (mvT hZ (hw _ (List.mem_of_getElem? (i := 15) rfl))) (by decide) (backOf (W := 0) (rmR4 l Z a0 hw [] b_145 t__146 kt__146 q0 q1 q2 q3 (0 : Int64) (0 : Int64) (0 : Int64) (0 : Int64) h_151 n0 z_151q p_151_1 p_151_2 p_151_3' p_146_0 ne_b_145_t__146) hZ (hw _ (List.mem_of_getElem? (i := 17) rfl)) (hw _ (List.mem_of_getElem? (i := 4) rfl)) (by decide) (by decide)) q_152a q_152c (g := (mkF m 110 #[.val (.int k), .val (.long q0), .second, .val (.long q1), .second, .val (.long q2), .second, .val (.long q3), .second, .val (.long q4), .second, .val (.int (4 : Int32)), .val (.ref b_139), .val (.ref b_145), .unset] [(.ref b_145)])) rfl (by rw [hml]; rfl) (Steps.refl _) (argsL := []) (rest := []) (lenOf pd_0 rfl) rfl (by show 2 * 0 + _ ≤ _; exact Nat.le_of_eq rfl) (hb hby at_110) (fun _ _ => ⟨rfl, e_151, (by decide : 3 + 0 ≤ _), (by decide : 15 + 0 ≤ _)⟩)
    dsimp only [Pt.U, Pt.locs, Pt.cells, Pt.slots] at X_152 l_152 y_152 z_152 st_152 hQ_152
    obtain rfl : kc_152 = 3 := y_152
    obtain rfl : nc_152 = 15 := z_152
    obtain ⟨h_152, e_152⟩ : ∃ hh, T_152.heap = hh := ⟨_, rfl⟩
    rw [e_152] at hQ_152
    obtain ⟨rfl, N_152q, K_152, p_152_0⟩ := hQ_152
    have N_152 : Fr n0 L_152 := by rw [l_152]; exact Fr.app N_151 N_152q
    refine Go.st (fun _ kk => st_152.trans kk) ?_
    have z_152q : n0 ≤ h_152.size := Nat.le_trans z_151q K_152.1
    show Go p e below s _ _ _ T_152 (mkF m 113 #[.val (.int k), .val (.long q0), .second, .val (.long q1), .second, .val (.long q2), .second, .val (.long q3), .second, .val (.long q4), .second, .val (.int (4 : Int32)), .val (.ref b_139), .val (.ref b_145), .unset] [])
    refine Go.st (fun _ => XS.aload X_152.here hx rfl (hb hby at_113) rfl rfl) ?_
    show Go p e below s _ _ _ T_152 (mkF m 115 #[.val (.int k), .val (.long q0), .second, .val (.long q1), .second, .val (.long q2), .second, .val (.long q3), .second, .val (.long q4), .second, .val (.int (4 : Int32)), .val (.ref b_139), .val (.ref b_145), .unset] [(.ref b_145)])
    have f_154 := (p_151_2.keep K_152 (ninS ne_b_145_t__146 nin0))
    have f_155 := (p_151_0.keep K_152)
    obtain ⟨cq_153, kq_153, q_153a, q_153b, q_153c⟩ := isOf hZ e_152 f_155
    obtain ⟨_, _, ⟨T_153, L_153, kc_153, nc_153⟩, -, X_153, ⟨Lc_153, hQ_153, l_153, y_153, z_153⟩, st_153⟩ := X_152.virtualBack hx (y := (⟨"com/example/moat/moat/xpath/Handles", "size", "()I"⟩ : MethodName)) (z := (⟨"com/example/moat/moat/xpath/Handles", "size", "()I"⟩ : MethodName)) hown (mvT hZ (hw _ (List.mem_of_getElem? (i := 20) rfl))) (mvT hZ (hw _ (List.mem_of_getElem? (i := 21) rfl))) (notFace_of_selects (args := #[]) (mvT hZ (hw _ (List.mem_of_getElem? (i := 23) rfl)))) (mvT hZ (hw _ (List.mem_of_getElem? (i := 23) rfl))) (mvT hZ (hw _ (List.mem_of_getElem? (i := 22) rfl))) (by decide) (backOf (W := 0) (rm4 l Z a0 hw [] b_145 (4 : Int32) h_152 n0 z_152q f_154) hZ (hw _ (List.mem_of_getElem? (i := 24) rfl)) (hw _ (List.mem_of_getElem? (i := 4) rfl)) (by decide) (by decide)) q_153a q_153c (g := (mkF m 115 #[.val (.int k), .val (.long q0), .second, .val (.long q1), .second, .val (.long q2), .second, .val (.long q3), .second, .val (.long q4), .second, .val (.int (4 : Int32)), .val (.ref b_139), .val (.ref b_145), .unset] [(.ref b_145)])) rfl (by rw [hml]; rfl) (Steps.refl _) (argsL := []) (rest := []) (lenOf pd_1 rfl) rfl (by show 2 * 0 + _ ≤ _; exact Nat.le_of_eq rfl) (hb hby at_115) (fun _ _ => ⟨rfl, e_152, (by decide : 3 + 0 ≤ _), (by decide : 15 + 0 ≤ _)⟩)
    dsimp only [Pt.U, Pt.locs, Pt.cells, Pt.slots] at X_153 l_153 y_153 z_153 st_153 hQ_153
    obtain rfl : kc_153 = 3 := y_153
    obtain rfl : nc_153 = 15 := z_153
    obtain ⟨h_153, e_153⟩ : ∃ hh, T_153.heap = hh := ⟨_, rfl⟩
    rw [e_153] at hQ_153
    obtain ⟨rfl, N_153q, sm_153⟩ := hQ_153
    have N_153 : Fr n0 L_153 := by rw [l_153]; exact Fr.app N_152 N_153q
    refine Go.st (fun _ kk => st_153.trans kk) ?_
    rw [sm_153] at e_153
    show Go p e below s _ _ _ T_153 (mkF m 118 #[.val (.int k), .val (.long q0), .second, .val (.long q1), .second, .val (.long q2), .second, .val (.long q3), .second, .val (.long q4), .second, .val (.int (4 : Int32)), .val (.ref b_139), .val (.ref b_145), .unset] [(.int (4 : Int32))])
    refine Go.st (fun _ => XS.iload X_153.here hx rfl (hb hby at_118) rfl) ?_
    show Go p e below s _ _ _ T_153 (mkF m 120 #[.val (.int k), .val (.long q0), .second, .val (.long q1), .second, .val (.long q2), .second, .val (.long q3), .second, .val (.long q4), .second, .val (.int (4 : Int32)), .val (.ref b_139), .val (.ref b_145), .unset] [(.int (4 : Int32)), (.int (4 : Int32))])
    refine Go.st (fun _ => XS.icmpYes X_153.here hx rfl (pc0 := 120) (pc' := 125) rfl (hb hby at_120) rfl (teq (by decide : (4 : Int32) = (4 : Int32))).1 (by decide) (by decide)) ?_
    show Go p e below s _ _ _ T_153 (mkF m 125 #[.val (.int k), .val (.long q0), .second, .val (.long q1), .second, .val (.long q2), .second, .val (.long q3), .second, .val (.long q4), .second, .val (.int (4 : Int32)), .val (.ref b_139), .val (.ref b_145), .unset] [])
    refine Go.st (fun _ => XS.aload X_153.here hx rfl (hb hby at_125) rfl rfl) ?_
    show Go p e below s _ _ _ T_153 (mkF m 127 #[.val (.int k), .val (.long q0), .second, .val (.long q1), .second, .val (.long q2), .second, .val (.long q3), .second, .val (.long q4), .second, .val (.int (4 : Int32)), .val (.ref b_139), .val (.ref b_145), .unset] [(.ref b_145)])
    have f_157 := (p_151_1.keep K_152 (ninS ne_b_145_t__146 nin0))
    obtain ⟨cq_156, kq_156, q_156a, q_156b, q_156c⟩ := isOf hZ e_153 f_155
    obtain ⟨_, _, ⟨T_156, L_156, kc_156, nc_156⟩, -, X_156, ⟨Lc_156, hQ_156, l_156, y_156, z_156⟩, st_156⟩ := X_153.virtualBack hx (y := (⟨"com/example/moat/moat/xpath/Handles", "array", "()[J"⟩ : MethodName)) (z := (⟨"com/example/moat/moat/xpath/Handles", "array", "()[J"⟩ : MethodName)) hown (mvT hZ (hw _ (List.mem_of_getElem? (i := 25) rfl))) (mvT hZ (hw _ (List.mem_of_getElem? (i := 26) rfl))) (notFace_of_selects (args := #[]) (mvT hZ (hw _ (List.mem_of_getElem? (i := 28) rfl)))) (mvT hZ (hw _ (List.mem_of_getElem? (i := 28) rfl))) (mvT hZ (hw _ (List.mem_of_getElem? (i := 27) rfl))) (by decide) (backOf (W := 0) (rm5 l Z a0 hw [] b_145 t__146 h_152 n0 z_152q f_157) hZ (hw _ (List.mem_of_getElem? (i := 29) rfl)) (hw _ (List.mem_of_getElem? (i := 4) rfl)) (by decide) (by decide)) q_156a q_156c (g := (mkF m 127 #[.val (.int k), .val (.long q0), .second, .val (.long q1), .second, .val (.long q2), .second, .val (.long q3), .second, .val (.long q4), .second, .val (.int (4 : Int32)), .val (.ref b_139), .val (.ref b_145), .unset] [(.ref b_145)])) rfl (by rw [hml]; rfl) (Steps.refl _) (argsL := []) (rest := []) (lenOf pd_2 rfl) rfl (by show 2 * 0 + _ ≤ _; exact Nat.le_of_eq rfl) (hb hby at_127) (fun _ _ => ⟨rfl, e_153, (by decide : 3 + 0 ≤ _), (by decide : 15 + 0 ≤ _)⟩)
    dsimp only [Pt.U, Pt.locs, Pt.cells, Pt.slots] at X_156 l_156 y_156 z_156 st_156 hQ_156
    obtain rfl : kc_156 = 3 := y_156
    obtain rfl : nc_156 = 15 := z_156
    obtain ⟨h_156, e_156⟩ : ∃ hh, T_156.heap = hh := ⟨_, rfl⟩
    rw [e_156] at hQ_156
    obtain ⟨rfl, N_156q, sm_156⟩ := hQ_156
    have N_156 : Fr n0 L_156 := by rw [l_156]; exact Fr.app N_153 N_156q
    refine Go.st (fun _ kk => st_156.trans kk) ?_
    rw [sm_156] at e_156
    show Go p e below s _ _ _ T_156 (mkF m 130 #[.val (.int k), .val (.long q0), .second, .val (.long q1), .second, .val (.long q2), .second, .val (.long q3), .second, .val (.long q4), .second, .val (.int (4 : Int32)), .val (.ref b_139), .val (.ref b_145), .unset] [(.ref t__146)])
    refine Go.st (fun _ => XS.astore X_156.here hx rfl (hb hby at_130) rfl rfl (l' := #[.val (.int k), .val (.long q0), .second, .val (.long q1), .second, .val (.long q2), .second, .val (.long q3), .second, .val (.long q4), .second, .val (.int (4 : Int32)), .val (.ref b_139), .val (.ref b_145), .val (.ref t__146)]) rfl) ?_
    show Go p e below s _ _ _ T_156 (mkF m 132 #[.val (.int k), .val (.long q0), .second, .val (.long q1), .second, .val (.long q2), .second, .val (.long q3), .second, .val (.long q4), .second, .val (.int (4 : Int32)), .val (.ref b_139), .val (.ref b_145), .val (.ref t__146)] [])
    refine Go.st (fun _ => XS.aload X_156.here hx rfl (hb hby at_132) rfl rfl) ?_
    show Go p e below s _ _ _ T_156 (mkF m 134 #[.val (.int k), .val (.long q0), .second, .val (.long q1), .second, .val (.long q2), .second, .val (.long q3), .second, .val (.long q4), .second, .val (.int (4 : Int32)), .val (.ref b_139), .val (.ref b_145), .val (.ref t__146)] [(.ref t__146)])
    obtain ⟨cl_158, Ar_158, q_158, S_158, M_158, H_158, G_158⟩ := id p_152_0
    refine Go.st (fun tG => X_156.arraylength hx (by rw [e_156]; exact Ar_158.1) (State.isArrayOf_alike hZ.alike Ar_158.2.1) (g := (mkF m 134 #[.val (.int k), .val (.long q0), .second, .val (.long q1), .second, .val (.long q2), .second, .val (.long q3), .second, .val (.long q4), .second, .val (.int (4 : Int32)), .val (.ref b_139), .val (.ref b_145), .val (.ref t__146)] [(.ref t__146)])) rfl rfl (hb hby at_134) tG) ?_
    rw [len_of S_158 M_158]
    show Go p e below s _ _ _ T_156 (mkF m 135 #[.val (.int k), .val (.long q0), .second, .val (.long q1), .second, .val (.long q2), .second, .val (.long q3), .second, .val (.long q4), .second, .val (.int (4 : Int32)), .val (.ref b_139), .val (.ref b_145), .val (.ref t__146)] [(.int (8 : Int32))])
    refine Go.st (fun _ => XS.bipush X_156.here hx rfl (hb hby at_135)) ?_
    show Go p e below s _ _ _ T_156 (mkF m 137 #[.val (.int k), .val (.long q0), .second, .val (.long q1), .second, .val (.long q2), .second, .val (.long q3), .second, .val (.long q4), .second, .val (.int (4 : Int32)), .val (.ref b_139), .val (.ref b_145), .val (.ref t__146)] [(.int (8 : Int32)), (.int (8 : Int32))])
    refine Go.st (fun _ => XS.icmpYes X_156.here hx rfl (pc0 := 137) (pc' := 142) rfl (hb hby at_137) rfl (teq (by decide : (8 : Int32) = (8 : Int32))).1 (by decide) (by decide)) ?_
    show Go p e below s _ _ _ T_156 (mkF m 142 #[.val (.int k), .val (.long q0), .second, .val (.long q1), .second, .val (.long q2), .second, .val (.long q3), .second, .val (.long q4), .second, .val (.int (4 : Int32)), .val (.ref b_139), .val (.ref b_145), .val (.ref t__146)] [])
    refine Go.st (fun _ => XS.aload X_156.here hx rfl (hb hby at_142) rfl rfl) ?_
    show Go p e below s _ _ _ T_156 (mkF m 144 #[.val (.int k), .val (.long q0), .second, .val (.long q1), .second, .val (.long q2), .second, .val (.long q3), .second, .val (.long q4), .second, .val (.int (4 : Int32)), .val (.ref b_139), .val (.ref b_145), .val (.ref t__146)] [(.ref t__146)])
    refine Go.st (fun _ => XS.iconst X_156.here hx rfl (hb hby at_144)) ?_
    show Go p e below s _ _ _ T_156 (mkF m 145 #[.val (.int k), .val (.long q0), .second, .val (.long q1), .second, .val (.long q2), .second, .val (.long q3), .second, .val (.long q4), .second, .val (.int (4 : Int32)), .val (.ref b_139), .val (.ref b_145), .val (.ref t__146)] [(.int (0 : Int32)), (.ref t__146)])
    obtain ⟨cl_159, Ar_159, q_159, S_159, M_159, H_159, G_159⟩ := id p_152_0
    have hin_159 : ¬ ((0 : Int32) < 0 ∨ cl_159.slots.size ≤ ((0 : Int32)).toNatClampNeg) := inb_of S_159 ⟨by decide, by decide⟩
    have hat_159 : cl_159.slots[((0 : Int32)).toNatClampNeg]? = some (.long q3) := H_159.at hin_159 rfl
    refine Go.st (fun tG => X_156.laload hx (j := (0 : Int32)) (v := (.long q3)) (by rw [e_156]; exact Ar_159.1) (State.isArrayOf_alike hZ.alike Ar_159.2.1) Ar_159.2.2 hin_159 hat_159 (g := (mkF m 145 #[.val (.int k), .val (.long q0), .second, .val (.long q1), .second, .val (.long q2), .second, .val (.long q3), .second, .val (.long q4), .second, .val (.int (4 : Int32)), .val (.ref b_139), .val (.ref b_145), .val (.ref t__146)] [(.int (0 : Int32)), (.ref t__146)])) rfl rfl (hb hby at_145) tG) ?_
    show Go p e below s _ _ _ T_156 (mkF m 146 #[.val (.int k), .val (.long q0), .second, .val (.long q1), .second, .val (.long q2), .second, .val (.long q3), .second, .val (.long q4), .second, .val (.int (4 : Int32)), .val (.ref b_139), .val (.ref b_145), .val (.ref t__146)] [(.long q3)])
    refine Go.st (fun _ => XS.aload X_156.here hx rfl (hb hby at_146) rfl rfl) ?_
    show Go p e below s _ _ _ T_156 (mkF m 148 #[.val (.int k), .val (.long q0), .second, .val (.long q1), .second, .val (.long q2), .second, .val (.long q3), .second, .val (.long q4), .second, .val (.int (4 : Int32)), .val (.ref b_139), .val (.ref b_145), .val (.ref t__146)] [(.ref b_139), (.long q3)])
    refine Go.st (fun _ => XS.iload X_156.here hx rfl (hb hby at_148) rfl) ?_
    show Go p e below s _ _ _ T_156 (mkF m 150 #[.val (.int k), .val (.long q0), .second, .val (.long q1), .second, .val (.long q2), .second, .val (.long q3), .second, .val (.long q4), .second, .val (.int (4 : Int32)), .val (.ref b_139), .val (.ref b_145), .val (.ref t__146)] [(.int (4 : Int32)), (.ref b_139), (.long q3)])
    refine Go.st (fun _ => XS.iconst X_156.here hx rfl (hb hby at_150)) ?_
    show Go p e below s _ _ _ T_156 (mkF m 151 #[.val (.int k), .val (.long q0), .second, .val (.long q1), .second, .val (.long q2), .second, .val (.long q3), .second, .val (.long q4), .second, .val (.int (4 : Int32)), .val (.ref b_139), .val (.ref b_145), .val (.ref t__146)] [(.int (0 : Int32)), (.int (4 : Int32)), (.ref b_139), (.long q3)])
    have f_161 := ((((((f_147.keep K_146 (ninS ne_b_139_b_145 nin0)).keep K_148 (ninS ne_b_139_b_145 (ninS ne_b_139_t__146 nin0))).keep K_149 (ninS ne_b_139_b_145 (ninS ne_b_139_t__146 nin0))).keep K_150 (ninS ne_b_139_b_145 (ninS ne_b_139_t__146 nin0))).keep K_151 (ninS ne_b_139_b_145 (ninS ne_b_139_t__146 nin0))).keep K_152 (ninS ne_b_139_t__146 nin0))
    obtain ⟨_, _, ⟨T_160, L_160, kc_160, nc_160⟩, -, X_160, ⟨Lc_160, hQ_160, l_160, y_160, z_160⟩, st_160⟩ := Jvm.LawKit.callS X_156 hx (y := (⟨"com/example/moat/moat/xpath/HandlesReversePinLaw", "exp", "([JII)J"⟩ : MethodName)) hown (mvT hZ (hw _ (List.mem_of_getElem? (i := 30) rfl))) (mvT hZ (hw _ (List.mem_of_getElem? (i := 31) rfl))) (mvT hZ (hw _ (List.mem_of_getElem? (i := 32) rfl))) (mvT hZ (hw _ (List.mem_of_getElem? (i := 33) rfl))) (by decide) (backOf (W := 2) (rmXa l Z a0 hw [] b_139 (4 : Int32) (0 : Int32) kA_139 (5 : Int32) [(.long q0), (.long q1), (.long q2), (.long q3), (.long q4)] (.long (0 : Int64)) q3 h_152 n0 z_152q f_161 (by decide) (by decide) rfl) hZ (hw _ (List.mem_of_getElem? (i := 33) rfl)) (hw _ (List.mem_of_getElem? (i := 32) rfl)) (by decide) (by decide)) (g := (mkF m 151 #[.val (.int k), .val (.long q0), .second, .val (.long q1), .second, .val (.long q2), .second, .val (.long q3), .second, .val (.long q4), .second, .val (.int (4 : Int32)), .val (.ref b_139), .val (.ref b_145), .val (.ref t__146)] [(.int (0 : Int32)), (.int (4 : Int32)), (.ref b_139), (.long q3)])) rfl (by rw [hml]; rfl) (argsL := [(.ref b_139), (.int (4 : Int32)), (.int (0 : Int32))]) (rest := [(.long q3)]) (lenOf pd_3 rfl) rfl (by show 2 * 0 + _ ≤ _; exact Nat.le_of_eq rfl) (hb hby at_151) (fun _ _ => ⟨rfl, e_156, (by decide : 3 + 0 ≤ _), (by decide : 15 + 0 ≤ _)⟩)
    dsimp only [Pt.U, Pt.locs, Pt.cells, Pt.slots] at X_160 l_160 y_160 z_160 st_160 hQ_160
    obtain rfl : kc_160 = 3 := y_160
    obtain rfl : nc_160 = 15 := z_160
    obtain ⟨h_160, e_160⟩ : ∃ hh, T_160.heap = hh := ⟨_, rfl⟩
    rw [e_160] at hQ_160
    obtain ⟨rfl, N_160q, sm_160⟩ := hQ_160
    have N_160 : Fr n0 L_160 := by rw [l_160]; exact Fr.app N_156 N_160q
    refine Go.st st_160 ?_
    rw [sm_160] at e_160
    show Go p e below s _ _ _ T_160 (mkF m 154 #[.val (.int k), .val (.long q0), .second, .val (.long q1), .second, .val (.long q2), .second, .val (.long q3), .second, .val (.long q4), .second, .val (.int (4 : Int32)), .val (.ref b_139), .val (.ref b_145), .val (.ref t__146)] [(.long q3), (.long q3)])
    refine Go.st (fun _ => XS.lcmp X_160.here hx rfl (hb hby at_154) rfl) ?_
    show Go p e below s _ _ _ T_160 (mkF m 155 #[.val (.int k), .val (.long q0), .second, .val (.long q1), .second, .val (.long q2), .second, .val (.long q3), .second, .val (.long q4), .second, .val (.int (4 : Int32)), .val (.ref b_139), .val (.ref b_145), .val (.ref t__146)] [(.int (lcmpW q3 q3))])
    refine Go.st (fun _ => XS.ifNo X_160.here hx rfl (hb hby at_155) rfl ((if0 _ _).trans (teq ((lw_eq q3 q3).mpr (rfl : q3 = q3))).2)) ?_
    show Go p e below s _ _ _ T_160 (mkF m 158 #[.val (.int k), .val (.long q0), .second, .val (.long q1), .second, .val (.long q2), .second, .val (.long q3), .second, .val (.long q4), .second, .val (.int (4 : Int32)), .val (.ref b_139), .val (.ref b_145), .val (.ref t__146)] [])
    refine Go.st (fun _ => XS.aload X_160.here hx rfl (hb hby at_158) rfl rfl) ?_
    show Go p e below s _ _ _ T_160 (mkF m 160 #[.val (.int k), .val (.long q0), .second, .val (.long q1), .second, .val (.long q2), .second, .val (.long q3), .second, .val (.long q4), .second, .val (.int (4 : Int32)), .val (.ref b_139), .val (.ref b_145), .val (.ref t__146)] [(.ref t__146)])
    refine Go.st (fun _ => XS.iconst X_160.here hx rfl (hb hby at_160)) ?_
    show Go p e below s _ _ _ T_160 (mkF m 161 #[.val (.int k), .val (.long q0), .second, .val (.long q1), .second, .val (.long q2), .second, .val (.long q3), .second, .val (.long q4), .second, .val (.int (4 : Int32)), .val (.ref b_139), .val (.ref b_145), .val (.ref t__146)] [(.int (1 : Int32)), (.ref t__146)])
    obtain ⟨cl_162, Ar_162, q_162, S_162, M_162, H_162, G_162⟩ := id p_152_0
    have hin_162 : ¬ ((1 : Int32) < 0 ∨ cl_162.slots.size ≤ ((1 : Int32)).toNatClampNeg) := inb_of S_162 ⟨by decide, by decide⟩
    have hat_162 : cl_162.slots[((1 : Int32)).toNatClampNeg]? = some (.long q2) := H_162.at hin_162 rfl
    refine Go.st (fun tG => X_160.laload hx (j := (1 : Int32)) (v := (.long q2)) (by rw [e_160]; exact Ar_162.1) (State.isArrayOf_alike hZ.alike Ar_162.2.1) Ar_162.2.2 hin_162 hat_162 (g := (mkF m 161 #[.val (.int k), .val (.long q0), .second, .val (.long q1), .second, .val (.long q2), .second, .val (.long q3), .second, .val (.long q4), .second, .val (.int (4 : Int32)), .val (.ref b_139), .val (.ref b_145), .val (.ref t__146)] [(.int (1 : Int32)), (.ref t__146)])) rfl rfl (hb hby at_161) tG) ?_
    show Go p e below s _ _ _ T_160 (mkF m 162 #[.val (.int k), .val (.long q0), .second, .val (.long q1), .second, .val (.long q2), .second, .val (.long q3), .second, .val (.long q4), .second, .val (.int (4 : Int32)), .val (.ref b_139), .val (.ref b_145), .val (.ref t__146)] [(.long q2)])
    refine Go.st (fun _ => XS.aload X_160.here hx rfl (hb hby at_162) rfl rfl) ?_
    show Go p e below s _ _ _ T_160 (mkF m 164 #[.val (.int k), .val (.long q0), .second, .val (.long q1), .second, .val (.long q2), .second, .val (.long q3), .second, .val (.long q4), .second, .val (.int (4 : Int32)), .val (.ref b_139), .val (.ref b_145), .val (.ref t__146)] [(.ref b_139), (.long q2)])
    refine Go.st (fun _ => XS.iload X_160.here hx rfl (hb hby at_164) rfl) ?_
    show Go p e below s _ _ _ T_160 (mkF m 166 #[.val (.int k), .val (.long q0), .second, .val (.long q1), .second, .val (.long q2), .second, .val (.long q3), .second, .val (.long q4), .second, .val (.int (4 : Int32)), .val (.ref b_139), .val (.ref b_145), .val (.ref t__146)] [(.int (4 : Int32)), (.ref b_139), (.long q2)])
    refine Go.st (fun _ => XS.iconst X_160.here hx rfl (hb hby at_166)) ?_
    show Go p e below s _ _ _ T_160 (mkF m 167 #[.val (.int k), .val (.long q0), .second, .val (.long q1), .second, .val (.long q2), .second, .val (.long q3), .second, .val (.long q4), .second, .val (.int (4 : Int32)), .val (.ref b_139), .val (.ref b_145), .val (.ref t__146)] [(.int (1 : Int32)), (.int (4 : Int32)), (.ref b_139), (.long q2)])
    obtain ⟨_, _, ⟨T_163, L_163, kc_163, nc_163⟩, -, X_163, ⟨Lc_163, hQ_163, l_163, y_163, z_163⟩, st_163⟩ := Jvm.LawKit.callS X_160 hx (y := (⟨"com/example/moat/moat/xpath/HandlesReversePinLaw", "exp", "([JII)J"⟩ : MethodName)) hown (mvT hZ (hw _ (List.mem_of_getElem? (i := 30) rfl))) (mvT hZ (hw _ (List.mem_of_getElem? (i := 31) rfl))) (mvT hZ (hw _ (List.mem_of_getElem? (i := 32) rfl))) (mvT hZ (hw _ (List.mem_of_getElem? (i := 33) rfl))) (by decide) (backOf (W := 2) (rmXa l Z a0 hw [] b_139 (4 : Int32) (1 : Int32) kA_139 (5 : Int32) [(.long q0), (.long q1), (.long q2), (.long q3), (.long q4)] (.long (0 : Int64)) q2 h_152 n0 z_152q f_161 (by decide) (by decide) rfl) hZ (hw _ (List.mem_of_getElem? (i := 33) rfl)) (hw _ (List.mem_of_getElem? (i := 32) rfl)) (by decide) (by decide)) (g := (mkF m 167 #[.val (.int k), .val (.long q0), .second, .val (.long q1), .second, .val (.long q2), .second, .val (.long q3), .second, .val (.long q4), .second, .val (.int (4 : Int32)), .val (.ref b_139), .val (.ref b_145), .val (.ref t__146)] [(.int (1 : Int32)), (.int (4 : Int32)), (.ref b_139), (.long q2)])) rfl (by rw [hml]; rfl) (argsL := [(.ref b_139), (.int (4 : Int32)), (.int (1 : Int32))]) (rest := [(.long q2)]) (lenOf pd_3 rfl) rfl (by show 2 * 0 + _ ≤ _; exact Nat.le_of_eq rfl) (hb hby at_167) (fun _ _ => ⟨rfl, e_160, (by decide : 3 + 0 ≤ _), (by decide : 15 + 0 ≤ _)⟩)
    dsimp only [Pt.U, Pt.locs, Pt.cells, Pt.slots] at X_163 l_163 y_163 z_163 st_163 hQ_163
    obtain rfl : kc_163 = 3 := y_163
    obtain rfl : nc_163 = 15 := z_163
    obtain ⟨h_163, e_163⟩ : ∃ hh, T_163.heap = hh := ⟨_, rfl⟩
    rw [e_163] at hQ_163
    obtain ⟨rfl, N_163q, sm_163⟩ := hQ_163
    have N_163 : Fr n0 L_163 := by rw [l_163]; exact Fr.app N_160 N_163q
    refine Go.st st_163 ?_
    rw [sm_163] at e_163
    show Go p e below s _ _ _ T_163 (mkF m 170 #[.val (.int k), .val (.long q0), .second, .val (.long q1), .second, .val (.long q2), .second, .val (.long q3), .second, .val (.long q4), .second, .val (.int (4 : Int32)), .val (.ref b_139), .val (.ref b_145), .val (.ref t__146)] [(.long q2), (.long q2)])
    refine Go.st (fun _ => XS.lcmp X_163.here hx rfl (hb hby at_170) rfl) ?_
    show Go p e below s _ _ _ T_163 (mkF m 171 #[.val (.int k), .val (.long q0), .second, .val (.long q1), .second, .val (.long q2), .second, .val (.long q3), .second, .val (.long q4), .second, .val (.int (4 : Int32)), .val (.ref b_139), .val (.ref b_145), .val (.ref t__146)] [(.int (lcmpW q2 q2))])
    refine Go.st (fun _ => XS.ifNo X_163.here hx rfl (hb hby at_171) rfl ((if0 _ _).trans (teq ((lw_eq q2 q2).mpr (rfl : q2 = q2))).2)) ?_
    show Go p e below s _ _ _ T_163 (mkF m 174 #[.val (.int k), .val (.long q0), .second, .val (.long q1), .second, .val (.long q2), .second, .val (.long q3), .second, .val (.long q4), .second, .val (.int (4 : Int32)), .val (.ref b_139), .val (.ref b_145), .val (.ref t__146)] [])
    refine Go.st (fun _ => XS.aload X_163.here hx rfl (hb hby at_174) rfl rfl) ?_
    show Go p e below s _ _ _ T_163 (mkF m 176 #[.val (.int k), .val (.long q0), .second, .val (.long q1), .second, .val (.long q2), .second, .val (.long q3), .second, .val (.long q4), .second, .val (.int (4 : Int32)), .val (.ref b_139), .val (.ref b_145), .val (.ref t__146)] [(.ref t__146)])
    refine Go.st (fun _ => XS.iconst X_163.here hx rfl (hb hby at_176)) ?_
    show Go p e below s _ _ _ T_163 (mkF m 177 #[.val (.int k), .val (.long q0), .second, .val (.long q1), .second, .val (.long q2), .second, .val (.long q3), .second, .val (.long q4), .second, .val (.int (4 : Int32)), .val (.ref b_139), .val (.ref b_145), .val (.ref t__146)] [(.int (2 : Int32)), (.ref t__146)])
    obtain ⟨cl_164, Ar_164, q_164, S_164, M_164, H_164, G_164⟩ := id p_152_0
    have hin_164 : ¬ ((2 : Int32) < 0 ∨ cl_164.slots.size ≤ ((2 : Int32)).toNatClampNeg) := inb_of S_164 ⟨by decide, by decide⟩
    have hat_164 : cl_164.slots[((2 : Int32)).toNatClampNeg]? = some (.long q1) := H_164.at hin_164 rfl
    refine Go.st (fun tG => X_163.laload hx (j := (2 : Int32)) (v := (.long q1)) (by rw [e_163]; exact Ar_164.1) (State.isArrayOf_alike hZ.alike Ar_164.2.1) Ar_164.2.2 hin_164 hat_164 (g := (mkF m 177 #[.val (.int k), .val (.long q0), .second, .val (.long q1), .second, .val (.long q2), .second, .val (.long q3), .second, .val (.long q4), .second, .val (.int (4 : Int32)), .val (.ref b_139), .val (.ref b_145), .val (.ref t__146)] [(.int (2 : Int32)), (.ref t__146)])) rfl rfl (hb hby at_177) tG) ?_
    show Go p e below s _ _ _ T_163 (mkF m 178 #[.val (.int k), .val (.long q0), .second, .val (.long q1), .second, .val (.long q2), .second, .val (.long q3), .second, .val (.long q4), .second, .val (.int (4 : Int32)), .val (.ref b_139), .val (.ref b_145), .val (.ref t__146)] [(.long q1)])
    refine Go.st (fun _ => XS.aload X_163.here hx rfl (hb hby at_178) rfl rfl) ?_
    show Go p e below s _ _ _ T_163 (mkF m 180 #[.val (.int k), .val (.long q0), .second, .val (.long q1), .second, .val (.long q2), .second, .val (.long q3), .second, .val (.long q4), .second, .val (.int (4 : Int32)), .val (.ref b_139), .val (.ref b_145), .val (.ref t__146)] [(.ref b_139), (.long q1)])
    refine Go.st (fun _ => XS.iload X_163.here hx rfl (hb hby at_180) rfl) ?_
    show Go p e below s _ _ _ T_163 (mkF m 182 #[.val (.int k), .val (.long q0), .second, .val (.long q1), .second, .val (.long q2), .second, .val (.long q3), .second, .val (.long q4), .second, .val (.int (4 : Int32)), .val (.ref b_139), .val (.ref b_145), .val (.ref t__146)] [(.int (4 : Int32)), (.ref b_139), (.long q1)])
    refine Go.st (fun _ => XS.iconst X_163.here hx rfl (hb hby at_182)) ?_
    show Go p e below s _ _ _ T_163 (mkF m 183 #[.val (.int k), .val (.long q0), .second, .val (.long q1), .second, .val (.long q2), .second, .val (.long q3), .second, .val (.long q4), .second, .val (.int (4 : Int32)), .val (.ref b_139), .val (.ref b_145), .val (.ref t__146)] [(.int (2 : Int32)), (.int (4 : Int32)), (.ref b_139), (.long q1)])
    obtain ⟨_, _, ⟨T_165, L_165, kc_165, nc_165⟩, -, X_165, ⟨Lc_165, hQ_165, l_165, y_165, z_165⟩, st_165⟩ := Jvm.LawKit.callS X_163 hx (y := (⟨"com/example/moat/moat/xpath/HandlesReversePinLaw", "exp", "([JII)J"⟩ : MethodName)) hown (mvT hZ (hw _ (List.mem_of_getElem? (i := 30) rfl))) (mvT hZ (hw _ (List.mem_of_getElem? (i := 31) rfl))) (mvT hZ (hw _ (List.mem_of_getElem? (i := 32) rfl))) (mvT hZ (hw _ (List.mem_of_getElem? (i := 33) rfl))) (by decide) (backOf (W := 2) (rmXa l Z a0 hw [] b_139 (4 : Int32) (2 : Int32) kA_139 (5 : Int32) [(.long q0), (.long q1), (.long q2), (.long q3), (.long q4)] (.long (0 : Int64)) q1 h_152 n0 z_152q f_161 (by decide) (by decide) rfl) hZ (hw _ (List.mem_of_getElem? (i := 33) rfl)) (hw _ (List.mem_of_getElem? (i := 32) rfl)) (by decide) (by decide)) (g := (mkF m 183 #[.val (.int k), .val (.long q0), .second, .val (.long q1), .second, .val (.long q2), .second, .val (.long q3), .second, .val (.long q4), .second, .val (.int (4 : Int32)), .val (.ref b_139), .val (.ref b_145), .val (.ref t__146)] [(.int (2 : Int32)), (.int (4 : Int32)), (.ref b_139), (.long q1)])) rfl (by rw [hml]; rfl) (argsL := [(.ref b_139), (.int (4 : Int32)), (.int (2 : Int32))]) (rest := [(.long q1)]) (lenOf pd_3 rfl) rfl (by show 2 * 0 + _ ≤ _; exact Nat.le_of_eq rfl) (hb hby at_183) (fun _ _ => ⟨rfl, e_163, (by decide : 3 + 0 ≤ _), (by decide : 15 + 0 ≤ _)⟩)
    dsimp only [Pt.U, Pt.locs, Pt.cells, Pt.slots] at X_165 l_165 y_165 z_165 st_165 hQ_165
    obtain rfl : kc_165 = 3 := y_165
    obtain rfl : nc_165 = 15 := z_165
    obtain ⟨h_165, e_165⟩ : ∃ hh, T_165.heap = hh := ⟨_, rfl⟩
    rw [e_165] at hQ_165
    obtain ⟨rfl, N_165q, sm_165⟩ := hQ_165
    have N_165 : Fr n0 L_165 := by rw [l_165]; exact Fr.app N_163 N_165q
    refine Go.st st_165 ?_
    rw [sm_165] at e_165
    show Go p e below s _ _ _ T_165 (mkF m 186 #[.val (.int k), .val (.long q0), .second, .val (.long q1), .second, .val (.long q2), .second, .val (.long q3), .second, .val (.long q4), .second, .val (.int (4 : Int32)), .val (.ref b_139), .val (.ref b_145), .val (.ref t__146)] [(.long q1), (.long q1)])
    refine Go.st (fun _ => XS.lcmp X_165.here hx rfl (hb hby at_186) rfl) ?_
    show Go p e below s _ _ _ T_165 (mkF m 187 #[.val (.int k), .val (.long q0), .second, .val (.long q1), .second, .val (.long q2), .second, .val (.long q3), .second, .val (.long q4), .second, .val (.int (4 : Int32)), .val (.ref b_139), .val (.ref b_145), .val (.ref t__146)] [(.int (lcmpW q1 q1))])
    refine Go.st (fun _ => XS.ifNo X_165.here hx rfl (hb hby at_187) rfl ((if0 _ _).trans (teq ((lw_eq q1 q1).mpr (rfl : q1 = q1))).2)) ?_
    show Go p e below s _ _ _ T_165 (mkF m 190 #[.val (.int k), .val (.long q0), .second, .val (.long q1), .second, .val (.long q2), .second, .val (.long q3), .second, .val (.long q4), .second, .val (.int (4 : Int32)), .val (.ref b_139), .val (.ref b_145), .val (.ref t__146)] [])
    refine Go.st (fun _ => XS.aload X_165.here hx rfl (hb hby at_190) rfl rfl) ?_
    show Go p e below s _ _ _ T_165 (mkF m 192 #[.val (.int k), .val (.long q0), .second, .val (.long q1), .second, .val (.long q2), .second, .val (.long q3), .second, .val (.long q4), .second, .val (.int (4 : Int32)), .val (.ref b_139), .val (.ref b_145), .val (.ref t__146)] [(.ref t__146)])
    refine Go.st (fun _ => XS.iconst X_165.here hx rfl (hb hby at_192)) ?_
    show Go p e below s _ _ _ T_165 (mkF m 193 #[.val (.int k), .val (.long q0), .second, .val (.long q1), .second, .val (.long q2), .second, .val (.long q3), .second, .val (.long q4), .second, .val (.int (4 : Int32)), .val (.ref b_139), .val (.ref b_145), .val (.ref t__146)] [(.int (3 : Int32)), (.ref t__146)])
    obtain ⟨cl_166, Ar_166, q_166, S_166, M_166, H_166, G_166⟩ := id p_152_0
    have hin_166 : ¬ ((3 : Int32) < 0 ∨ cl_166.slots.size ≤ ((3 : Int32)).toNatClampNeg) := inb_of S_166 ⟨by decide, by decide⟩
    have hat_166 : cl_166.slots[((3 : Int32)).toNatClampNeg]? = some (.long q0) := H_166.at hin_166 rfl
    refine Go.st (fun tG => X_165.laload hx (j := (3 : Int32)) (v := (.long q0)) (by rw [e_165]; exact Ar_166.1) (State.isArrayOf_alike hZ.alike Ar_166.2.1) Ar_166.2.2 hin_166 hat_166 (g := (mkF m 193 #[.val (.int k), .val (.long q0), .second, .val (.long q1), .second, .val (.long q2), .second, .val (.long q3), .second, .val (.long q4), .second, .val (.int (4 : Int32)), .val (.ref b_139), .val (.ref b_145), .val (.ref t__146)] [(.int (3 : Int32)), (.ref t__146)])) rfl rfl (hb hby at_193) tG) ?_
    show Go p e below s _ _ _ T_165 (mkF m 194 #[.val (.int k), .val (.long q0), .second, .val (.long q1), .second, .val (.long q2), .second, .val (.long q3), .second, .val (.long q4), .second, .val (.int (4 : Int32)), .val (.ref b_139), .val (.ref b_145), .val (.ref t__146)] [(.long q0)])
    refine Go.st (fun _ => XS.aload X_165.here hx rfl (hb hby at_194) rfl rfl) ?_
    show Go p e below s _ _ _ T_165 (mkF m 196 #[.val (.int k), .val (.long q0), .second, .val (.long q1), .second, .val (.long q2), .second, .val (.long q3), .second, .val (.long q4), .second, .val (.int (4 : Int32)), .val (.ref b_139), .val (.ref b_145), .val (.ref t__146)] [(.ref b_139), (.long q0)])
    refine Go.st (fun _ => XS.iload X_165.here hx rfl (hb hby at_196) rfl) ?_
    show Go p e below s _ _ _ T_165 (mkF m 198 #[.val (.int k), .val (.long q0), .second, .val (.long q1), .second, .val (.long q2), .second, .val (.long q3), .second, .val (.long q4), .second, .val (.int (4 : Int32)), .val (.ref b_139), .val (.ref b_145), .val (.ref t__146)] [(.int (4 : Int32)), (.ref b_139), (.long q0)])
    refine Go.st (fun _ => XS.iconst X_165.here hx rfl (hb hby at_198)) ?_
    show Go p e below s _ _ _ T_165 (mkF m 199 #[.val (.int k), .val (.long q0), .second, .val (.long q1), .second, .val (.long q2), .second, .val (.long q3), .second, .val (.long q4), .second, .val (.int (4 : Int32)), .val (.ref b_139), .val (.ref b_145), .val (.ref t__146)] [(.int (3 : Int32)), (.int (4 : Int32)), (.ref b_139), (.long q0)])
    obtain ⟨_, _, ⟨T_167, L_167, kc_167, nc_167⟩, -, X_167, ⟨Lc_167, hQ_167, l_167, y_167, z_167⟩, st_167⟩ := Jvm.LawKit.callS X_165 hx (y := (⟨"com/example/moat/moat/xpath/HandlesReversePinLaw", "exp", "([JII)J"⟩ : MethodName)) hown (mvT hZ (hw _ (List.mem_of_getElem? (i := 30) rfl))) (mvT hZ (hw _ (List.mem_of_getElem? (i := 31) rfl))) (mvT hZ (hw _ (List.mem_of_getElem? (i := 32) rfl))) (mvT hZ (hw _ (List.mem_of_getElem? (i := 33) rfl))) (by decide) (backOf (W := 2) (rmXa l Z a0 hw [] b_139 (4 : Int32) (3 : Int32) kA_139 (5 : Int32) [(.long q0), (.long q1), (.long q2), (.long q3), (.long q4)] (.long (0 : Int64)) q0 h_152 n0 z_152q f_161 (by decide) (by decide) rfl) hZ (hw _ (List.mem_of_getElem? (i := 33) rfl)) (hw _ (List.mem_of_getElem? (i := 32) rfl)) (by decide) (by decide)) (g := (mkF m 199 #[.val (.int k), .val (.long q0), .second, .val (.long q1), .second, .val (.long q2), .second, .val (.long q3), .second, .val (.long q4), .second, .val (.int (4 : Int32)), .val (.ref b_139), .val (.ref b_145), .val (.ref t__146)] [(.int (3 : Int32)), (.int (4 : Int32)), (.ref b_139), (.long q0)])) rfl (by rw [hml]; rfl) (argsL := [(.ref b_139), (.int (4 : Int32)), (.int (3 : Int32))]) (rest := [(.long q0)]) (lenOf pd_3 rfl) rfl (by show 2 * 0 + _ ≤ _; exact Nat.le_of_eq rfl) (hb hby at_199) (fun _ _ => ⟨rfl, e_165, (by decide : 3 + 0 ≤ _), (by decide : 15 + 0 ≤ _)⟩)
    dsimp only [Pt.U, Pt.locs, Pt.cells, Pt.slots] at X_167 l_167 y_167 z_167 st_167 hQ_167
    obtain rfl : kc_167 = 3 := y_167
    obtain rfl : nc_167 = 15 := z_167
    obtain ⟨h_167, e_167⟩ : ∃ hh, T_167.heap = hh := ⟨_, rfl⟩
    rw [e_167] at hQ_167
    obtain ⟨rfl, N_167q, sm_167⟩ := hQ_167
    have N_167 : Fr n0 L_167 := by rw [l_167]; exact Fr.app N_165 N_167q
    refine Go.st st_167 ?_
    rw [sm_167] at e_167
    show Go p e below s _ _ _ T_167 (mkF m 202 #[.val (.int k), .val (.long q0), .second, .val (.long q1), .second, .val (.long q2), .second, .val (.long q3), .second, .val (.long q4), .second, .val (.int (4 : Int32)), .val (.ref b_139), .val (.ref b_145), .val (.ref t__146)] [(.long q0), (.long q0)])
    refine Go.st (fun _ => XS.lcmp X_167.here hx rfl (hb hby at_202) rfl) ?_
    show Go p e below s _ _ _ T_167 (mkF m 203 #[.val (.int k), .val (.long q0), .second, .val (.long q1), .second, .val (.long q2), .second, .val (.long q3), .second, .val (.long q4), .second, .val (.int (4 : Int32)), .val (.ref b_139), .val (.ref b_145), .val (.ref t__146)] [(.int (lcmpW q0 q0))])
    refine Go.st (fun _ => XS.ifNo X_167.here hx rfl (hb hby at_203) rfl ((if0 _ _).trans (teq ((lw_eq q0 q0).mpr (rfl : q0 = q0))).2)) ?_
    show Go p e below s _ _ _ T_167 (mkF m 206 #[.val (.int k), .val (.long q0), .second, .val (.long q1), .second, .val (.long q2), .second, .val (.long q3), .second, .val (.long q4), .second, .val (.int (4 : Int32)), .val (.ref b_139), .val (.ref b_145), .val (.ref t__146)] [])
    refine Go.st (fun _ => XS.aload X_167.here hx rfl (hb hby at_206) rfl rfl) ?_
    show Go p e below s _ _ _ T_167 (mkF m 208 #[.val (.int k), .val (.long q0), .second, .val (.long q1), .second, .val (.long q2), .second, .val (.long q3), .second, .val (.long q4), .second, .val (.int (4 : Int32)), .val (.ref b_139), .val (.ref b_145), .val (.ref t__146)] [(.ref t__146)])
    refine Go.st (fun _ => XS.iconst X_167.here hx rfl (hb hby at_208)) ?_
    show Go p e below s _ _ _ T_167 (mkF m 209 #[.val (.int k), .val (.long q0), .second, .val (.long q1), .second, .val (.long q2), .second, .val (.long q3), .second, .val (.long q4), .second, .val (.int (4 : Int32)), .val (.ref b_139), .val (.ref b_145), .val (.ref t__146)] [(.int (4 : Int32)), (.ref t__146)])
    obtain ⟨cl_168, Ar_168, q_168, S_168, M_168, H_168, G_168⟩ := id p_152_0
    have hin_168 : ¬ ((4 : Int32) < 0 ∨ cl_168.slots.size ≤ ((4 : Int32)).toNatClampNeg) := inb_of S_168 ⟨by decide, by decide⟩
    have hat_168 : cl_168.slots[((4 : Int32)).toNatClampNeg]? = some (.long (0 : Int64)) := H_168.at hin_168 rfl
    refine Go.st (fun tG => X_167.laload hx (j := (4 : Int32)) (v := (.long (0 : Int64))) (by rw [e_167]; exact Ar_168.1) (State.isArrayOf_alike hZ.alike Ar_168.2.1) Ar_168.2.2 hin_168 hat_168 (g := (mkF m 209 #[.val (.int k), .val (.long q0), .second, .val (.long q1), .second, .val (.long q2), .second, .val (.long q3), .second, .val (.long q4), .second, .val (.int (4 : Int32)), .val (.ref b_139), .val (.ref b_145), .val (.ref t__146)] [(.int (4 : Int32)), (.ref t__146)])) rfl rfl (hb hby at_209) tG) ?_
    show Go p e below s _ _ _ T_167 (mkF m 210 #[.val (.int k), .val (.long q0), .second, .val (.long q1), .second, .val (.long q2), .second, .val (.long q3), .second, .val (.long q4), .second, .val (.int (4 : Int32)), .val (.ref b_139), .val (.ref b_145), .val (.ref t__146)] [(.long (0 : Int64))])
    refine Go.st (fun _ => XS.aload X_167.here hx rfl (hb hby at_210) rfl rfl) ?_
    show Go p e below s _ _ _ T_167 (mkF m 212 #[.val (.int k), .val (.long q0), .second, .val (.long q1), .second, .val (.long q2), .second, .val (.long q3), .second, .val (.long q4), .second, .val (.int (4 : Int32)), .val (.ref b_139), .val (.ref b_145), .val (.ref t__146)] [(.ref b_139), (.long (0 : Int64))])
    refine Go.st (fun _ => XS.iload X_167.here hx rfl (hb hby at_212) rfl) ?_
    show Go p e below s _ _ _ T_167 (mkF m 214 #[.val (.int k), .val (.long q0), .second, .val (.long q1), .second, .val (.long q2), .second, .val (.long q3), .second, .val (.long q4), .second, .val (.int (4 : Int32)), .val (.ref b_139), .val (.ref b_145), .val (.ref t__146)] [(.int (4 : Int32)), (.ref b_139), (.long (0 : Int64))])
    refine Go.st (fun _ => XS.iconst X_167.here hx rfl (hb hby at_214)) ?_
    show Go p e below s _ _ _ T_167 (mkF m 215 #[.val (.int k), .val (.long q0), .second, .val (.long q1), .second, .val (.long q2), .second, .val (.long q3), .second, .val (.long q4), .second, .val (.int (4 : Int32)), .val (.ref b_139), .val (.ref b_145), .val (.ref t__146)] [(.int (4 : Int32)), (.int (4 : Int32)), (.ref b_139), (.long (0 : Int64))])
    obtain ⟨_, _, ⟨T_169, L_169, kc_169, nc_169⟩, -, X_169, ⟨Lc_169, hQ_169, l_169, y_169, z_169⟩, st_169⟩ := Jvm.LawKit.callS X_167 hx (y := (⟨"com/example/moat/moat/xpath/HandlesReversePinLaw", "exp", "([JII)J"⟩ : MethodName)) hown (mvT hZ (hw _ (List.mem_of_getElem? (i := 30) rfl))) (mvT hZ (hw _ (List.mem_of_getElem? (i := 31) rfl))) (mvT hZ (hw _ (List.mem_of_getElem? (i := 32) rfl))) (mvT hZ (hw _ (List.mem_of_getElem? (i := 33) rfl))) (by decide) (backOf (W := 2) (rmXb l Z a0 hw [] b_139 (4 : Int32) (4 : Int32) h_152 n0 z_152q (by decide)) hZ (hw _ (List.mem_of_getElem? (i := 33) rfl)) (hw _ (List.mem_of_getElem? (i := 32) rfl)) (by decide) (by decide)) (g := (mkF m 215 #[.val (.int k), .val (.long q0), .second, .val (.long q1), .second, .val (.long q2), .second, .val (.long q3), .second, .val (.long q4), .second, .val (.int (4 : Int32)), .val (.ref b_139), .val (.ref b_145), .val (.ref t__146)] [(.int (4 : Int32)), (.int (4 : Int32)), (.ref b_139), (.long (0 : Int64))])) rfl (by rw [hml]; rfl) (argsL := [(.ref b_139), (.int (4 : Int32)), (.int (4 : Int32))]) (rest := [(.long (0 : Int64))]) (lenOf pd_3 rfl) rfl (by show 2 * 0 + _ ≤ _; exact Nat.le_of_eq rfl) (hb hby at_215) (fun _ _ => ⟨rfl, e_167, (by decide : 3 + 0 ≤ _), (by decide : 15 + 0 ≤ _)⟩)
    dsimp only [Pt.U, Pt.locs, Pt.cells, Pt.slots] at X_169 l_169 y_169 z_169 st_169 hQ_169
    obtain rfl : kc_169 = 3 := y_169
    obtain rfl : nc_169 = 15 := z_169
    obtain ⟨h_169, e_169⟩ : ∃ hh, T_169.heap = hh := ⟨_, rfl⟩
    rw [e_169] at hQ_169
    obtain ⟨rfl, N_169q, sm_169⟩ := hQ_169
    have N_169 : Fr n0 L_169 := by rw [l_169]; exact Fr.app N_167 N_169q
    refine Go.st st_169 ?_
    rw [sm_169] at e_169
    show Go p e below s _ _ _ T_169 (mkF m 218 #[.val (.int k), .val (.long q0), .second, .val (.long q1), .second, .val (.long q2), .second, .val (.long q3), .second, .val (.long q4), .second, .val (.int (4 : Int32)), .val (.ref b_139), .val (.ref b_145), .val (.ref t__146)] [(.long (0 : Int64)), (.long (0 : Int64))])
    refine Go.st (fun _ => XS.lcmp X_169.here hx rfl (hb hby at_218) rfl) ?_
    show Go p e below s _ _ _ T_169 (mkF m 219 #[.val (.int k), .val (.long q0), .second, .val (.long q1), .second, .val (.long q2), .second, .val (.long q3), .second, .val (.long q4), .second, .val (.int (4 : Int32)), .val (.ref b_139), .val (.ref b_145), .val (.ref t__146)] [(.int (lcmpW (0 : Int64) (0 : Int64)))])
    refine Go.st (fun _ => XS.ifNo X_169.here hx rfl (hb hby at_219) rfl ((if0 _ _).trans (teq ((lw_eq (0 : Int64) (0 : Int64)).mpr (by decide : (0 : Int64) = (0 : Int64)))).2)) ?_
    show Go p e below s _ _ _ T_169 (mkF m 222 #[.val (.int k), .val (.long q0), .second, .val (.long q1), .second, .val (.long q2), .second, .val (.long q3), .second, .val (.long q4), .second, .val (.int (4 : Int32)), .val (.ref b_139), .val (.ref b_145), .val (.ref t__146)] [])
    refine Go.st (fun _ => XS.aload X_169.here hx rfl (hb hby at_222) rfl rfl) ?_
    show Go p e below s _ _ _ T_169 (mkF m 224 #[.val (.int k), .val (.long q0), .second, .val (.long q1), .second, .val (.long q2), .second, .val (.long q3), .second, .val (.long q4), .second, .val (.int (4 : Int32)), .val (.ref b_139), .val (.ref b_145), .val (.ref t__146)] [(.ref t__146)])
    refine Go.st (fun _ => XS.iconst X_169.here hx rfl (hb hby at_224)) ?_
    show Go p e below s _ _ _ T_169 (mkF m 225 #[.val (.int k), .val (.long q0), .second, .val (.long q1), .second, .val (.long q2), .second, .val (.long q3), .second, .val (.long q4), .second, .val (.int (4 : Int32)), .val (.ref b_139), .val (.ref b_145), .val (.ref t__146)] [(.int (5 : Int32)), (.ref t__146)])
    obtain ⟨cl_170, Ar_170, q_170, S_170, M_170, H_170, G_170⟩ := id p_152_0
    have hin_170 : ¬ ((5 : Int32) < 0 ∨ cl_170.slots.size ≤ ((5 : Int32)).toNatClampNeg) := inb_of S_170 ⟨by decide, by decide⟩
    have hat_170 : cl_170.slots[((5 : Int32)).toNatClampNeg]? = some (.long (0 : Int64)) := H_170.at hin_170 rfl
    refine Go.st (fun tG => X_169.laload hx (j := (5 : Int32)) (v := (.long (0 : Int64))) (by rw [e_169]; exact Ar_170.1) (State.isArrayOf_alike hZ.alike Ar_170.2.1) Ar_170.2.2 hin_170 hat_170 (g := (mkF m 225 #[.val (.int k), .val (.long q0), .second, .val (.long q1), .second, .val (.long q2), .second, .val (.long q3), .second, .val (.long q4), .second, .val (.int (4 : Int32)), .val (.ref b_139), .val (.ref b_145), .val (.ref t__146)] [(.int (5 : Int32)), (.ref t__146)])) rfl rfl (hb hby at_225) tG) ?_
    show Go p e below s _ _ _ T_169 (mkF m 226 #[.val (.int k), .val (.long q0), .second, .val (.long q1), .second, .val (.long q2), .second, .val (.long q3), .second, .val (.long q4), .second, .val (.int (4 : Int32)), .val (.ref b_139), .val (.ref b_145), .val (.ref t__146)] [(.long (0 : Int64))])
    refine Go.st (fun _ => XS.aload X_169.here hx rfl (hb hby at_226) rfl rfl) ?_
    show Go p e below s _ _ _ T_169 (mkF m 228 #[.val (.int k), .val (.long q0), .second, .val (.long q1), .second, .val (.long q2), .second, .val (.long q3), .second, .val (.long q4), .second, .val (.int (4 : Int32)), .val (.ref b_139), .val (.ref b_145), .val (.ref t__146)] [(.ref b_139), (.long (0 : Int64))])
    refine Go.st (fun _ => XS.iload X_169.here hx rfl (hb hby at_228) rfl) ?_
    show Go p e below s _ _ _ T_169 (mkF m 230 #[.val (.int k), .val (.long q0), .second, .val (.long q1), .second, .val (.long q2), .second, .val (.long q3), .second, .val (.long q4), .second, .val (.int (4 : Int32)), .val (.ref b_139), .val (.ref b_145), .val (.ref t__146)] [(.int (4 : Int32)), (.ref b_139), (.long (0 : Int64))])
    refine Go.st (fun _ => XS.iconst X_169.here hx rfl (hb hby at_230)) ?_
    show Go p e below s _ _ _ T_169 (mkF m 231 #[.val (.int k), .val (.long q0), .second, .val (.long q1), .second, .val (.long q2), .second, .val (.long q3), .second, .val (.long q4), .second, .val (.int (4 : Int32)), .val (.ref b_139), .val (.ref b_145), .val (.ref t__146)] [(.int (5 : Int32)), (.int (4 : Int32)), (.ref b_139), (.long (0 : Int64))])
    obtain ⟨_, _, ⟨T_171, L_171, kc_171, nc_171⟩, -, X_171, ⟨Lc_171, hQ_171, l_171, y_171, z_171⟩, st_171⟩ := Jvm.LawKit.callS X_169 hx (y := (⟨"com/example/moat/moat/xpath/HandlesReversePinLaw", "exp", "([JII)J"⟩ : MethodName)) hown (mvT hZ (hw _ (List.mem_of_getElem? (i := 30) rfl))) (mvT hZ (hw _ (List.mem_of_getElem? (i := 31) rfl))) (mvT hZ (hw _ (List.mem_of_getElem? (i := 32) rfl))) (mvT hZ (hw _ (List.mem_of_getElem? (i := 33) rfl))) (by decide) (backOf (W := 2) (rmXb l Z a0 hw [] b_139 (4 : Int32) (5 : Int32) h_152 n0 z_152q (by decide)) hZ (hw _ (List.mem_of_getElem? (i := 33) rfl)) (hw _ (List.mem_of_getElem? (i := 32) rfl)) (by decide) (by decide)) (g := (mkF m 231 #[.val (.int k), .val (.long q0), .second, .val (.long q1), .second, .val (.long q2), .second, .val (.long q3), .second, .val (.long q4), .second, .val (.int (4 : Int32)), .val (.ref b_139), .val (.ref b_145), .val (.ref t__146)] [(.int (5 : Int32)), (.int (4 : Int32)), (.ref b_139), (.long (0 : Int64))])) rfl (by rw [hml]; rfl) (argsL := [(.ref b_139), (.int (4 : Int32)), (.int (5 : Int32))]) (rest := [(.long (0 : Int64))]) (lenOf pd_3 rfl) rfl (by show 2 * 0 + _ ≤ _; exact Nat.le_of_eq rfl) (hb hby at_231) (fun _ _ => ⟨rfl, e_169, (by decide : 3 + 0 ≤ _), (by decide : 15 + 0 ≤ _)⟩)
    dsimp only [Pt.U, Pt.locs, Pt.cells, Pt.slots] at X_171 l_171 y_171 z_171 st_171 hQ_171
    obtain rfl : kc_171 = 3 := y_171
    obtain rfl : nc_171 = 15 := z_171
    obtain ⟨h_171, e_171⟩ : ∃ hh, T_171.heap = hh := ⟨_, rfl⟩
    rw [e_171] at hQ_171
    obtain ⟨rfl, N_171q, sm_171⟩ := hQ_171
    have N_171 : Fr n0 L_171 := by rw [l_171]; exact Fr.app N_169 N_171q
    refine Go.st st_171 ?_
    rw [sm_171] at e_171
    show Go p e below s _ _ _ T_171 (mkF m 234 #[.val (.int k), .val (.long q0), .second, .val (.long q1), .second, .val (.long q2), .second, .val (.long q3), .second, .val (.long q4), .second, .val (.int (4 : Int32)), .val (.ref b_139), .val (.ref b_145), .val (.ref t__146)] [(.long (0 : Int64)), (.long (0 : Int64))])
    refine Go.st (fun _ => XS.lcmp X_171.here hx rfl (hb hby at_234) rfl) ?_
    show Go p e below s _ _ _ T_171 (mkF m 235 #[.val (.int k), .val (.long q0), .second, .val (.long q1), .second, .val (.long q2), .second, .val (.long q3), .second, .val (.long q4), .second, .val (.int (4 : Int32)), .val (.ref b_139), .val (.ref b_145), .val (.ref t__146)] [(.int (lcmpW (0 : Int64) (0 : Int64)))])
    refine Go.st (fun _ => XS.ifNo X_171.here hx rfl (hb hby at_235) rfl ((if0 _ _).trans (teq ((lw_eq (0 : Int64) (0 : Int64)).mpr (by decide : (0 : Int64) = (0 : Int64)))).2)) ?_
    show Go p e below s _ _ _ T_171 (mkF m 238 #[.val (.int k), .val (.long q0), .second, .val (.long q1), .second, .val (.long q2), .second, .val (.long q3), .second, .val (.long q4), .second, .val (.int (4 : Int32)), .val (.ref b_139), .val (.ref b_145), .val (.ref t__146)] [])
    refine Go.st (fun _ => XS.aload X_171.here hx rfl (hb hby at_238) rfl rfl) ?_
    show Go p e below s _ _ _ T_171 (mkF m 240 #[.val (.int k), .val (.long q0), .second, .val (.long q1), .second, .val (.long q2), .second, .val (.long q3), .second, .val (.long q4), .second, .val (.int (4 : Int32)), .val (.ref b_139), .val (.ref b_145), .val (.ref t__146)] [(.ref t__146)])
    refine Go.st (fun _ => XS.bipush X_171.here hx rfl (hb hby at_240)) ?_
    show Go p e below s _ _ _ T_171 (mkF m 242 #[.val (.int k), .val (.long q0), .second, .val (.long q1), .second, .val (.long q2), .second, .val (.long q3), .second, .val (.long q4), .second, .val (.int (4 : Int32)), .val (.ref b_139), .val (.ref b_145), .val (.ref t__146)] [(.int (6 : Int32)), (.ref t__146)])
    obtain ⟨cl_172, Ar_172, q_172, S_172, M_172, H_172, G_172⟩ := id p_152_0
    have hin_172 : ¬ ((6 : Int32) < 0 ∨ cl_172.slots.size ≤ ((6 : Int32)).toNatClampNeg) := inb_of S_172 ⟨by decide, by decide⟩
    have hat_172 : cl_172.slots[((6 : Int32)).toNatClampNeg]? = some (.long (0 : Int64)) := H_172.at hin_172 rfl
    refine Go.st (fun tG => X_171.laload hx (j := (6 : Int32)) (v := (.long (0 : Int64))) (by rw [e_171]; exact Ar_172.1) (State.isArrayOf_alike hZ.alike Ar_172.2.1) Ar_172.2.2 hin_172 hat_172 (g := (mkF m 242 #[.val (.int k), .val (.long q0), .second, .val (.long q1), .second, .val (.long q2), .second, .val (.long q3), .second, .val (.long q4), .second, .val (.int (4 : Int32)), .val (.ref b_139), .val (.ref b_145), .val (.ref t__146)] [(.int (6 : Int32)), (.ref t__146)])) rfl rfl (hb hby at_242) tG) ?_
    show Go p e below s _ _ _ T_171 (mkF m 243 #[.val (.int k), .val (.long q0), .second, .val (.long q1), .second, .val (.long q2), .second, .val (.long q3), .second, .val (.long q4), .second, .val (.int (4 : Int32)), .val (.ref b_139), .val (.ref b_145), .val (.ref t__146)] [(.long (0 : Int64))])
    refine Go.st (fun _ => XS.aload X_171.here hx rfl (hb hby at_243) rfl rfl) ?_
    show Go p e below s _ _ _ T_171 (mkF m 245 #[.val (.int k), .val (.long q0), .second, .val (.long q1), .second, .val (.long q2), .second, .val (.long q3), .second, .val (.long q4), .second, .val (.int (4 : Int32)), .val (.ref b_139), .val (.ref b_145), .val (.ref t__146)] [(.ref b_139), (.long (0 : Int64))])
    refine Go.st (fun _ => XS.iload X_171.here hx rfl (hb hby at_245) rfl) ?_
    show Go p e below s _ _ _ T_171 (mkF m 247 #[.val (.int k), .val (.long q0), .second, .val (.long q1), .second, .val (.long q2), .second, .val (.long q3), .second, .val (.long q4), .second, .val (.int (4 : Int32)), .val (.ref b_139), .val (.ref b_145), .val (.ref t__146)] [(.int (4 : Int32)), (.ref b_139), (.long (0 : Int64))])
    refine Go.st (fun _ => XS.bipush X_171.here hx rfl (hb hby at_247)) ?_
    show Go p e below s _ _ _ T_171 (mkF m 249 #[.val (.int k), .val (.long q0), .second, .val (.long q1), .second, .val (.long q2), .second, .val (.long q3), .second, .val (.long q4), .second, .val (.int (4 : Int32)), .val (.ref b_139), .val (.ref b_145), .val (.ref t__146)] [(.int (6 : Int32)), (.int (4 : Int32)), (.ref b_139), (.long (0 : Int64))])
    obtain ⟨_, _, ⟨T_173, L_173, kc_173, nc_173⟩, -, X_173, ⟨Lc_173, hQ_173, l_173, y_173, z_173⟩, st_173⟩ := Jvm.LawKit.callS X_171 hx (y := (⟨"com/example/moat/moat/xpath/HandlesReversePinLaw", "exp", "([JII)J"⟩ : MethodName)) hown (mvT hZ (hw _ (List.mem_of_getElem? (i := 30) rfl))) (mvT hZ (hw _ (List.mem_of_getElem? (i := 31) rfl))) (mvT hZ (hw _ (List.mem_of_getElem? (i := 32) rfl))) (mvT hZ (hw _ (List.mem_of_getElem? (i := 33) rfl))) (by decide) (backOf (W := 2) (rmXb l Z a0 hw [] b_139 (4 : Int32) (6 : Int32) h_152 n0 z_152q (by decide)) hZ (hw _ (List.mem_of_getElem? (i := 33) rfl)) (hw _ (List.mem_of_getElem? (i := 32) rfl)) (by decide) (by decide)) (g := (mkF m 249 #[.val (.int k), .val (.long q0), .second, .val (.long q1), .second, .val (.long q2), .second, .val (.long q3), .second, .val (.long q4), .second, .val (.int (4 : Int32)), .val (.ref b_139), .val (.ref b_145), .val (.ref t__146)] [(.int (6 : Int32)), (.int (4 : Int32)), (.ref b_139), (.long (0 : Int64))])) rfl (by rw [hml]; rfl) (argsL := [(.ref b_139), (.int (4 : Int32)), (.int (6 : Int32))]) (rest := [(.long (0 : Int64))]) (lenOf pd_3 rfl) rfl (by show 2 * 0 + _ ≤ _; exact Nat.le_of_eq rfl) (hb hby at_249) (fun _ _ => ⟨rfl, e_171, (by decide : 3 + 0 ≤ _), (by decide : 15 + 0 ≤ _)⟩)
    dsimp only [Pt.U, Pt.locs, Pt.cells, Pt.slots] at X_173 l_173 y_173 z_173 st_173 hQ_173
    obtain rfl : kc_173 = 3 := y_173
    obtain rfl : nc_173 = 15 := z_173
    obtain ⟨h_173, e_173⟩ : ∃ hh, T_173.heap = hh := ⟨_, rfl⟩
    rw [e_173] at hQ_173
    obtain ⟨rfl, N_173q, sm_173⟩ := hQ_173
    have N_173 : Fr n0 L_173 := by rw [l_173]; exact Fr.app N_171 N_173q
    refine Go.st st_173 ?_
    rw [sm_173] at e_173
    show Go p e below s _ _ _ T_173 (mkF m 252 #[.val (.int k), .val (.long q0), .second, .val (.long q1), .second, .val (.long q2), .second, .val (.long q3), .second, .val (.long q4), .second, .val (.int (4 : Int32)), .val (.ref b_139), .val (.ref b_145), .val (.ref t__146)] [(.long (0 : Int64)), (.long (0 : Int64))])
    refine Go.st (fun _ => XS.lcmp X_173.here hx rfl (hb hby at_252) rfl) ?_
    show Go p e below s _ _ _ T_173 (mkF m 253 #[.val (.int k), .val (.long q0), .second, .val (.long q1), .second, .val (.long q2), .second, .val (.long q3), .second, .val (.long q4), .second, .val (.int (4 : Int32)), .val (.ref b_139), .val (.ref b_145), .val (.ref t__146)] [(.int (lcmpW (0 : Int64) (0 : Int64)))])
    refine Go.st (fun _ => XS.ifNo X_173.here hx rfl (hb hby at_253) rfl ((if0 _ _).trans (teq ((lw_eq (0 : Int64) (0 : Int64)).mpr (by decide : (0 : Int64) = (0 : Int64)))).2)) ?_
    show Go p e below s _ _ _ T_173 (mkF m 256 #[.val (.int k), .val (.long q0), .second, .val (.long q1), .second, .val (.long q2), .second, .val (.long q3), .second, .val (.long q4), .second, .val (.int (4 : Int32)), .val (.ref b_139), .val (.ref b_145), .val (.ref t__146)] [])
    refine Go.st (fun _ => XS.aload X_173.here hx rfl (hb hby at_256) rfl rfl) ?_
    show Go p e below s _ _ _ T_173 (mkF m 258 #[.val (.int k), .val (.long q0), .second, .val (.long q1), .second, .val (.long q2), .second, .val (.long q3), .second, .val (.long q4), .second, .val (.int (4 : Int32)), .val (.ref b_139), .val (.ref b_145), .val (.ref t__146)] [(.ref t__146)])
    refine Go.st (fun _ => XS.bipush X_173.here hx rfl (hb hby at_258)) ?_
    show Go p e below s _ _ _ T_173 (mkF m 260 #[.val (.int k), .val (.long q0), .second, .val (.long q1), .second, .val (.long q2), .second, .val (.long q3), .second, .val (.long q4), .second, .val (.int (4 : Int32)), .val (.ref b_139), .val (.ref b_145), .val (.ref t__146)] [(.int (7 : Int32)), (.ref t__146)])
    obtain ⟨cl_174, Ar_174, q_174, S_174, M_174, H_174, G_174⟩ := id p_152_0
    have hin_174 : ¬ ((7 : Int32) < 0 ∨ cl_174.slots.size ≤ ((7 : Int32)).toNatClampNeg) := inb_of S_174 ⟨by decide, by decide⟩
    have hat_174 : cl_174.slots[((7 : Int32)).toNatClampNeg]? = some (.long (0 : Int64)) := H_174.at hin_174 rfl
    refine Go.st (fun tG => X_173.laload hx (j := (7 : Int32)) (v := (.long (0 : Int64))) (by rw [e_173]; exact Ar_174.1) (State.isArrayOf_alike hZ.alike Ar_174.2.1) Ar_174.2.2 hin_174 hat_174 (g := (mkF m 260 #[.val (.int k), .val (.long q0), .second, .val (.long q1), .second, .val (.long q2), .second, .val (.long q3), .second, .val (.long q4), .second, .val (.int (4 : Int32)), .val (.ref b_139), .val (.ref b_145), .val (.ref t__146)] [(.int (7 : Int32)), (.ref t__146)])) rfl rfl (hb hby at_260) tG) ?_
    show Go p e below s _ _ _ T_173 (mkF m 261 #[.val (.int k), .val (.long q0), .second, .val (.long q1), .second, .val (.long q2), .second, .val (.long q3), .second, .val (.long q4), .second, .val (.int (4 : Int32)), .val (.ref b_139), .val (.ref b_145), .val (.ref t__146)] [(.long (0 : Int64))])
    refine Go.st (fun _ => XS.aload X_173.here hx rfl (hb hby at_261) rfl rfl) ?_
    show Go p e below s _ _ _ T_173 (mkF m 263 #[.val (.int k), .val (.long q0), .second, .val (.long q1), .second, .val (.long q2), .second, .val (.long q3), .second, .val (.long q4), .second, .val (.int (4 : Int32)), .val (.ref b_139), .val (.ref b_145), .val (.ref t__146)] [(.ref b_139), (.long (0 : Int64))])
    refine Go.st (fun _ => XS.iload X_173.here hx rfl (hb hby at_263) rfl) ?_
    show Go p e below s _ _ _ T_173 (mkF m 265 #[.val (.int k), .val (.long q0), .second, .val (.long q1), .second, .val (.long q2), .second, .val (.long q3), .second, .val (.long q4), .second, .val (.int (4 : Int32)), .val (.ref b_139), .val (.ref b_145), .val (.ref t__146)] [(.int (4 : Int32)), (.ref b_139), (.long (0 : Int64))])
    refine Go.st (fun _ => XS.bipush X_173.here hx rfl (hb hby at_265)) ?_
    show Go p e below s _ _ _ T_173 (mkF m 267 #[.val (.int k), .val (.long q0), .second, .val (.long q1), .second, .val (.long q2), .second, .val (.long q3), .second, .val (.long q4), .second, .val (.int (4 : Int32)), .val (.ref b_139), .val (.ref b_145), .val (.ref t__146)] [(.int (7 : Int32)), (.int (4 : Int32)), (.ref b_139), (.long (0 : Int64))])
    obtain ⟨_, _, ⟨T_175, L_175, kc_175, nc_175⟩, -, X_175, ⟨Lc_175, hQ_175, l_175, y_175, z_175⟩, st_175⟩ := Jvm.LawKit.callS X_173 hx (y := (⟨"com/example/moat/moat/xpath/HandlesReversePinLaw", "exp", "([JII)J"⟩ : MethodName)) hown (mvT hZ (hw _ (List.mem_of_getElem? (i := 30) rfl))) (mvT hZ (hw _ (List.mem_of_getElem? (i := 31) rfl))) (mvT hZ (hw _ (List.mem_of_getElem? (i := 32) rfl))) (mvT hZ (hw _ (List.mem_of_getElem? (i := 33) rfl))) (by decide) (backOf (W := 2) (rmXb l Z a0 hw [] b_139 (4 : Int32) (7 : Int32) h_152 n0 z_152q (by decide)) hZ (hw _ (List.mem_of_getElem? (i := 33) rfl)) (hw _ (List.mem_of_getElem? (i := 32) rfl)) (by decide) (by decide)) (g := (mkF m 267 #[.val (.int k), .val (.long q0), .second, .val (.long q1), .second, .val (.long q2), .second, .val (.long q3), .second, .val (.long q4), .second, .val (.int (4 : Int32)), .val (.ref b_139), .val (.ref b_145), .val (.ref t__146)] [(.int (7 : Int32)), (.int (4 : Int32)), (.ref b_139), (.long (0 : Int64))])) rfl (by rw [hml]; rfl) (argsL := [(.ref b_139), (.int (4 : Int32)), (.int (7 : Int32))]) (rest := [(.long (0 : Int64))]) (lenOf pd_3 rfl) rfl (by show 2 * 0 + _ ≤ _; exact Nat.le_of_eq rfl) (hb hby at_267) (fun _ _ => ⟨rfl, e_173, (by decide : 3 + 0 ≤ _), (by decide : 15 + 0 ≤ _)⟩)
    dsimp only [Pt.U, Pt.locs, Pt.cells, Pt.slots] at X_175 l_175 y_175 z_175 st_175 hQ_175
    obtain rfl : kc_175 = 3 := y_175
    obtain rfl : nc_175 = 15 := z_175
    obtain ⟨h_175, e_175⟩ : ∃ hh, T_175.heap = hh := ⟨_, rfl⟩
    rw [e_175] at hQ_175
    obtain ⟨rfl, N_175q, sm_175⟩ := hQ_175
    have N_175 : Fr n0 L_175 := by rw [l_175]; exact Fr.app N_173 N_175q
    refine Go.st st_175 ?_
    rw [sm_175] at e_175
    show Go p e below s _ _ _ T_175 (mkF m 270 #[.val (.int k), .val (.long q0), .second, .val (.long q1), .second, .val (.long q2), .second, .val (.long q3), .second, .val (.long q4), .second, .val (.int (4 : Int32)), .val (.ref b_139), .val (.ref b_145), .val (.ref t__146)] [(.long (0 : Int64)), (.long (0 : Int64))])
    refine Go.st (fun _ => XS.lcmp X_175.here hx rfl (hb hby at_270) rfl) ?_
    show Go p e below s _ _ _ T_175 (mkF m 271 #[.val (.int k), .val (.long q0), .second, .val (.long q1), .second, .val (.long q2), .second, .val (.long q3), .second, .val (.long q4), .second, .val (.int (4 : Int32)), .val (.ref b_139), .val (.ref b_145), .val (.ref t__146)] [(.int (lcmpW (0 : Int64) (0 : Int64)))])
    refine Go.st (fun _ => XS.ifNo X_175.here hx rfl (hb hby at_271) rfl ((if0 _ _).trans (teq ((lw_eq (0 : Int64) (0 : Int64)).mpr (by decide : (0 : Int64) = (0 : Int64)))).2)) ?_
    show Go p e below s _ _ _ T_175 (mkF m 274 #[.val (.int k), .val (.long q0), .second, .val (.long q1), .second, .val (.long q2), .second, .val (.long q3), .second, .val (.long q4), .second, .val (.int (4 : Int32)), .val (.ref b_139), .val (.ref b_145), .val (.ref t__146)] [])
    refine Go.st (fun _ => XS.iconst X_175.here hx rfl (hb hby at_274)) ?_
    show Go p e below s _ _ _ T_175 (mkF m 275 #[.val (.int k), .val (.long q0), .second, .val (.long q1), .second, .val (.long q2), .second, .val (.long q3), .second, .val (.long q4), .second, .val (.int (4 : Int32)), .val (.ref b_139), .val (.ref b_145), .val (.ref t__146)] [(.int (1 : Int32))])
    refine Go.st (fun _ => XS.goto X_175.here hx rfl (pc0 := 275) (pc' := 279) rfl (hb hby at_275) (by decide) (by decide)) ?_
    show Go p e below s _ _ _ T_175 (mkF m 279 #[.val (.int k), .val (.long q0), .second, .val (.long q1), .second, .val (.long q2), .second, .val (.long q3), .second, .val (.long q4), .second, .val (.int (4 : Int32)), .val (.ref b_139), .val (.ref b_145), .val (.ref t__146)] [(.int (1 : Int32))])
    exact Go.retZ X_175 hx hlk Bd.returns (hb hby at_279) rfl (by rw [e_175]; exact ⟨rfl, N_175⟩) (by decide) (by decide)
  · rw [show ((k &&& (2147483647 : Int32)) % (6 : Int32)) = (5 : Int32) from hd_1]
    show Go p e below s _ _ _ s₁ (mkF m 7 #[.val (.int k), .val (.long q0), .second, .val (.long q1), .second, .val (.long q2), .second, .val (.long q3), .second, .val (.long q4), .second, .unset, .unset, .unset, .unset] [(.int (5 : Int32))])
    refine Go.st (fun _ => XS.istore X0.here hx rfl (hb hby at_7) rfl (l' := #[.val (.int k), .val (.long q0), .second, .val (.long q1), .second, .val (.long q2), .second, .val (.long q3), .second, .val (.long q4), .second, .val (.int (5 : Int32)), .unset, .unset, .unset]) rfl) ?_
    show Go p e below s _ _ _ s₁ (mkF m 9 #[.val (.int k), .val (.long q0), .second, .val (.long q1), .second, .val (.long q2), .second, .val (.long q3), .second, .val (.long q4), .second, .val (.int (5 : Int32)), .unset, .unset, .unset] [])
    refine Go.st (fun _ => XS.iconst X0.here hx rfl (hb hby at_9)) ?_
    show Go p e below s _ _ _ s₁ (mkF m 10 #[.val (.int k), .val (.long q0), .second, .val (.long q1), .second, .val (.long q2), .second, .val (.long q3), .second, .val (.long q4), .second, .val (.int (5 : Int32)), .unset, .unset, .unset] [(.int (5 : Int32))])
    obtain ⟨T_176, h_176, kA_176, X_176, e_176, E_176, A_176, st_176⟩ := newP X0 hx hZ (hw _ (List.mem_of_getElem? (i := 1) rfl)) e0 (g := (mkF m 10 #[.val (.int k), .val (.long q0), .second, .val (.long q1), .second, .val (.long q2), .second, .val (.long q3), .second, .val (.long q4), .second, .val (.int (5 : Int32)), .unset, .unset, .unset] [(.int (5 : Int32))])) rfl (hb hby at_10) rfl (by decide) (cap := 5) (by decide) (by decide) (by decide) (by decide)
    obtain ⟨b_176, g_176⟩ : ∃ z, z = h0.size := ⟨_, rfl⟩
    rw [← g_176] at A_176 st_176
    refine Go.st st_176 ?_
    have gg_176 : n0 ≤ b_176 := Nat.le_trans Z0 (Nat.le_of_eq g_176.symm)
    have z_176 : n0 ≤ h_176.size := Nat.le_trans Z0 E_176.1
    have V_b_176 : Arv Z h_176 b_176 kA_176 .long (5 : Int32) [(.long (0 : Int64)), (.long (0 : Int64)), (.long (0 : Int64)), (.long (0 : Int64)), (.long (0 : Int64))] (.long (0 : Int64)) := (Arv.new A_176 (by decide)).pad (pad_rep [] (.long (0 : Int64)) 5)
    show Go p e below s _ _ _ T_176 (mkF m 12 #[.val (.int k), .val (.long q0), .second, .val (.long q1), .second, .val (.long q2), .second, .val (.long q3), .second, .val (.long q4), .second, .val (.int (5 : Int32)), .unset, .unset, .unset] [(.ref b_176)])
    refine Go.st (fun _ => XS.dup X_176.here hx rfl (hb hby at_12) rfl rfl) ?_
    show Go p e below s _ _ _ T_176 (mkF m 13 #[.val (.int k), .val (.long q0), .second, .val (.long q1), .second, .val (.long q2), .second, .val (.long q3), .second, .val (.long q4), .second, .val (.int (5 : Int32)), .unset, .unset, .unset] [(.ref b_176), (.ref b_176)])
    refine Go.st (fun _ => XS.iconst X_176.here hx rfl (hb hby at_13)) ?_
    show Go p e below s _ _ _ T_176 (mkF m 14 #[.val (.int k), .val (.long q0), .second, .val (.long q1), .second, .val (.long q2), .second, .val (.long q3), .second, .val (.long q4), .second, .val (.int (5 : Int32)), .unset, .unset, .unset] [(.int (0 : Int32)), (.ref b_176), (.ref b_176)])
    refine Go.st (fun _ => XS.lloadN X_176.here hx rfl (hb hby at_14) rfl) ?_
    show Go p e below s _ _ _ T_176 (mkF m 15 #[.val (.int k), .val (.long q0), .second, .val (.long q1), .second, .val (.long q2), .second, .val (.long q3), .second, .val (.long q4), .second, .val (.int (5 : Int32)), .unset, .unset, .unset] [(.long q0), (.int (0 : Int32)), (.ref b_176), (.ref b_176)])
    obtain ⟨cl_177, Ar_177, q_177, S_177, M_177, H_177, G_177⟩ := id V_b_176
    have hin_177 : ¬ ((0 : Int32) < 0 ∨ cl_177.slots.size ≤ ((0 : Int32)).toNatClampNeg) := inb_of S_177 ⟨by decide, by decide⟩
    obtain ⟨T_177, h_177, X_177, e_177, W_177, st_177⟩ := stJ X_176 hx hZ e_176 Ar_177 (j := (0 : Int32)) hin_177 (g := (mkF m 15 #[.val (.int k), .val (.long q0), .second, .val (.long q1), .second, .val (.long q2), .second, .val (.long q3), .second, .val (.long q4), .second, .val (.int (5 : Int32)), .unset, .unset, .unset] [(.long q0), (.int (0 : Int32)), (.ref b_176), (.ref b_176)])) rfl rfl (hb hby at_15)
    refine Go.st st_177 ?_
    have V_177 : Arv Z h_177 b_176 kA_176 .long (5 : Int32) [(.long q0), (.long (0 : Int64)), (.long (0 : Int64)), (.long (0 : Int64)), (.long (0 : Int64))] (.long (0 : Int64)) := Arv.set Ar_177 q_177 S_177 M_177 H_177 G_177 rfl W_177 0 rfl (Nat.le_of_ble_eq_true rfl)
    have N_177 := Fr.snoc X_177 N0 gg_176
    have z_177 : n0 ≤ h_177.size := Nat.le_trans z_176 (Nat.le_of_eq W_177.size.symm)
    show Go p e below s _ _ _ T_177 (mkF m 16 #[.val (.int k), .val (.long q0), .second, .val (.long q1), .second, .val (.long q2), .second, .val (.long q3), .second, .val (.long q4), .second, .val (.int (5 : Int32)), .unset, .unset, .unset] [(.ref b_176)])
    refine Go.st (fun _ => XS.dup X_177.here hx rfl (hb hby at_16) rfl rfl) ?_
    show Go p e below s _ _ _ T_177 (mkF m 17 #[.val (.int k), .val (.long q0), .second, .val (.long q1), .second, .val (.long q2), .second, .val (.long q3), .second, .val (.long q4), .second, .val (.int (5 : Int32)), .unset, .unset, .unset] [(.ref b_176), (.ref b_176)])
    refine Go.st (fun _ => XS.iconst X_177.here hx rfl (hb hby at_17)) ?_
    show Go p e below s _ _ _ T_177 (mkF m 18 #[.val (.int k), .val (.long q0), .second, .val (.long q1), .second, .val (.long q2), .second, .val (.long q3), .second, .val (.long q4), .second, .val (.int (5 : Int32)), .unset, .unset, .unset] [(.int (1 : Int32)), (.ref b_176), (.ref b_176)])
    refine Go.st (fun _ => XS.lloadN X_177.here hx rfl (hb hby at_18) rfl) ?_
    show Go p e below s _ _ _ T_177 (mkF m 19 #[.val (.int k), .val (.long q0), .second, .val (.long q1), .second, .val (.long q2), .second, .val (.long q3), .second, .val (.long q4), .second, .val (.int (5 : Int32)), .unset, .unset, .unset] [(.long q1), (.int (1 : Int32)), (.ref b_176), (.ref b_176)])
    obtain ⟨cl_178, Ar_178, q_178, S_178, M_178, H_178, G_178⟩ := id V_177
    have hin_178 : ¬ ((1 : Int32) < 0 ∨ cl_178.slots.size ≤ ((1 : Int32)).toNatClampNeg) := inb_of S_178 ⟨by decide, by decide⟩
    obtain ⟨T_178, h_178, X_178, e_178, W_178, st_178⟩ := stJ X_177 hx hZ e_177 Ar_178 (j := (1 : Int32)) hin_178 (g := (mkF m 19 #[.val (.int k), .val (.long q0), .second, .val (.long q1), .second, .val (.long q2), .second, .val (.long q3), .second, .val (.long q4), .second, .val (.int (5 : Int32)), .unset, .unset, .unset] [(.long q1), (.int (1 : Int32)), (.ref b_176), (.ref b_176)])) rfl rfl (hb hby at_19)
    refine Go.st st_178 ?_
    have V_178 : Arv Z h_178 b_176 kA_176 .long (5 : Int32) [(.long q0), (.long q1), (.long (0 : Int64)), (.long (0 : Int64)), (.long (0 : Int64))] (.long (0 : Int64)) := Arv.set Ar_178 q_178 S_178 M_178 H_178 G_178 rfl W_178 1 rfl (Nat.le_of_ble_eq_true rfl)
    have N_178 := Fr.snoc X_178 N_177 gg_176
    have z_178 : n0 ≤ h_178.size := Nat.le_trans z_177 (Nat.le_of_eq W_178.size.symm)
    show Go p e below s _ _ _ T_178 (mkF m 20 #[.val (.int k), .val (.long q0), .second, .val (.long q1), .second, .val (.long q2), .second, .val (.long q3), .second, .val (.long q4), .second, .val (.int (5 : Int32)), .unset, .unset, .unset] [(.ref b_176)])
    refine Go.st (fun _ => XS.dup X_178.here hx rfl (hb hby at_20) rfl rfl) ?_
    show Go p e below s _ _ _ T_178 (mkF m 21 #[.val (.int k), .val (.long q0), .second, .val (.long q1), .second, .val (.long q2), .second, .val (.long q3), .second, .val (.long q4), .second, .val (.int (5 : Int32)), .unset, .unset, .unset] [(.ref b_176), (.ref b_176)])
    refine Go.st (fun _ => XS.iconst X_178.here hx rfl (hb hby at_21)) ?_
    show Go p e below s _ _ _ T_178 (mkF m 22 #[.val (.int k), .val (.long q0), .second, .val (.long q1), .second, .val (.long q2), .second, .val (.long q3), .second, .val (.long q4), .second, .val (.int (5 : Int32)), .unset, .unset, .unset] [(.int (2 : Int32)), (.ref b_176), (.ref b_176)])
    refine Go.st (fun _ => XS.lload X_178.here hx rfl (hb hby at_22) rfl) ?_
    show Go p e below s _ _ _ T_178 (mkF m 24 #[.val (.int k), .val (.long q0), .second, .val (.long q1), .second, .val (.long q2), .second, .val (.long q3), .second, .val (.long q4), .second, .val (.int (5 : Int32)), .unset, .unset, .unset] [(.long q2), (.int (2 : Int32)), (.ref b_176), (.ref b_176)])
    obtain ⟨cl_179, Ar_179, q_179, S_179, M_179, H_179, G_179⟩ := id V_178
    have hin_179 : ¬ ((2 : Int32) < 0 ∨ cl_179.slots.size ≤ ((2 : Int32)).toNatClampNeg) := inb_of S_179 ⟨by decide, by decide⟩
    obtain ⟨T_179, h_179, X_179, e_179, W_179, st_179⟩ := stJ X_178 hx hZ e_178 Ar_179 (j := (2 : Int32)) hin_179 (g := (mkF m 24 #[.val (.int k), .val (.long q0), .second, .val (.long q1), .second, .val (.long q2), .second, .val (.long q3), .second, .val (.long q4), .second, .val (.int (5 : Int32)), .unset, .unset, .unset] [(.long q2), (.int (2 : Int32)), (.ref b_176), (.ref b_176)])) rfl rfl (hb hby at_24)
    refine Go.st st_179 ?_
    have V_179 : Arv Z h_179 b_176 kA_176 .long (5 : Int32) [(.long q0), (.long q1), (.long q2), (.long (0 : Int64)), (.long (0 : Int64))] (.long (0 : Int64)) := Arv.set Ar_179 q_179 S_179 M_179 H_179 G_179 rfl W_179 2 rfl (Nat.le_of_ble_eq_true rfl)
    have N_179 := Fr.snoc X_179 N_178 gg_176
    have z_179 : n0 ≤ h_179.size := Nat.le_trans z_178 (Nat.le_of_eq W_179.size.symm)
    show Go p e below s _ _ _ T_179 (mkF m 25 #[.val (.int k), .val (.long q0), .second, .val (.long q1), .second, .val (.long q2), .second, .val (.long q3), .second, .val (.long q4), .second, .val (.int (5 : Int32)), .unset, .unset, .unset] [(.ref b_176)])
    refine Go.st (fun _ => XS.dup X_179.here hx rfl (hb hby at_25) rfl rfl) ?_
    show Go p e below s _ _ _ T_179 (mkF m 26 #[.val (.int k), .val (.long q0), .second, .val (.long q1), .second, .val (.long q2), .second, .val (.long q3), .second, .val (.long q4), .second, .val (.int (5 : Int32)), .unset, .unset, .unset] [(.ref b_176), (.ref b_176)])
    refine Go.st (fun _ => XS.iconst X_179.here hx rfl (hb hby at_26)) ?_
    show Go p e below s _ _ _ T_179 (mkF m 27 #[.val (.int k), .val (.long q0), .second, .val (.long q1), .second, .val (.long q2), .second, .val (.long q3), .second, .val (.long q4), .second, .val (.int (5 : Int32)), .unset, .unset, .unset] [(.int (3 : Int32)), (.ref b_176), (.ref b_176)])
    refine Go.st (fun _ => XS.lload X_179.here hx rfl (hb hby at_27) rfl) ?_
    show Go p e below s _ _ _ T_179 (mkF m 29 #[.val (.int k), .val (.long q0), .second, .val (.long q1), .second, .val (.long q2), .second, .val (.long q3), .second, .val (.long q4), .second, .val (.int (5 : Int32)), .unset, .unset, .unset] [(.long q3), (.int (3 : Int32)), (.ref b_176), (.ref b_176)])
    obtain ⟨cl_180, Ar_180, q_180, S_180, M_180, H_180, G_180⟩ := id V_179
    have hin_180 : ¬ ((3 : Int32) < 0 ∨ cl_180.slots.size ≤ ((3 : Int32)).toNatClampNeg) := inb_of S_180 ⟨by decide, by decide⟩
    obtain ⟨T_180, h_180, X_180, e_180, W_180, st_180⟩ := stJ X_179 hx hZ e_179 Ar_180 (j := (3 : Int32)) hin_180 (g := (mkF m 29 #[.val (.int k), .val (.long q0), .second, .val (.long q1), .second, .val (.long q2), .second, .val (.long q3), .second, .val (.long q4), .second, .val (.int (5 : Int32)), .unset, .unset, .unset] [(.long q3), (.int (3 : Int32)), (.ref b_176), (.ref b_176)])) rfl rfl (hb hby at_29)
    refine Go.st st_180 ?_
    have V_180 : Arv Z h_180 b_176 kA_176 .long (5 : Int32) [(.long q0), (.long q1), (.long q2), (.long q3), (.long (0 : Int64))] (.long (0 : Int64)) := Arv.set Ar_180 q_180 S_180 M_180 H_180 G_180 rfl W_180 3 rfl (Nat.le_of_ble_eq_true rfl)
    have N_180 := Fr.snoc X_180 N_179 gg_176
    have z_180 : n0 ≤ h_180.size := Nat.le_trans z_179 (Nat.le_of_eq W_180.size.symm)
    show Go p e below s _ _ _ T_180 (mkF m 30 #[.val (.int k), .val (.long q0), .second, .val (.long q1), .second, .val (.long q2), .second, .val (.long q3), .second, .val (.long q4), .second, .val (.int (5 : Int32)), .unset, .unset, .unset] [(.ref b_176)])
    refine Go.st (fun _ => XS.dup X_180.here hx rfl (hb hby at_30) rfl rfl) ?_
    show Go p e below s _ _ _ T_180 (mkF m 31 #[.val (.int k), .val (.long q0), .second, .val (.long q1), .second, .val (.long q2), .second, .val (.long q3), .second, .val (.long q4), .second, .val (.int (5 : Int32)), .unset, .unset, .unset] [(.ref b_176), (.ref b_176)])
    refine Go.st (fun _ => XS.iconst X_180.here hx rfl (hb hby at_31)) ?_
    show Go p e below s _ _ _ T_180 (mkF m 32 #[.val (.int k), .val (.long q0), .second, .val (.long q1), .second, .val (.long q2), .second, .val (.long q3), .second, .val (.long q4), .second, .val (.int (5 : Int32)), .unset, .unset, .unset] [(.int (4 : Int32)), (.ref b_176), (.ref b_176)])
    refine Go.st (fun _ => XS.lload X_180.here hx rfl (hb hby at_32) rfl) ?_
    show Go p e below s _ _ _ T_180 (mkF m 34 #[.val (.int k), .val (.long q0), .second, .val (.long q1), .second, .val (.long q2), .second, .val (.long q3), .second, .val (.long q4), .second, .val (.int (5 : Int32)), .unset, .unset, .unset] [(.long q4), (.int (4 : Int32)), (.ref b_176), (.ref b_176)])
    obtain ⟨cl_181, Ar_181, q_181, S_181, M_181, H_181, G_181⟩ := id V_180
    have hin_181 : ¬ ((4 : Int32) < 0 ∨ cl_181.slots.size ≤ ((4 : Int32)).toNatClampNeg) := inb_of S_181 ⟨by decide, by decide⟩
    obtain ⟨T_181, h_181, X_181, e_181, W_181, st_181⟩ := stJ X_180 hx hZ e_180 Ar_181 (j := (4 : Int32)) hin_181 (g := (mkF m 34 #[.val (.int k), .val (.long q0), .second, .val (.long q1), .second, .val (.long q2), .second, .val (.long q3), .second, .val (.long q4), .second, .val (.int (5 : Int32)), .unset, .unset, .unset] [(.long q4), (.int (4 : Int32)), (.ref b_176), (.ref b_176)])) rfl rfl (hb hby at_34)
    refine Go.st st_181 ?_
    have V_181 : Arv Z h_181 b_176 kA_176 .long (5 : Int32) [(.long q0), (.long q1), (.long q2), (.long q3), (.long q4)] (.long (0 : Int64)) := Arv.set Ar_181 q_181 S_181 M_181 H_181 G_181 rfl W_181 4 rfl (Nat.le_of_ble_eq_true rfl)
    have N_181 := Fr.snoc X_181 N_180 gg_176
    have z_181 : n0 ≤ h_181.size := Nat.le_trans z_180 (Nat.le_of_eq W_181.size.symm)
    show Go p e below s _ _ _ T_181 (mkF m 35 #[.val (.int k), .val (.long q0), .second, .val (.long q1), .second, .val (.long q2), .second, .val (.long q3), .second, .val (.long q4), .second, .val (.int (5 : Int32)), .unset, .unset, .unset] [(.ref b_176)])
    refine Go.st (fun _ => XS.astore X_181.here hx rfl (hb hby at_35) rfl rfl (l' := #[.val (.int k), .val (.long q0), .second, .val (.long q1), .second, .val (.long q2), .second, .val (.long q3), .second, .val (.long q4), .second, .val (.int (5 : Int32)), .val (.ref b_176), .unset, .unset]) rfl) ?_
    show Go p e below s _ _ _ T_181 (mkF m 37 #[.val (.int k), .val (.long q0), .second, .val (.long q1), .second, .val (.long q2), .second, .val (.long q3), .second, .val (.long q4), .second, .val (.int (5 : Int32)), .val (.ref b_176), .unset, .unset] [])
    obtain ⟨T_182, h_182, X_182, e_182, E_182, A_182, D_182, -, st_182⟩ := newO X_181 hx hZ hown (hw _ (List.mem_of_getElem? (i := 2) rfl)) (hw _ (List.mem_of_getElem? (i := 3) rfl)) (hw _ (List.mem_of_getElem? (i := 4) rfl)) e_181 (g := (mkF m 37 #[.val (.int k), .val (.long q0), .second, .val (.long q1), .second, .val (.long q2), .second, .val (.long q3), .second, .val (.long q4), .second, .val (.int (5 : Int32)), .val (.ref b_176), .unset, .unset] [])) rfl (hb hby at_37) (by decide) (by decide)
    obtain ⟨b_182, g_182⟩ : ∃ z, z = h_181.size := ⟨_, rfl⟩
    rw [← g_182] at A_182 D_182 st_182
    refine Go.st st_182 ?_
    have ne_b_176_b_182 : b_176 ≠ b_182 := Nat.ne_of_lt (Nat.lt_of_lt_of_eq V_181.lt g_182.symm)
    have gg_182 : n0 ≤ b_182 := Nat.le_trans z_181 (Nat.le_of_eq g_182.symm)
    have z_182 : n0 ≤ h_182.size := Nat.le_trans z_181 E_182.1
    have F_nodes_b_182 : Fld Z h_182 b_182 "com/example/moat/moat/xpath/Handles" "nodes" "[J" .null := D_182 (Or.inl (hw _ (List.mem_of_getElem? (i := 12) rfl))) (ty := (.array .long)) (by decide)
    have F_size_b_182 : Fld Z h_182 b_182 "com/example/moat/moat/xpath/Handles" "size" "I" (.int (0 : Int32)) := D_182 (Or.inl (hw _ (List.mem_of_getElem? (i := 19) rfl))) (ty := .int) (by decide)
    show Go p e below s _ _ _ T_182 (mkF m 40 #[.val (.int k), .val (.long q0), .second, .val (.long q1), .second, .val (.long q2), .second, .val (.long q3), .second, .val (.long q4), .second, .val (.int (5 : Int32)), .val (.ref b_176), .unset, .unset] [(.ref b_182)])
    refine Go.st (fun _ => XS.dup X_182.here hx rfl (hb hby at_40) rfl rfl) ?_
    show Go p e below s _ _ _ T_182 (mkF m 41 #[.val (.int k), .val (.long q0), .second, .val (.long q1), .second, .val (.long q2), .second, .val (.long q3), .second, .val (.long q4), .second, .val (.int (5 : Int32)), .val (.ref b_176), .unset, .unset] [(.ref b_182), (.ref b_182)])
    obtain ⟨_, _, ⟨T_183, L_183, kc_183, nc_183⟩, -, X_183, ⟨Lc_183, hQ_183, l_183, y_183, z_183⟩, st_183⟩ := X_182.specialBack hx (y := (⟨"com/example/moat/moat/xpath/Handles", "<init>", "()V"⟩ : MethodName)) rfl hown (mvT hZ (hw _ (List.mem_of_getElem? (i := 5) rfl))) (mvT hZ (hw _ (List.mem_of_getElem? (i := 6) rfl))) (mvT hZ (hw _ (List.mem_of_getElem? (i := 7) rfl))) (by decide) (backOf (W := 1) (rm1 l Z a0 hw [] b_182 h_182 n0 z_182 A_182 F_nodes_b_182 F_size_b_182 gg_182) hZ (hw _ (List.mem_of_getElem? (i := 7) rfl)) (hw _ (List.mem_of_getElem? (i := 4) rfl)) (by decide) (by decide)) (g := (mkF m 41 #[.val (.int k), .val (.long q0), .second, .val (.long q1), .second, .val (.long q2), .second, .val (.long q3), .second, .val (.long q4), .second, .val (.int (5 : Int32)), .val (.ref b_176), .unset, .unset] [(.ref b_182), (.ref b_182)])) rfl (by rw [hml]; rfl) (Steps.refl _) (a := b_182) (argsL := []) (rest := [(.ref b_182)]) (lenOf pd_0 rfl) rfl (by show 2 * 0 + _ ≤ _; exact Nat.le_of_eq rfl) (hb hby at_41) (fun _ _ => ⟨rfl, e_182, (by decide : 2 + 1 ≤ _), (by decide : 7 + 8 ≤ _)⟩)
    dsimp only [Pt.U, Pt.locs, Pt.cells, Pt.slots] at X_183 l_183 y_183 z_183 st_183 hQ_183
    obtain rfl : kc_183 = 3 := y_183
    obtain rfl : nc_183 = 15 := z_183
    obtain ⟨h_183, e_183⟩ : ∃ hh, T_183.heap = hh := ⟨_, rfl⟩
    rw [e_183] at hQ_183
    obtain ⟨t__183, kt__183, rfl, N_183q, K_183, p_183_0, p_183_1, p_183_2, p_183_3, p_183_4, p_183_5⟩ := hQ_183
    have N_183 : Fr n0 L_183 := by rw [l_183]; exact Fr.app N_181 N_183q
    refine Go.st (fun _ kk => st_183.trans kk) ?_
    have f_184 := (V_181.ext E_182)
    have ne_b_176_t__183 : b_176 ≠ t__183 := Nat.ne_of_lt (Nat.lt_of_lt_of_le f_184.lt p_183_1)
    have ne_b_182_t__183 : b_182 ≠ t__183 := Nat.ne_of_lt (Nat.lt_of_lt_of_le A_182.lt p_183_1)
    have z_183q : n0 ≤ h_183.size := Nat.le_trans z_182 K_183.1
    show Go p e below s _ _ _ T_183 (mkF m 44 #[.val (.int k), .val (.long q0), .second, .val (.long q1), .second, .val (.long q2), .second, .val (.long q3), .second, .val (.long q4), .second, .val (.int (5 : Int32)), .val (.ref b_176), .unset, .unset] [(.ref b_182)])
    refine Go.st (fun _ => XS.astore X_183.here hx rfl (hb hby at_44) rfl rfl (l' := #[.val (.int k), .val (.long q0), .second, .val (.long q1), .second, .val (.long q2), .second, .val (.long q3), .second, .val (.long q4), .second, .val (.int (5 : Int32)), .val (.ref b_176), .val (.ref b_182), .unset]) rfl) ?_
    show Go p e below s _ _ _ T_183 (mkF m 46 #[.val (.int k), .val (.long q0), .second, .val (.long q1), .second, .val (.long q2), .second, .val (.long q3), .second, .val (.long q4), .second, .val (.int (5 : Int32)), .val (.ref b_176), .val (.ref b_182), .unset] [])
    refine Go.st (fun _ => XS.iload X_183.here hx rfl (hb hby at_46) rfl) ?_
    show Go p e below s _ _ _ T_183 (mkF m 48 #[.val (.int k), .val (.long q0), .second, .val (.long q1), .second, .val (.long q2), .second, .val (.long q3), .second, .val (.long q4), .second, .val (.int (5 : Int32)), .val (.ref b_176), .val (.ref b_182), .unset] [(.int (5 : Int32))])
    refine Go.st (fun _ => XS.ifNo X_183.here hx rfl (hb hby at_48) rfl ((if0 _ _).trans (tlt (by decide : (0 : Int32) < (5 : Int32))).2.2.2)) ?_
    show Go p e below s _ _ _ T_183 (mkF m 51 #[.val (.int k), .val (.long q0), .second, .val (.long q1), .second, .val (.long q2), .second, .val (.long q3), .second, .val (.long q4), .second, .val (.int (5 : Int32)), .val (.ref b_176), .val (.ref b_182), .unset] [])
    refine Go.st (fun _ => XS.aload X_183.here hx rfl (hb hby at_51) rfl rfl) ?_
    show Go p e below s _ _ _ T_183 (mkF m 53 #[.val (.int k), .val (.long q0), .second, .val (.long q1), .second, .val (.long q2), .second, .val (.long q3), .second, .val (.long q4), .second, .val (.int (5 : Int32)), .val (.ref b_176), .val (.ref b_182), .unset] [(.ref b_182)])
    refine Go.st (fun _ => XS.lloadN X_183.here hx rfl (hb hby at_53) rfl) ?_
    show Go p e below s _ _ _ T_183 (mkF m 54 #[.val (.int k), .val (.long q0), .second, .val (.long q1), .second, .val (.long q2), .second, .val (.long q3), .second, .val (.long q4), .second, .val (.int (5 : Int32)), .val (.ref b_176), .val (.ref b_182), .unset] [(.long q0), (.ref b_182)])
    obtain ⟨cq_185, kq_185, q_185a, q_185b, q_185c⟩ := isOf hZ e_183 p_183_2
    obtain ⟨_, _, ⟨T_185, L_185, kc_185, nc_185⟩, -, X_185, ⟨Lc_185, hQ_185, l_185, y_185, z_185⟩, st_185⟩ := X_183.virtualBack hx (y := (⟨"com/example/moat/moat/xpath/Handles", "add", "(J)V"⟩ : MethodName)) (z := (⟨"com/example/moat/moat/xpath/Handles", "add", "(J)V"⟩ : MethodName)) hown (mvT hZ (hw _ (List.mem_of_getElem? (i := 34) rfl))) (mvT hZ (hw _ (List.mem_of_getElem? (i := 35) rfl))) (notFace_of_selects (args := #[]) (mvT hZ (hw _ (List.mem_of_getElem? (i := 37) rfl)))) (mvT hZ (hw _ (List.mem_of_getElem? (i := 37) rfl))) (mvT hZ (hw _ (List.mem_of_getElem? (i := 36) rfl))) (by decide) (backOf (W := 0) (rm7 l Z a0 hw [] b_182 q0 t__183 kt__183 (0 : Int32) [(.long (0 : Int64)), (.long (0 : Int64)), (.long (0 : Int64)), (.long (0 : Int64)), (.long (0 : Int64)), (.long (0 : Int64)), (.long (0 : Int64)), (.long (0 : Int64))] (.long (0 : Int64)) h_183 n0 z_183q p_183_2 p_183_3 p_183_4 p_183_5 gg_182 p_183_0 ne_b_182_t__183 (by decide) (by decide) (show ((0 : Int32)).toNatClampNeg < 8 from by decide)) hZ (hw _ (List.mem_of_getElem? (i := 38) rfl)) (hw _ (List.mem_of_getElem? (i := 4) rfl)) (by decide) (by decide)) q_185a q_185c (g := (mkF m 54 #[.val (.int k), .val (.long q0), .second, .val (.long q1), .second, .val (.long q2), .second, .val (.long q3), .second, .val (.long q4), .second, .val (.int (5 : Int32)), .val (.ref b_176), .val (.ref b_182), .unset] [(.long q0), (.ref b_182)])) rfl (by rw [hml]; rfl) (Steps.refl _) (argsL := [(.long q0)]) (rest := []) (lenOf pd_4 rfl) rfl (by show 2 * 0 + _ ≤ _; exact Nat.le_of_eq rfl) (hb hby at_54) (fun _ _ => ⟨rfl, e_183, (by decide : 3 + 0 ≤ _), (by decide : 15 + 0 ≤ _)⟩)
    dsimp only [Pt.U, Pt.locs, Pt.cells, Pt.slots] at X_185 l_185 y_185 z_185 st_185 hQ_185
    obtain rfl : kc_185 = 3 := y_185
    obtain rfl : nc_185 = 15 := z_185
    obtain ⟨h_185, e_185⟩ : ∃ hh, T_185.heap = hh := ⟨_, rfl⟩
    rw [e_185] at hQ_185
    obtain ⟨rfl, N_185q, K_185, p_185_0, p_185_1, p_185_2, p_185_3⟩ := hQ_185
    have N_185 : Fr n0 L_185 := by rw [l_185]; exact Fr.app N_183 N_185q
    refine Go.st (fun _ kk => st_185.trans kk) ?_
    have z_185q : n0 ≤ h_185.size := Nat.le_trans z_183q K_185.1
    rw [show ((0 : Int32) + (1 : Int32)) = (1 : Int32) from by decide] at p_185_2
    have p_185_3' : Arv Z h_185 t__183 kt__183 .long (8 : Int32) [(.long q0), (.long (0 : Int64)), (.long (0 : Int64)), (.long (0 : Int64)), (.long (0 : Int64)), (.long (0 : Int64)), (.long (0 : Int64)), (.long (0 : Int64))] (.long (0 : Int64)) := p_185_3
    show Go p e below s _ _ _ T_185 (mkF m 57 #[.val (.int k), .val (.long q0), .second, .val (.long q1), .second, .val (.long q2), .second, .val (.long q3), .second, .val (.long q4), .second, .val (.int (5 : Int32)), .val (.ref b_176), .val (.ref b_182), .unset] [])
    refine Go.st (fun _ => XS.iload X_185.here hx rfl (hb hby at_57) rfl) ?_
    show Go p e below s _ _ _ T_185 (mkF m 59 #[.val (.int k), .val (.long q0), .second, .val (.long q1), .second, .val (.long q2), .second, .val (.long q3), .second, .val (.long q4), .second, .val (.int (5 : Int32)), .val (.ref b_176), .val (.ref b_182), .unset] [(.int (5 : Int32))])
    refine Go.st (fun _ => XS.iconst X_185.here hx rfl (hb hby at_59)) ?_
    show Go p e below s _ _ _ T_185 (mkF m 60 #[.val (.int k), .val (.long q0), .second, .val (.long q1), .second, .val (.long q2), .second, .val (.long q3), .second, .val (.long q4), .second, .val (.int (5 : Int32)), .val (.ref b_176), .val (.ref b_182), .unset] [(.int (1 : Int32)), (.int (5 : Int32))])
    refine Go.st (fun _ => XS.icmpNo X_185.here hx rfl (hb hby at_60) rfl (tlt (by decide : (1 : Int32) < (5 : Int32))).2.2.2) ?_
    show Go p e below s _ _ _ T_185 (mkF m 63 #[.val (.int k), .val (.long q0), .second, .val (.long q1), .second, .val (.long q2), .second, .val (.long q3), .second, .val (.long q4), .second, .val (.int (5 : Int32)), .val (.ref b_176), .val (.ref b_182), .unset] [])
    refine Go.st (fun _ => XS.aload X_185.here hx rfl (hb hby at_63) rfl rfl) ?_
    show Go p e below s _ _ _ T_185 (mkF m 65 #[.val (.int k), .val (.long q0), .second, .val (.long q1), .second, .val (.long q2), .second, .val (.long q3), .second, .val (.long q4), .second, .val (.int (5 : Int32)), .val (.ref b_176), .val (.ref b_182), .unset] [(.ref b_182)])
    refine Go.st (fun _ => XS.lloadN X_185.here hx rfl (hb hby at_65) rfl) ?_
    show Go p e below s _ _ _ T_185 (mkF m 66 #[.val (.int k), .val (.long q0), .second, .val (.long q1), .second, .val (.long q2), .second, .val (.long q3), .second, .val (.long q4), .second, .val (.int (5 : Int32)), .val (.ref b_176), .val (.ref b_182), .unset] [(.long q1), (.ref b_182)])
    obtain ⟨cq_186, kq_186, q_186a, q_186b, q_186c⟩ := isOf hZ e_185 p_185_0
    obtain ⟨_, _, ⟨T_186, L_186, kc_186, nc_186⟩, -, X_186, ⟨Lc_186, hQ_186, l_186, y_186, z_186⟩, st_186⟩ := X_185.virtualBack hx (y := (⟨"com/example/moat/moat/xpath/Handles", "add", "(J)V"⟩ : MethodName)) (z := (⟨"com/example/moat/moat/xpath/Handles", "add", "(J)V"⟩ : MethodName)) hown (mvT hZ (hw _ (List.mem_of_getElem? (i := 34) rfl))) (mvT hZ (hw _ (List.mem_of_getElem? (i := 35) rfl))) (notFace_of_selects (args := #[]) (mvT hZ (hw _ (List.mem_of_getElem? (i := 37) rfl)))) (mvT hZ (hw _ (List.mem_of_getElem? (i := 37) rfl))) (mvT hZ (hw _ (List.mem_of_getElem? (i := 36) rfl))) (by decide) (backOf (W := 0) (rm7 l Z a0 hw [] b_182 q1 t__183 kt__183 (1 : Int32) [(.long q0), (.long (0 : Int64)), (.long (0 : Int64)), (.long (0 : Int64)), (.long (0 : Int64)), (.long (0 : Int64)), (.long (0 : Int64)), (.long (0 : Int64))] (.long (0 : Int64)) h_185 n0 z_185q p_185_0 p_185_1 p_185_2 p_185_3' gg_182 p_183_0 ne_b_182_t__183 (by decide) (by decide) (show ((1 : Int32)).toNatClampNeg < 8 from by decide)) hZ (hw _ (List.mem_of_getElem? (i := 38) rfl)) (hw _ (List.mem_of_getElem? (i := 4) rfl)) (by decide) (by decide)) q_186a q_186c (g := (mkF m 66 #[.val (.int k), .val (.long q0), .second, .val (.long q1), .second, .val (.long q2), .second, .val (.long q3), .second, .val (.long q4), .second, .val (.int (5 : Int32)), .val (.ref b_176), .val (.ref b_182), .unset] [(.long q1), (.ref b_182)])) rfl (by rw [hml]; rfl) (Steps.refl _) (argsL := [(.long q1)]) (rest := []) (lenOf pd_4 rfl) rfl (by show 2 * 0 + _ ≤ _; exact Nat.le_of_eq rfl) (hb hby at_66) (fun _ _ => ⟨rfl, e_185, (by decide : 3 + 0 ≤ _), (by decide : 15 + 0 ≤ _)⟩)
    dsimp only [Pt.U, Pt.locs, Pt.cells, Pt.slots] at X_186 l_186 y_186 z_186 st_186 hQ_186
    obtain rfl : kc_186 = 3 := y_186
    obtain rfl : nc_186 = 15 := z_186
    obtain ⟨h_186, e_186⟩ : ∃ hh, T_186.heap = hh := ⟨_, rfl⟩
    rw [e_186] at hQ_186
    obtain ⟨rfl, N_186q, K_186, p_186_0, p_186_1, p_186_2, p_186_3⟩ := hQ_186
    have N_186 : Fr n0 L_186 := by rw [l_186]; exact Fr.app N_185 N_186q
    refine Go.st (fun _ kk => st_186.trans kk) ?_
    have z_186q : n0 ≤ h_186.size := Nat.le_trans z_185q K_186.1
    rw [show ((1 : Int32) + (1 : Int32)) = (2 : Int32) from by decide] at p_186_2
    have p_186_3' : Arv Z h_186 t__183 kt__183 .long (8 : Int32) [(.long q0), (.long q1), (.long (0 : Int64)), (.long (0 : Int64)), (.long (0 : Int64)), (.long (0 : Int64)), (.long (0 : Int64)), (.long (0 : Int64))] (.long (0 : Int64)) := p_186_3
    show Go p e below s _ _ _ T_186 (mkF m 69 #[.val (.int k), .val (.long q0), .second, .val (.long q1), .second, .val (.long q2), .second, .val (.long q3), .second, .val (.long q4), .second, .val (.int (5 : Int32)), .val (.ref b_176), .val (.ref b_182), .unset] [])
    refine Go.st (fun _ => XS.iload X_186.here hx rfl (hb hby at_69) rfl) ?_
    show Go p e below s _ _ _ T_186 (mkF m 71 #[.val (.int k), .val (.long q0), .second, .val (.long q1), .second, .val (.long q2), .second, .val (.long q3), .second, .val (.long q4), .second, .val (.int (5 : Int32)), .val (.ref b_176), .val (.ref b_182), .unset] [(.int (5 : Int32))])
    refine Go.st (fun _ => XS.iconst X_186.here hx rfl (hb hby at_71)) ?_
    show Go p e below s _ _ _ T_186 (mkF m 72 #[.val (.int k), .val (.long q0), .second, .val (.long q1), .second, .val (.long q2), .second, .val (.long q3), .second, .val (.long q4), .second, .val (.int (5 : Int32)), .val (.ref b_176), .val (.ref b_182), .unset] [(.int (2 : Int32)), (.int (5 : Int32))])
    refine Go.st (fun _ => XS.icmpNo X_186.here hx rfl (hb hby at_72) rfl (tlt (by decide : (2 : Int32) < (5 : Int32))).2.2.2) ?_
    show Go p e below s _ _ _ T_186 (mkF m 75 #[.val (.int k), .val (.long q0), .second, .val (.long q1), .second, .val (.long q2), .second, .val (.long q3), .second, .val (.long q4), .second, .val (.int (5 : Int32)), .val (.ref b_176), .val (.ref b_182), .unset] [])
    refine Go.st (fun _ => XS.aload X_186.here hx rfl (hb hby at_75) rfl rfl) ?_
    show Go p e below s _ _ _ T_186 (mkF m 77 #[.val (.int k), .val (.long q0), .second, .val (.long q1), .second, .val (.long q2), .second, .val (.long q3), .second, .val (.long q4), .second, .val (.int (5 : Int32)), .val (.ref b_176), .val (.ref b_182), .unset] [(.ref b_182)])
    refine Go.st (fun _ => XS.lload X_186.here hx rfl (hb hby at_77) rfl) ?_
    show Go p e below s _ _ _ T_186 (mkF m 79 #[.val (.int k), .val (.long q0), .second, .val (.long q1), .second, .val (.long q2), .second, .val (.long q3), .second, .val (.long q4), .second, .val (.int (5 : Int32)), .val (.ref b_176), .val (.ref b_182), .unset] [(.long q2), (.ref b_182)])
    obtain ⟨cq_187, kq_187, q_187a, q_187b, q_187c⟩ := isOf hZ e_186 p_186_0
    obtain ⟨_, _, ⟨T_187, L_187, kc_187, nc_187⟩, -, X_187, ⟨Lc_187, hQ_187, l_187, y_187, z_187⟩, st_187⟩ := X_186.virtualBack hx (y := (⟨"com/example/moat/moat/xpath/Handles", "add", "(J)V"⟩ : MethodName)) (z := (⟨"com/example/moat/moat/xpath/Handles", "add", "(J)V"⟩ : MethodName)) hown (mvT hZ (hw _ (List.mem_of_getElem? (i := 34) rfl))) (mvT hZ (hw _ (List.mem_of_getElem? (i := 35) rfl))) (notFace_of_selects (args := #[]) (mvT hZ (hw _ (List.mem_of_getElem? (i := 37) rfl)))) (mvT hZ (hw _ (List.mem_of_getElem? (i := 37) rfl))) (mvT hZ (hw _ (List.mem_of_getElem? (i := 36) rfl))) (by decide) (backOf (W := 0) (rm7 l Z a0 hw [] b_182 q2 t__183 kt__183 (2 : Int32) [(.long q0), (.long q1), (.long (0 : Int64)), (.long (0 : Int64)), (.long (0 : Int64)), (.long (0 : Int64)), (.long (0 : Int64)), (.long (0 : Int64))] (.long (0 : Int64)) h_186 n0 z_186q p_186_0 p_186_1 p_186_2 p_186_3' gg_182 p_183_0 ne_b_182_t__183 (by decide) (by decide) (show ((2 : Int32)).toNatClampNeg < 8 from by decide)) hZ (hw _ (List.mem_of_getElem? (i := 38) rfl)) (hw _ (List.mem_of_getElem? (i := 4) rfl)) (by decide) (by decide)) q_187a q_187c (g := (mkF m 79 #[.val (.int k), .val (.long q0), .second, .val (.long q1), .second, .val (.long q2), .second, .val (.long q3), .second, .val (.long q4), .second, .val (.int (5 : Int32)), .val (.ref b_176), .val (.ref b_182), .unset] [(.long q2), (.ref b_182)])) rfl (by rw [hml]; rfl) (Steps.refl _) (argsL := [(.long q2)]) (rest := []) (lenOf pd_4 rfl) rfl (by show 2 * 0 + _ ≤ _; exact Nat.le_of_eq rfl) (hb hby at_79) (fun _ _ => ⟨rfl, e_186, (by decide : 3 + 0 ≤ _), (by decide : 15 + 0 ≤ _)⟩)
    dsimp only [Pt.U, Pt.locs, Pt.cells, Pt.slots] at X_187 l_187 y_187 z_187 st_187 hQ_187
    obtain rfl : kc_187 = 3 := y_187
    obtain rfl : nc_187 = 15 := z_187
    obtain ⟨h_187, e_187⟩ : ∃ hh, T_187.heap = hh := ⟨_, rfl⟩
    rw [e_187] at hQ_187
    obtain ⟨rfl, N_187q, K_187, p_187_0, p_187_1, p_187_2, p_187_3⟩ := hQ_187
    have N_187 : Fr n0 L_187 := by rw [l_187]; exact Fr.app N_186 N_187q
    refine Go.st (fun _ kk => st_187.trans kk) ?_
    have z_187q : n0 ≤ h_187.size := Nat.le_trans z_186q K_187.1
    rw [show ((2 : Int32) + (1 : Int32)) = (3 : Int32) from by decide] at p_187_2
    have p_187_3' : Arv Z h_187 t__183 kt__183 .long (8 : Int32) [(.long q0), (.long q1), (.long q2), (.long (0 : Int64)), (.long (0 : Int64)), (.long (0 : Int64)), (.long (0 : Int64)), (.long (0 : Int64))] (.long (0 : Int64)) := p_187_3
    show Go p e below s _ _ _ T_187 (mkF m 82 #[.val (.int k), .val (.long q0), .second, .val (.long q1), .second, .val (.long q2), .second, .val (.long q3), .second, .val (.long q4), .second, .val (.int (5 : Int32)), .val (.ref b_176), .val (.ref b_182), .unset] [])
    refine Go.st (fun _ => XS.iload X_187.here hx rfl (hb hby at_82) rfl) ?_
    show Go p e below s _ _ _ T_187 (mkF m 84 #[.val (.int k), .val (.long q0), .second, .val (.long q1), .second, .val (.long q2), .second, .val (.long q3), .second, .val (.long q4), .second, .val (.int (5 : Int32)), .val (.ref b_176), .val (.ref b_182), .unset] [(.int (5 : Int32))])
    refine Go.st (fun _ => XS.iconst X_187.here hx rfl (hb hby at_84)) ?_
    show Go p e below s _ _ _ T_187 (mkF m 85 #[.val (.int k), .val (.long q0), .second, .val (.long q1), .second, .val (.long q2), .second, .val (.long q3), .second, .val (.long q4), .second, .val (.int (5 : Int32)), .val (.ref b_176), .val (.ref b_182), .unset] [(.int (3 : Int32)), (.int (5 : Int32))])
    refine Go.st (fun _ => XS.icmpNo X_187.here hx rfl (hb hby at_85) rfl (tlt (by decide : (3 : Int32) < (5 : Int32))).2.2.2) ?_
    show Go p e below s _ _ _ T_187 (mkF m 88 #[.val (.int k), .val (.long q0), .second, .val (.long q1), .second, .val (.long q2), .second, .val (.long q3), .second, .val (.long q4), .second, .val (.int (5 : Int32)), .val (.ref b_176), .val (.ref b_182), .unset] [])
    refine Go.st (fun _ => XS.aload X_187.here hx rfl (hb hby at_88) rfl rfl) ?_
    show Go p e below s _ _ _ T_187 (mkF m 90 #[.val (.int k), .val (.long q0), .second, .val (.long q1), .second, .val (.long q2), .second, .val (.long q3), .second, .val (.long q4), .second, .val (.int (5 : Int32)), .val (.ref b_176), .val (.ref b_182), .unset] [(.ref b_182)])
    refine Go.st (fun _ => XS.lload X_187.here hx rfl (hb hby at_90) rfl) ?_
    show Go p e below s _ _ _ T_187 (mkF m 92 #[.val (.int k), .val (.long q0), .second, .val (.long q1), .second, .val (.long q2), .second, .val (.long q3), .second, .val (.long q4), .second, .val (.int (5 : Int32)), .val (.ref b_176), .val (.ref b_182), .unset] [(.long q3), (.ref b_182)])
    obtain ⟨cq_188, kq_188, q_188a, q_188b, q_188c⟩ := isOf hZ e_187 p_187_0
    obtain ⟨_, _, ⟨T_188, L_188, kc_188, nc_188⟩, -, X_188, ⟨Lc_188, hQ_188, l_188, y_188, z_188⟩, st_188⟩ := X_187.virtualBack hx (y := (⟨"com/example/moat/moat/xpath/Handles", "add", "(J)V"⟩ : MethodName)) (z := (⟨"com/example/moat/moat/xpath/Handles", "add", "(J)V"⟩ : MethodName)) hown (mvT hZ (hw _ (List.mem_of_getElem? (i := 34) rfl))) (mvT hZ (hw _ (List.mem_of_getElem? (i := 35) rfl))) (notFace_of_selects (args := #[]) (mvT hZ (hw _ (List.mem_of_getElem? (i := 37) rfl)))) (mvT hZ (hw _ (List.mem_of_getElem? (i := 37) rfl))) (mvT hZ (hw _ (List.mem_of_getElem? (i := 36) rfl))) (by decide) (backOf (W := 0) (rm7 l Z a0 hw [] b_182 q3 t__183 kt__183 (3 : Int32) [(.long q0), (.long q1), (.long q2), (.long (0 : Int64)), (.long (0 : Int64)), (.long (0 : Int64)), (.long (0 : Int64)), (.long (0 : Int64))] (.long (0 : Int64)) h_187 n0 z_187q p_187_0 p_187_1 p_187_2 p_187_3' gg_182 p_183_0 ne_b_182_t__183 (by decide) (by decide) (show ((3 : Int32)).toNatClampNeg < 8 from by decide)) hZ (hw _ (List.mem_of_getElem? (i := 38) rfl)) (hw _ (List.mem_of_getElem? (i := 4) rfl)) (by decide) (by decide)) q_188a q_188c (g := (mkF m 92 #[.val (.int k), .val (.long q0), .second, .val (.long q1), .second, .val (.long q2), .second, .val (.long q3), .second, .val (.long q4), .second, .val (.int (5 : Int32)), .val (.ref b_176), .val (.ref b_182), .unset] [(.long q3), (.ref b_182)])) rfl (by rw [hml]; rfl) (Steps.refl _) (argsL := [(.long q3)]) (rest := []) (lenOf pd_4 rfl) rfl (by show 2 * 0 + _ ≤ _; exact Nat.le_of_eq rfl) (hb hby at_92) (fun _ _ => ⟨rfl, e_187, (by decide : 3 + 0 ≤ _), (by decide : 15 + 0 ≤ _)⟩)
    dsimp only [Pt.U, Pt.locs, Pt.cells, Pt.slots] at X_188 l_188 y_188 z_188 st_188 hQ_188
    obtain rfl : kc_188 = 3 := y_188
    obtain rfl : nc_188 = 15 := z_188
    obtain ⟨h_188, e_188⟩ : ∃ hh, T_188.heap = hh := ⟨_, rfl⟩
    rw [e_188] at hQ_188
    obtain ⟨rfl, N_188q, K_188, p_188_0, p_188_1, p_188_2, p_188_3⟩ := hQ_188
    have N_188 : Fr n0 L_188 := by rw [l_188]; exact Fr.app N_187 N_188q
    refine Go.st (fun _ kk => st_188.trans kk) ?_
    have z_188q : n0 ≤ h_188.size := Nat.le_trans z_187q K_188.1
    rw [show ((3 : Int32) + (1 : Int32)) = (4 : Int32) from by decide] at p_188_2
    have p_188_3' : Arv Z h_188 t__183 kt__183 .long (8 : Int32) [(.long q0), (.long q1), (.long q2), (.long q3), (.long (0 : Int64)), (.long (0 : Int64)), (.long (0 : Int64)), (.long (0 : Int64))] (.long (0 : Int64)) := p_188_3
    show Go p e below s _ _ _ T_188 (mkF m 95 #[.val (.int k), .val (.long q0), .second, .val (.long q1), .second, .val (.long q2), .second, .val (.long q3), .second, .val (.long q4), .second, .val (.int (5 : Int32)), .val (.ref b_176), .val (.ref b_182), .unset] [])
    refine Go.st (fun _ => XS.iload X_188.here hx rfl (hb hby at_95) rfl) ?_
    show Go p e below s _ _ _ T_188 (mkF m 97 #[.val (.int k), .val (.long q0), .second, .val (.long q1), .second, .val (.long q2), .second, .val (.long q3), .second, .val (.long q4), .second, .val (.int (5 : Int32)), .val (.ref b_176), .val (.ref b_182), .unset] [(.int (5 : Int32))])
    refine Go.st (fun _ => XS.iconst X_188.here hx rfl (hb hby at_97)) ?_
    show Go p e below s _ _ _ T_188 (mkF m 98 #[.val (.int k), .val (.long q0), .second, .val (.long q1), .second, .val (.long q2), .second, .val (.long q3), .second, .val (.long q4), .second, .val (.int (5 : Int32)), .val (.ref b_176), .val (.ref b_182), .unset] [(.int (4 : Int32)), (.int (5 : Int32))])
    refine Go.st (fun _ => XS.icmpNo X_188.here hx rfl (hb hby at_98) rfl (tlt (by decide : (4 : Int32) < (5 : Int32))).2.2.2) ?_
    show Go p e below s _ _ _ T_188 (mkF m 101 #[.val (.int k), .val (.long q0), .second, .val (.long q1), .second, .val (.long q2), .second, .val (.long q3), .second, .val (.long q4), .second, .val (.int (5 : Int32)), .val (.ref b_176), .val (.ref b_182), .unset] [])
    refine Go.st (fun _ => XS.aload X_188.here hx rfl (hb hby at_101) rfl rfl) ?_
    show Go p e below s _ _ _ T_188 (mkF m 103 #[.val (.int k), .val (.long q0), .second, .val (.long q1), .second, .val (.long q2), .second, .val (.long q3), .second, .val (.long q4), .second, .val (.int (5 : Int32)), .val (.ref b_176), .val (.ref b_182), .unset] [(.ref b_182)])
    refine Go.st (fun _ => XS.lload X_188.here hx rfl (hb hby at_103) rfl) ?_
    show Go p e below s _ _ _ T_188 (mkF m 105 #[.val (.int k), .val (.long q0), .second, .val (.long q1), .second, .val (.long q2), .second, .val (.long q3), .second, .val (.long q4), .second, .val (.int (5 : Int32)), .val (.ref b_176), .val (.ref b_182), .unset] [(.long q4), (.ref b_182)])
    obtain ⟨cq_189, kq_189, q_189a, q_189b, q_189c⟩ := isOf hZ e_188 p_188_0
    obtain ⟨_, _, ⟨T_189, L_189, kc_189, nc_189⟩, -, X_189, ⟨Lc_189, hQ_189, l_189, y_189, z_189⟩, st_189⟩ := X_188.virtualBack hx (y := (⟨"com/example/moat/moat/xpath/Handles", "add", "(J)V"⟩ : MethodName)) (z := (⟨"com/example/moat/moat/xpath/Handles", "add", "(J)V"⟩ : MethodName)) hown (mvT hZ (hw _ (List.mem_of_getElem? (i := 34) rfl))) (mvT hZ (hw _ (List.mem_of_getElem? (i := 35) rfl))) (notFace_of_selects (args := #[]) (mvT hZ (hw _ (List.mem_of_getElem? (i := 37) rfl)))) (mvT hZ (hw _ (List.mem_of_getElem? (i := 37) rfl))) (mvT hZ (hw _ (List.mem_of_getElem? (i := 36) rfl))) (by decide) (backOf (W := 0) (rm7 l Z a0 hw [] b_182 q4 t__183 kt__183 (4 : Int32) [(.long q0), (.long q1), (.long q2), (.long q3), (.long (0 : Int64)), (.long (0 : Int64)), (.long (0 : Int64)), (.long (0 : Int64))] (.long (0 : Int64)) h_188 n0 z_188q p_188_0 p_188_1 p_188_2 p_188_3' gg_182 p_183_0 ne_b_182_t__183 (by decide) (by decide) (show ((4 : Int32)).toNatClampNeg < 8 from by decide)) hZ (hw _ (List.mem_of_getElem? (i := 38) rfl)) (hw _ (List.mem_of_getElem? (i := 4) rfl)) (by decide) (by decide)) q_189a q_189c (g := (mkF m 105 #[.val (.int k), .val (.long q0), .second, .val (.long q1), .second, .val (.long q2), .second, .val (.long q3), .second, .val (.long q4), .second, .val (.int (5 : Int32)), .val (.ref b_176), .val (.ref b_182), .unset] [(.long q4), (.ref b_182)])) rfl (by rw [hml]; rfl) (Steps.refl _) (argsL := [(.long q4)]) (rest := []) (lenOf pd_4 rfl) rfl (by show 2 * 0 + _ ≤ _; exact Nat.le_of_eq rfl) (hb hby at_105) (fun _ _ => ⟨rfl, e_188, (by decide : 3 + 0 ≤ _), (by decide : 15 + 0 ≤ _)⟩)
    dsimp only [Pt.U, Pt.locs, Pt.cells, Pt.slots] at X_189 l_189 y_189 z_189 st_189 hQ_189
    obtain rfl : kc_189 = 3 := y_189
    obtain rfl : nc_189 = 15 := z_189
    obtain ⟨h_189, e_189⟩ : ∃ hh, T_189.heap = hh := ⟨_, rfl⟩
    rw [e_189] at hQ_189
    obtain ⟨rfl, N_189q, K_189, p_189_0, p_189_1, p_189_2, p_189_3⟩ := hQ_189
    have N_189 : Fr n0 L_189 := by rw [l_189]; exact Fr.app N_188 N_189q
    refine Go.st (fun _ kk => st_189.trans kk) ?_
    have z_189q : n0 ≤ h_189.size := Nat.le_trans z_188q K_189.1
    rw [show ((4 : Int32) + (1 : Int32)) = (5 : Int32) from by decide] at p_189_2
    have p_189_3' : Arv Z h_189 t__183 kt__183 .long (8 : Int32) [(.long q0), (.long q1), (.long q2), (.long q3), (.long q4), (.long (0 : Int64)), (.long (0 : Int64)), (.long (0 : Int64))] (.long (0 : Int64)) := p_189_3
    show Go p e below s _ _ _ T_189 (mkF m 108 #[.val (.int k), .val (.long q0), .second, .val (.long q1), .second, .val (.long q2), .second, .val (.long q3), .second, .val (.long q4), .second, .val (.int (5 : Int32)), .val (.ref b_176), .val (.ref b_182), .unset] [])
    refine Go.st (fun _ => XS.aload X_189.here hx rfl (hb hby at_108) rfl rfl) ?_
    show Go p e below s _ _ _ T_189 (mkF m 110 #[.val (.int k), .val (.long q0), .second, .val (.long q1), .second, .val (.long q2), .second, .val (.long q3), .second, .val (.long q4), .second, .val (.int (5 : Int32)), .val (.ref b_176), .val (.ref b_182), .unset] [(.ref b_182)])
    obtain ⟨cq_190, kq_190, q_190a, q_190b, q_190c⟩ := isOf hZ e_189 p_189_0
    obtain ⟨_, _, ⟨T_190, L_190, kc_190, nc_190⟩, -, X_190, ⟨Lc_190, hQ_190, l_190, y_190, z_190⟩, st_190⟩ := X_189.virtualBack hx (y := (⟨"com/example/moat/moat/xpath/Handles", "reverse", "()V"⟩ : MethodName)) (z := (⟨"com/example/moat/moat/xpath/Handles", "reverse", "()V"⟩ : MethodName)) hown (mvT hZ (hw _ (List.mem_of_getElem? (i := 13) rfl))) (mvT hZ (hw _ (List.mem_of_getElem? (i := 14) rfl))) (notFace_of_selects (args := #[]) (mvT hZ (hw _ (List.mem_of_getElem? (i := 16) rfl)))) (mvT hZ (hw _ (List.mem_of_getElem? (i := 16) rfl))) (mvT hZ (hw _ (List.mem_of_getElem? (i := 15) rfl))) (by decide) (backOf (W := 0) (rmR5 l Z a0 hw [] b_182 t__183 kt__183 q0 q1 q2 q3 q4 (0 : Int64) (0 : Int64) (0 : Int64) h_189 n0 z_189q p_189_1 p_189_2 p_189_3' p_183_0 ne_b_182_t__183) hZ (hw _ (List.mem_of_getElem? (i := 17) rfl)) (hw _ (List.mem_of_getElem? (i := 4) rfl)) (by decide) (by decide)) q_190a q_190c (g := (mkF m 110 #[.val (.int k), .val (.long q0), .second, .val (.long q1), .second, .val (.long q2), .second, .val (.long q3), .second, .val (.long q4), .second, .val (.int (5 : Int32)), .val (.ref b_176), .val (.ref b_182), .unset] [(.ref b_182)])) rfl (by rw [hml]; rfl) (Steps.refl _) (argsL := []) (rest := []) (lenOf pd_0 rfl) rfl (by show 2 * 0 + _ ≤ _; exact Nat.le_of_eq rfl) (hb hby at_110) (fun _ _ => ⟨rfl, e_189, (by decide : 3 + 0 ≤ _), (by decide : 15 + 0 ≤ _)⟩)
    dsimp only [Pt.U, Pt.locs, Pt.cells, Pt.slots] at X_190 l_190 y_190 z_190 st_190 hQ_190
    obtain rfl : kc_190 = 3 := y_190
    obtain rfl : nc_190 = 15 := z_190
    obtain ⟨h_190, e_190⟩ : ∃ hh, T_190.heap = hh := ⟨_, rfl⟩
    rw [e_190] at hQ_190
    obtain ⟨rfl, N_190q, K_190, p_190_0⟩ := hQ_190
    have N_190 : Fr n0 L_190 := by rw [l_190]; exact Fr.app N_189 N_190q
    refine Go.st (fun _ kk => st_190.trans kk) ?_
    have z_190q : n0 ≤ h_190.size := Nat.le_trans z_189q K_190.1
    show Go p e below s _ _ _ T_190 (mkF m 113 #[.val (.int k), .val (.long q0), .second, .val (.long q1), .second, .val (.long q2), .second, .val (.long q3), .second, .val (.long q4), .second, .val (.int (5 : Int32)), .val (.ref b_176), .val (.ref b_182), .unset] [])
    refine Go.st (fun _ => XS.aload X_190.here hx rfl (hb hby at_113) rfl rfl) ?_
    show Go p e below s _ _ _ T_190 (mkF m 115 #[.val (.int k), .val (.long q0), .second, .val (.long q1), .second, .val (.long q2), .second, .val (.long q3), .second, .val (.long q4), .second, .val (.int (5 : Int32)), .val (.ref b_176), .val (.ref b_182), .unset] [(.ref b_182)])
    have f_192 := (p_189_2.keep K_190 (ninS ne_b_182_t__183 nin0))
    have f_193 := (p_189_0.keep K_190)
    obtain ⟨cq_191, kq_191, q_191a, q_191b, q_191c⟩ := isOf hZ e_190 f_193
    obtain ⟨_, _, ⟨T_191, L_191, kc_191, nc_191⟩, -, X_191, ⟨Lc_191, hQ_191, l_191, y_191, z_191⟩, st_191⟩ := X_190.virtualBack hx (y := (⟨"com/example/moat/moat/xpath/Handles", "size", "()I"⟩ : MethodName)) (z := (⟨"com/example/moat/moat/xpath/Handles", "size", "()I"⟩ : MethodName)) hown (mvT hZ (hw _ (List.mem_of_getElem? (i := 20) rfl))) (mvT hZ (hw _ (List.mem_of_getElem? (i := 21) rfl))) (notFace_of_selects (args := #[]) (mvT hZ (hw _ (List.mem_of_getElem? (i := 23) rfl)))) (mvT hZ (hw _ (List.mem_of_getElem? (i := 23) rfl))) (mvT hZ (hw _ (List.mem_of_getElem? (i := 22) rfl))) (by decide) (backOf (W := 0) (rm4 l Z a0 hw [] b_182 (5 : Int32) h_190 n0 z_190q f_192) hZ (hw _ (List.mem_of_getElem? (i := 24) rfl)) (hw _ (List.mem_of_getElem? (i := 4) rfl)) (by decide) (by decide)) q_191a q_191c (g := (mkF m 115 #[.val (.int k), .val (.long q0), .second, .val (.long q1), .second, .val (.long q2), .second, .val (.long q3), .second, .val (.long q4), .second, .val (.int (5 : Int32)), .val (.ref b_176), .val (.ref b_182), .unset] [(.ref b_182)])) rfl (by rw [hml]; rfl) (Steps.refl _) (argsL := []) (rest := []) (lenOf pd_1 rfl) rfl (by show 2 * 0 + _ ≤ _; exact Nat.le_of_eq rfl) (hb hby at_115) (fun _ _ => ⟨rfl, e_190, (by decide : 3 + 0 ≤ _), (by decide : 15 + 0 ≤ _)⟩)
    dsimp only [Pt.U, Pt.locs, Pt.cells, Pt.slots] at X_191 l_191 y_191 z_191 st_191 hQ_191
    obtain rfl : kc_191 = 3 := y_191
    obtain rfl : nc_191 = 15 := z_191
    obtain ⟨h_191, e_191⟩ : ∃ hh, T_191.heap = hh := ⟨_, rfl⟩
    rw [e_191] at hQ_191
    obtain ⟨rfl, N_191q, sm_191⟩ := hQ_191
    have N_191 : Fr n0 L_191 := by rw [l_191]; exact Fr.app N_190 N_191q
    refine Go.st (fun _ kk => st_191.trans kk) ?_
    rw [sm_191] at e_191
    show Go p e below s _ _ _ T_191 (mkF m 118 #[.val (.int k), .val (.long q0), .second, .val (.long q1), .second, .val (.long q2), .second, .val (.long q3), .second, .val (.long q4), .second, .val (.int (5 : Int32)), .val (.ref b_176), .val (.ref b_182), .unset] [(.int (5 : Int32))])
    refine Go.st (fun _ => XS.iload X_191.here hx rfl (hb hby at_118) rfl) ?_
    show Go p e below s _ _ _ T_191 (mkF m 120 #[.val (.int k), .val (.long q0), .second, .val (.long q1), .second, .val (.long q2), .second, .val (.long q3), .second, .val (.long q4), .second, .val (.int (5 : Int32)), .val (.ref b_176), .val (.ref b_182), .unset] [(.int (5 : Int32)), (.int (5 : Int32))])
    refine Go.st (fun _ => XS.icmpYes X_191.here hx rfl (pc0 := 120) (pc' := 125) rfl (hb hby at_120) rfl (teq (by decide : (5 : Int32) = (5 : Int32))).1 (by decide) (by decide)) ?_
    show Go p e below s _ _ _ T_191 (mkF m 125 #[.val (.int k), .val (.long q0), .second, .val (.long q1), .second, .val (.long q2), .second, .val (.long q3), .second, .val (.long q4), .second, .val (.int (5 : Int32)), .val (.ref b_176), .val (.ref b_182), .unset] [])
    refine Go.st (fun _ => XS.aload X_191.here hx rfl (hb hby at_125) rfl rfl) ?_
    show Go p e below s _ _ _ T_191 (mkF m 127 #[.val (.int k), .val (.long q0), .second, .val (.long q1), .second, .val (.long q2), .second, .val (.long q3), .second, .val (.long q4), .second, .val (.int (5 : Int32)), .val (.ref b_176), .val (.ref b_182), .unset] [(.ref b_182)])
    have f_195 := (p_189_1.keep K_190 (ninS ne_b_182_t__183 nin0))
    obtain ⟨cq_194, kq_194, q_194a, q_194b, q_194c⟩ := isOf hZ e_191 f_193
    obtain ⟨_, _, ⟨T_194, L_194, kc_194, nc_194⟩, -, X_194, ⟨Lc_194, hQ_194, l_194, y_194, z_194⟩, st_194⟩ := X_191.virtualBack hx (y := (⟨"com/example/moat/moat/xpath/Handles", "array", "()[J"⟩ : MethodName)) (z := (⟨"com/example/moat/moat/xpath/Handles", "array", "()[J"⟩ : MethodName)) hown (mvT hZ (hw _ (List.mem_of_getElem? (i := 25) rfl))) (mvT hZ (hw _ (List.mem_of_getElem? (i := 26) rfl))) (notFace_of_selects (args := #[]) (mvT hZ (hw _ (List.mem_of_getElem? (i := 28) rfl)))) (mvT hZ (hw _ (List.mem_of_getElem? (i := 28) rfl))) (mvT hZ (hw _ (List.mem_of_getElem? (i := 27) rfl))) (by decide) (backOf (W := 0) (rm5 l Z a0 hw [] b_182 t__183 h_190 n0 z_190q f_195) hZ (hw _ (List.mem_of_getElem? (i := 29) rfl)) (hw _ (List.mem_of_getElem? (i := 4) rfl)) (by decide) (by decide)) q_194a q_194c (g := (mkF m 127 #[.val (.int k), .val (.long q0), .second, .val (.long q1), .second, .val (.long q2), .second, .val (.long q3), .second, .val (.long q4), .second, .val (.int (5 : Int32)), .val (.ref b_176), .val (.ref b_182), .unset] [(.ref b_182)])) rfl (by rw [hml]; rfl) (Steps.refl _) (argsL := []) (rest := []) (lenOf pd_2 rfl) rfl (by show 2 * 0 + _ ≤ _; exact Nat.le_of_eq rfl) (hb hby at_127) (fun _ _ => ⟨rfl, e_191, (by decide : 3 + 0 ≤ _), (by decide : 15 + 0 ≤ _)⟩)
    dsimp only [Pt.U, Pt.locs, Pt.cells, Pt.slots] at X_194 l_194 y_194 z_194 st_194 hQ_194
    obtain rfl : kc_194 = 3 := y_194
    obtain rfl : nc_194 = 15 := z_194
    obtain ⟨h_194, e_194⟩ : ∃ hh, T_194.heap = hh := ⟨_, rfl⟩
    rw [e_194] at hQ_194
    obtain ⟨rfl, N_194q, sm_194⟩ := hQ_194
    have N_194 : Fr n0 L_194 := by rw [l_194]; exact Fr.app N_191 N_194q
    refine Go.st (fun _ kk => st_194.trans kk) ?_
    rw [sm_194] at e_194
    show Go p e below s _ _ _ T_194 (mkF m 130 #[.val (.int k), .val (.long q0), .second, .val (.long q1), .second, .val (.long q2), .second, .val (.long q3), .second, .val (.long q4), .second, .val (.int (5 : Int32)), .val (.ref b_176), .val (.ref b_182), .unset] [(.ref t__183)])
    refine Go.st (fun _ => XS.astore X_194.here hx rfl (hb hby at_130) rfl rfl (l' := #[.val (.int k), .val (.long q0), .second, .val (.long q1), .second, .val (.long q2), .second, .val (.long q3), .second, .val (.long q4), .second, .val (.int (5 : Int32)), .val (.ref b_176), .val (.ref b_182), .val (.ref t__183)]) rfl) ?_
    show Go p e below s _ _ _ T_194 (mkF m 132 #[.val (.int k), .val (.long q0), .second, .val (.long q1), .second, .val (.long q2), .second, .val (.long q3), .second, .val (.long q4), .second, .val (.int (5 : Int32)), .val (.ref b_176), .val (.ref b_182), .val (.ref t__183)] [])
    refine Go.st (fun _ => XS.aload X_194.here hx rfl (hb hby at_132) rfl rfl) ?_
    show Go p e below s _ _ _ T_194 (mkF m 134 #[.val (.int k), .val (.long q0), .second, .val (.long q1), .second, .val (.long q2), .second, .val (.long q3), .second, .val (.long q4), .second, .val (.int (5 : Int32)), .val (.ref b_176), .val (.ref b_182), .val (.ref t__183)] [(.ref t__183)])
    obtain ⟨cl_196, Ar_196, q_196, S_196, M_196, H_196, G_196⟩ := id p_190_0
    refine Go.st (fun tG => X_194.arraylength hx (by rw [e_194]; exact Ar_196.1) (State.isArrayOf_alike hZ.alike Ar_196.2.1) (g := (mkF m 134 #[.val (.int k), .val (.long q0), .second, .val (.long q1), .second, .val (.long q2), .second, .val (.long q3), .second, .val (.long q4), .second, .val (.int (5 : Int32)), .val (.ref b_176), .val (.ref b_182), .val (.ref t__183)] [(.ref t__183)])) rfl rfl (hb hby at_134) tG) ?_
    rw [len_of S_196 M_196]
    show Go p e below s _ _ _ T_194 (mkF m 135 #[.val (.int k), .val (.long q0), .second, .val (.long q1), .second, .val (.long q2), .second, .val (.long q3), .second, .val (.long q4), .second, .val (.int (5 : Int32)), .val (.ref b_176), .val (.ref b_182), .val (.ref t__183)] [(.int (8 : Int32))])
    refine Go.st (fun _ => XS.bipush X_194.here hx rfl (hb hby at_135)) ?_
    show Go p e below s _ _ _ T_194 (mkF m 137 #[.val (.int k), .val (.long q0), .second, .val (.long q1), .second, .val (.long q2), .second, .val (.long q3), .second, .val (.long q4), .second, .val (.int (5 : Int32)), .val (.ref b_176), .val (.ref b_182), .val (.ref t__183)] [(.int (8 : Int32)), (.int (8 : Int32))])
    refine Go.st (fun _ => XS.icmpYes X_194.here hx rfl (pc0 := 137) (pc' := 142) rfl (hb hby at_137) rfl (teq (by decide : (8 : Int32) = (8 : Int32))).1 (by decide) (by decide)) ?_
    show Go p e below s _ _ _ T_194 (mkF m 142 #[.val (.int k), .val (.long q0), .second, .val (.long q1), .second, .val (.long q2), .second, .val (.long q3), .second, .val (.long q4), .second, .val (.int (5 : Int32)), .val (.ref b_176), .val (.ref b_182), .val (.ref t__183)] [])
    refine Go.st (fun _ => XS.aload X_194.here hx rfl (hb hby at_142) rfl rfl) ?_
    show Go p e below s _ _ _ T_194 (mkF m 144 #[.val (.int k), .val (.long q0), .second, .val (.long q1), .second, .val (.long q2), .second, .val (.long q3), .second, .val (.long q4), .second, .val (.int (5 : Int32)), .val (.ref b_176), .val (.ref b_182), .val (.ref t__183)] [(.ref t__183)])
    refine Go.st (fun _ => XS.iconst X_194.here hx rfl (hb hby at_144)) ?_
    show Go p e below s _ _ _ T_194 (mkF m 145 #[.val (.int k), .val (.long q0), .second, .val (.long q1), .second, .val (.long q2), .second, .val (.long q3), .second, .val (.long q4), .second, .val (.int (5 : Int32)), .val (.ref b_176), .val (.ref b_182), .val (.ref t__183)] [(.int (0 : Int32)), (.ref t__183)])
    obtain ⟨cl_197, Ar_197, q_197, S_197, M_197, H_197, G_197⟩ := id p_190_0
    have hin_197 : ¬ ((0 : Int32) < 0 ∨ cl_197.slots.size ≤ ((0 : Int32)).toNatClampNeg) := inb_of S_197 ⟨by decide, by decide⟩
    have hat_197 : cl_197.slots[((0 : Int32)).toNatClampNeg]? = some (.long q4) := H_197.at hin_197 rfl
    refine Go.st (fun tG => X_194.laload hx (j := (0 : Int32)) (v := (.long q4)) (by rw [e_194]; exact Ar_197.1) (State.isArrayOf_alike hZ.alike Ar_197.2.1) Ar_197.2.2 hin_197 hat_197 (g := (mkF m 145 #[.val (.int k), .val (.long q0), .second, .val (.long q1), .second, .val (.long q2), .second, .val (.long q3), .second, .val (.long q4), .second, .val (.int (5 : Int32)), .val (.ref b_176), .val (.ref b_182), .val (.ref t__183)] [(.int (0 : Int32)), (.ref t__183)])) rfl rfl (hb hby at_145) tG) ?_
    show Go p e below s _ _ _ T_194 (mkF m 146 #[.val (.int k), .val (.long q0), .second, .val (.long q1), .second, .val (.long q2), .second, .val (.long q3), .second, .val (.long q4), .second, .val (.int (5 : Int32)), .val (.ref b_176), .val (.ref b_182), .val (.ref t__183)] [(.long q4)])
    refine Go.st (fun _ => XS.aload X_194.here hx rfl (hb hby at_146) rfl rfl) ?_
    show Go p e below s _ _ _ T_194 (mkF m 148 #[.val (.int k), .val (.long q0), .second, .val (.long q1), .second, .val (.long q2), .second, .val (.long q3), .second, .val (.long q4), .second, .val (.int (5 : Int32)), .val (.ref b_176), .val (.ref b_182), .val (.ref t__183)] [(.ref b_176), (.long q4)])
    refine Go.st (fun _ => XS.iload X_194.here hx rfl (hb hby at_148) rfl) ?_
    show Go p e below s _ _ _ T_194 (mkF m 150 #[.val (.int k), .val (.long q0), .second, .val (.long q1), .second, .val (.long q2), .second, .val (.long q3), .second, .val (.long q4), .second, .val (.int (5 : Int32)), .val (.ref b_176), .val (.ref b_182), .val (.ref t__183)] [(.int (5 : Int32)), (.ref b_176), (.long q4)])
    refine Go.st (fun _ => XS.iconst X_194.here hx rfl (hb hby at_150)) ?_
    show Go p e below s _ _ _ T_194 (mkF m 151 #[.val (.int k), .val (.long q0), .second, .val (.long q1), .second, .val (.long q2), .second, .val (.long q3), .second, .val (.long q4), .second, .val (.int (5 : Int32)), .val (.ref b_176), .val (.ref b_182), .val (.ref t__183)] [(.int (0 : Int32)), (.int (5 : Int32)), (.ref b_176), (.long q4)])
    have f_199 := (((((((f_184.keep K_183 (ninS ne_b_176_b_182 nin0)).keep K_185 (ninS ne_b_176_b_182 (ninS ne_b_176_t__183 nin0))).keep K_186 (ninS ne_b_176_b_182 (ninS ne_b_176_t__183 nin0))).keep K_187 (ninS ne_b_176_b_182 (ninS ne_b_176_t__183 nin0))).keep K_188 (ninS ne_b_176_b_182 (ninS ne_b_176_t__183 nin0))).keep K_189 (ninS ne_b_176_b_182 (ninS ne_b_176_t__183 nin0))).keep K_190 (ninS ne_b_176_t__183 nin0))
    obtain ⟨_, _, ⟨T_198, L_198, kc_198, nc_198⟩, -, X_198, ⟨Lc_198, hQ_198, l_198, y_198, z_198⟩, st_198⟩ := Jvm.LawKit.callS X_194 hx (y := (⟨"com/example/moat/moat/xpath/HandlesReversePinLaw", "exp", "([JII)J"⟩ : MethodName)) hown (mvT hZ (hw _ (List.mem_of_getElem? (i := 30) rfl))) (mvT hZ (hw _ (List.mem_of_getElem? (i := 31) rfl))) (mvT hZ (hw _ (List.mem_of_getElem? (i := 32) rfl))) (mvT hZ (hw _ (List.mem_of_getElem? (i := 33) rfl))) (by decide) (backOf (W := 2) (rmXa l Z a0 hw [] b_176 (5 : Int32) (0 : Int32) kA_176 (5 : Int32) [(.long q0), (.long q1), (.long q2), (.long q3), (.long q4)] (.long (0 : Int64)) q4 h_190 n0 z_190q f_199 (by decide) (by decide) rfl) hZ (hw _ (List.mem_of_getElem? (i := 33) rfl)) (hw _ (List.mem_of_getElem? (i := 32) rfl)) (by decide) (by decide)) (g := (mkF m 151 #[.val (.int k), .val (.long q0), .second, .val (.long q1), .second, .val (.long q2), .second, .val (.long q3), .second, .val (.long q4), .second, .val (.int (5 : Int32)), .val (.ref b_176), .val (.ref b_182), .val (.ref t__183)] [(.int (0 : Int32)), (.int (5 : Int32)), (.ref b_176), (.long q4)])) rfl (by rw [hml]; rfl) (argsL := [(.ref b_176), (.int (5 : Int32)), (.int (0 : Int32))]) (rest := [(.long q4)]) (lenOf pd_3 rfl) rfl (by show 2 * 0 + _ ≤ _; exact Nat.le_of_eq rfl) (hb hby at_151) (fun _ _ => ⟨rfl, e_194, (by decide : 3 + 0 ≤ _), (by decide : 15 + 0 ≤ _)⟩)
    dsimp only [Pt.U, Pt.locs, Pt.cells, Pt.slots] at X_198 l_198 y_198 z_198 st_198 hQ_198
    obtain rfl : kc_198 = 3 := y_198
    obtain rfl : nc_198 = 15 := z_198
    obtain ⟨h_198, e_198⟩ : ∃ hh, T_198.heap = hh := ⟨_, rfl⟩
    rw [e_198] at hQ_198
    obtain ⟨rfl, N_198q, sm_198⟩ := hQ_198
    have N_198 : Fr n0 L_198 := by rw [l_198]; exact Fr.app N_194 N_198q
    refine Go.st st_198 ?_
    rw [sm_198] at e_198
    show Go p e below s _ _ _ T_198 (mkF m 154 #[.val (.int k), .val (.long q0), .second, .val (.long q1), .second, .val (.long q2), .second, .val (.long q3), .second, .val (.long q4), .second, .val (.int (5 : Int32)), .val (.ref b_176), .val (.ref b_182), .val (.ref t__183)] [(.long q4), (.long q4)])
    refine Go.st (fun _ => XS.lcmp X_198.here hx rfl (hb hby at_154) rfl) ?_
    show Go p e below s _ _ _ T_198 (mkF m 155 #[.val (.int k), .val (.long q0), .second, .val (.long q1), .second, .val (.long q2), .second, .val (.long q3), .second, .val (.long q4), .second, .val (.int (5 : Int32)), .val (.ref b_176), .val (.ref b_182), .val (.ref t__183)] [(.int (lcmpW q4 q4))])
    refine Go.st (fun _ => XS.ifNo X_198.here hx rfl (hb hby at_155) rfl ((if0 _ _).trans (teq ((lw_eq q4 q4).mpr (rfl : q4 = q4))).2)) ?_
    show Go p e below s _ _ _ T_198 (mkF m 158 #[.val (.int k), .val (.long q0), .second, .val (.long q1), .second, .val (.long q2), .second, .val (.long q3), .second, .val (.long q4), .second, .val (.int (5 : Int32)), .val (.ref b_176), .val (.ref b_182), .val (.ref t__183)] [])
    refine Go.st (fun _ => XS.aload X_198.here hx rfl (hb hby at_158) rfl rfl) ?_
    show Go p e below s _ _ _ T_198 (mkF m 160 #[.val (.int k), .val (.long q0), .second, .val (.long q1), .second, .val (.long q2), .second, .val (.long q3), .second, .val (.long q4), .second, .val (.int (5 : Int32)), .val (.ref b_176), .val (.ref b_182), .val (.ref t__183)] [(.ref t__183)])
    refine Go.st (fun _ => XS.iconst X_198.here hx rfl (hb hby at_160)) ?_
    show Go p e below s _ _ _ T_198 (mkF m 161 #[.val (.int k), .val (.long q0), .second, .val (.long q1), .second, .val (.long q2), .second, .val (.long q3), .second, .val (.long q4), .second, .val (.int (5 : Int32)), .val (.ref b_176), .val (.ref b_182), .val (.ref t__183)] [(.int (1 : Int32)), (.ref t__183)])
    obtain ⟨cl_200, Ar_200, q_200, S_200, M_200, H_200, G_200⟩ := id p_190_0
    have hin_200 : ¬ ((1 : Int32) < 0 ∨ cl_200.slots.size ≤ ((1 : Int32)).toNatClampNeg) := inb_of S_200 ⟨by decide, by decide⟩
    have hat_200 : cl_200.slots[((1 : Int32)).toNatClampNeg]? = some (.long q3) := H_200.at hin_200 rfl
    refine Go.st (fun tG => X_198.laload hx (j := (1 : Int32)) (v := (.long q3)) (by rw [e_198]; exact Ar_200.1) (State.isArrayOf_alike hZ.alike Ar_200.2.1) Ar_200.2.2 hin_200 hat_200 (g := (mkF m 161 #[.val (.int k), .val (.long q0), .second, .val (.long q1), .second, .val (.long q2), .second, .val (.long q3), .second, .val (.long q4), .second, .val (.int (5 : Int32)), .val (.ref b_176), .val (.ref b_182), .val (.ref t__183)] [(.int (1 : Int32)), (.ref t__183)])) rfl rfl (hb hby at_161) tG) ?_
    show Go p e below s _ _ _ T_198 (mkF m 162 #[.val (.int k), .val (.long q0), .second, .val (.long q1), .second, .val (.long q2), .second, .val (.long q3), .second, .val (.long q4), .second, .val (.int (5 : Int32)), .val (.ref b_176), .val (.ref b_182), .val (.ref t__183)] [(.long q3)])
    refine Go.st (fun _ => XS.aload X_198.here hx rfl (hb hby at_162) rfl rfl) ?_
    show Go p e below s _ _ _ T_198 (mkF m 164 #[.val (.int k), .val (.long q0), .second, .val (.long q1), .second, .val (.long q2), .second, .val (.long q3), .second, .val (.long q4), .second, .val (.int (5 : Int32)), .val (.ref b_176), .val (.ref b_182), .val (.ref t__183)] [(.ref b_176), (.long q3)])
    refine Go.st (fun _ => XS.iload X_198.here hx rfl (hb hby at_164) rfl) ?_
    show Go p e below s _ _ _ T_198 (mkF m 166 #[.val (.int k), .val (.long q0), .second, .val (.long q1), .second, .val (.long q2), .second, .val (.long q3), .second, .val (.long q4), .second, .val (.int (5 : Int32)), .val (.ref b_176), .val (.ref b_182), .val (.ref t__183)] [(.int (5 : Int32)), (.ref b_176), (.long q3)])
    refine Go.st (fun _ => XS.iconst X_198.here hx rfl (hb hby at_166)) ?_
    show Go p e below s _ _ _ T_198 (mkF m 167 #[.val (.int k), .val (.long q0), .second, .val (.long q1), .second, .val (.long q2), .second, .val (.long q3), .second, .val (.long q4), .second, .val (.int (5 : Int32)), .val (.ref b_176), .val (.ref b_182), .val (.ref t__183)] [(.int (1 : Int32)), (.int (5 : Int32)), (.ref b_176), (.long q3)])
    obtain ⟨_, _, ⟨T_201, L_201, kc_201, nc_201⟩, -, X_201, ⟨Lc_201, hQ_201, l_201, y_201, z_201⟩, st_201⟩ := Jvm.LawKit.callS X_198 hx (y := (⟨"com/example/moat/moat/xpath/HandlesReversePinLaw", "exp", "([JII)J"⟩ : MethodName)) hown (mvT hZ (hw _ (List.mem_of_getElem? (i := 30) rfl))) (mvT hZ (hw _ (List.mem_of_getElem? (i := 31) rfl))) (mvT hZ (hw _ (List.mem_of_getElem? (i := 32) rfl))) (mvT hZ (hw _ (List.mem_of_getElem? (i := 33) rfl))) (by decide) (backOf (W := 2) (rmXa l Z a0 hw [] b_176 (5 : Int32) (1 : Int32) kA_176 (5 : Int32) [(.long q0), (.long q1), (.long q2), (.long q3), (.long q4)] (.long (0 : Int64)) q3 h_190 n0 z_190q f_199 (by decide) (by decide) rfl) hZ (hw _ (List.mem_of_getElem? (i := 33) rfl)) (hw _ (List.mem_of_getElem? (i := 32) rfl)) (by decide) (by decide)) (g := (mkF m 167 #[.val (.int k), .val (.long q0), .second, .val (.long q1), .second, .val (.long q2), .second, .val (.long q3), .second, .val (.long q4), .second, .val (.int (5 : Int32)), .val (.ref b_176), .val (.ref b_182), .val (.ref t__183)] [(.int (1 : Int32)), (.int (5 : Int32)), (.ref b_176), (.long q3)])) rfl (by rw [hml]; rfl) (argsL := [(.ref b_176), (.int (5 : Int32)), (.int (1 : Int32))]) (rest := [(.long q3)]) (lenOf pd_3 rfl) rfl (by show 2 * 0 + _ ≤ _; exact Nat.le_of_eq rfl) (hb hby at_167) (fun _ _ => ⟨rfl, e_198, (by decide : 3 + 0 ≤ _), (by decide : 15 + 0 ≤ _)⟩)
    dsimp only [Pt.U, Pt.locs, Pt.cells, Pt.slots] at X_201 l_201 y_201 z_201 st_201 hQ_201
    obtain rfl : kc_201 = 3 := y_201
    obtain rfl : nc_201 = 15 := z_201
    obtain ⟨h_201, e_201⟩ : ∃ hh, T_201.heap = hh := ⟨_, rfl⟩
    rw [e_201] at hQ_201
    obtain ⟨rfl, N_201q, sm_201⟩ := hQ_201
    have N_201 : Fr n0 L_201 := by rw [l_201]; exact Fr.app N_198 N_201q
    refine Go.st st_201 ?_
    rw [sm_201] at e_201
    show Go p e below s _ _ _ T_201 (mkF m 170 #[.val (.int k), .val (.long q0), .second, .val (.long q1), .second, .val (.long q2), .second, .val (.long q3), .second, .val (.long q4), .second, .val (.int (5 : Int32)), .val (.ref b_176), .val (.ref b_182), .val (.ref t__183)] [(.long q3), (.long q3)])
    refine Go.st (fun _ => XS.lcmp X_201.here hx rfl (hb hby at_170) rfl) ?_
    show Go p e below s _ _ _ T_201 (mkF m 171 #[.val (.int k), .val (.long q0), .second, .val (.long q1), .second, .val (.long q2), .second, .val (.long q3), .second, .val (.long q4), .second, .val (.int (5 : Int32)), .val (.ref b_176), .val (.ref b_182), .val (.ref t__183)] [(.int (lcmpW q3 q3))])
    refine Go.st (fun _ => XS.ifNo X_201.here hx rfl (hb hby at_171) rfl ((if0 _ _).trans (teq ((lw_eq q3 q3).mpr (rfl : q3 = q3))).2)) ?_
    show Go p e below s _ _ _ T_201 (mkF m 174 #[.val (.int k), .val (.long q0), .second, .val (.long q1), .second, .val (.long q2), .second, .val (.long q3), .second, .val (.long q4), .second, .val (.int (5 : Int32)), .val (.ref b_176), .val (.ref b_182), .val (.ref t__183)] [])
    refine Go.st (fun _ => XS.aload X_201.here hx rfl (hb hby at_174) rfl rfl) ?_
    show Go p e below s _ _ _ T_201 (mkF m 176 #[.val (.int k), .val (.long q0), .second, .val (.long q1), .second, .val (.long q2), .second, .val (.long q3), .second, .val (.long q4), .second, .val (.int (5 : Int32)), .val (.ref b_176), .val (.ref b_182), .val (.ref t__183)] [(.ref t__183)])
    refine Go.st (fun _ => XS.iconst X_201.here hx rfl (hb hby at_176)) ?_
    show Go p e below s _ _ _ T_201 (mkF m 177 #[.val (.int k), .val (.long q0), .second, .val (.long q1), .second, .val (.long q2), .second, .val (.long q3), .second, .val (.long q4), .second, .val (.int (5 : Int32)), .val (.ref b_176), .val (.ref b_182), .val (.ref t__183)] [(.int (2 : Int32)), (.ref t__183)])
    obtain ⟨cl_202, Ar_202, q_202, S_202, M_202, H_202, G_202⟩ := id p_190_0
    have hin_202 : ¬ ((2 : Int32) < 0 ∨ cl_202.slots.size ≤ ((2 : Int32)).toNatClampNeg) := inb_of S_202 ⟨by decide, by decide⟩
    have hat_202 : cl_202.slots[((2 : Int32)).toNatClampNeg]? = some (.long q2) := H_202.at hin_202 rfl
    refine Go.st (fun tG => X_201.laload hx (j := (2 : Int32)) (v := (.long q2)) (by rw [e_201]; exact Ar_202.1) (State.isArrayOf_alike hZ.alike Ar_202.2.1) Ar_202.2.2 hin_202 hat_202 (g := (mkF m 177 #[.val (.int k), .val (.long q0), .second, .val (.long q1), .second, .val (.long q2), .second, .val (.long q3), .second, .val (.long q4), .second, .val (.int (5 : Int32)), .val (.ref b_176), .val (.ref b_182), .val (.ref t__183)] [(.int (2 : Int32)), (.ref t__183)])) rfl rfl (hb hby at_177) tG) ?_
    show Go p e below s _ _ _ T_201 (mkF m 178 #[.val (.int k), .val (.long q0), .second, .val (.long q1), .second, .val (.long q2), .second, .val (.long q3), .second, .val (.long q4), .second, .val (.int (5 : Int32)), .val (.ref b_176), .val (.ref b_182), .val (.ref t__183)] [(.long q2)])
    refine Go.st (fun _ => XS.aload X_201.here hx rfl (hb hby at_178) rfl rfl) ?_
    show Go p e below s _ _ _ T_201 (mkF m 180 #[.val (.int k), .val (.long q0), .second, .val (.long q1), .second, .val (.long q2), .second, .val (.long q3), .second, .val (.long q4), .second, .val (.int (5 : Int32)), .val (.ref b_176), .val (.ref b_182), .val (.ref t__183)] [(.ref b_176), (.long q2)])
    refine Go.st (fun _ => XS.iload X_201.here hx rfl (hb hby at_180) rfl) ?_
    show Go p e below s _ _ _ T_201 (mkF m 182 #[.val (.int k), .val (.long q0), .second, .val (.long q1), .second, .val (.long q2), .second, .val (.long q3), .second, .val (.long q4), .second, .val (.int (5 : Int32)), .val (.ref b_176), .val (.ref b_182), .val (.ref t__183)] [(.int (5 : Int32)), (.ref b_176), (.long q2)])
    refine Go.st (fun _ => XS.iconst X_201.here hx rfl (hb hby at_182)) ?_
    show Go p e below s _ _ _ T_201 (mkF m 183 #[.val (.int k), .val (.long q0), .second, .val (.long q1), .second, .val (.long q2), .second, .val (.long q3), .second, .val (.long q4), .second, .val (.int (5 : Int32)), .val (.ref b_176), .val (.ref b_182), .val (.ref t__183)] [(.int (2 : Int32)), (.int (5 : Int32)), (.ref b_176), (.long q2)])
    obtain ⟨_, _, ⟨T_203, L_203, kc_203, nc_203⟩, -, X_203, ⟨Lc_203, hQ_203, l_203, y_203, z_203⟩, st_203⟩ := Jvm.LawKit.callS X_201 hx (y := (⟨"com/example/moat/moat/xpath/HandlesReversePinLaw", "exp", "([JII)J"⟩ : MethodName)) hown (mvT hZ (hw _ (List.mem_of_getElem? (i := 30) rfl))) (mvT hZ (hw _ (List.mem_of_getElem? (i := 31) rfl))) (mvT hZ (hw _ (List.mem_of_getElem? (i := 32) rfl))) (mvT hZ (hw _ (List.mem_of_getElem? (i := 33) rfl))) (by decide) (backOf (W := 2) (rmXa l Z a0 hw [] b_176 (5 : Int32) (2 : Int32) kA_176 (5 : Int32) [(.long q0), (.long q1), (.long q2), (.long q3), (.long q4)] (.long (0 : Int64)) q2 h_190 n0 z_190q f_199 (by decide) (by decide) rfl) hZ (hw _ (List.mem_of_getElem? (i := 33) rfl)) (hw _ (List.mem_of_getElem? (i := 32) rfl)) (by decide) (by decide)) (g := (mkF m 183 #[.val (.int k), .val (.long q0), .second, .val (.long q1), .second, .val (.long q2), .second, .val (.long q3), .second, .val (.long q4), .second, .val (.int (5 : Int32)), .val (.ref b_176), .val (.ref b_182), .val (.ref t__183)] [(.int (2 : Int32)), (.int (5 : Int32)), (.ref b_176), (.long q2)])) rfl (by rw [hml]; rfl) (argsL := [(.ref b_176), (.int (5 : Int32)), (.int (2 : Int32))]) (rest := [(.long q2)]) (lenOf pd_3 rfl) rfl (by show 2 * 0 + _ ≤ _; exact Nat.le_of_eq rfl) (hb hby at_183) (fun _ _ => ⟨rfl, e_201, (by decide : 3 + 0 ≤ _), (by decide : 15 + 0 ≤ _)⟩)
    dsimp only [Pt.U, Pt.locs, Pt.cells, Pt.slots] at X_203 l_203 y_203 z_203 st_203 hQ_203
    obtain rfl : kc_203 = 3 := y_203
    obtain rfl : nc_203 = 15 := z_203
    obtain ⟨h_203, e_203⟩ : ∃ hh, T_203.heap = hh := ⟨_, rfl⟩
    rw [e_203] at hQ_203
    obtain ⟨rfl, N_203q, sm_203⟩ := hQ_203
    have N_203 : Fr n0 L_203 := by rw [l_203]; exact Fr.app N_201 N_203q
    refine Go.st st_203 ?_
    rw [sm_203] at e_203
    show Go p e below s _ _ _ T_203 (mkF m 186 #[.val (.int k), .val (.long q0), .second, .val (.long q1), .second, .val (.long q2), .second, .val (.long q3), .second, .val (.long q4), .second, .val (.int (5 : Int32)), .val (.ref b_176), .val (.ref b_182), .val (.ref t__183)] [(.long q2), (.long q2)])
    refine Go.st (fun _ => XS.lcmp X_203.here hx rfl (hb hby at_186) rfl) ?_
    show Go p e below s _ _ _ T_203 (mkF m 187 #[.val (.int k), .val (.long q0), .second, .val (.long q1), .second, .val (.long q2), .second, .val (.long q3), .second, .val (.long q4), .second, .val (.int (5 : Int32)), .val (.ref b_176), .val (.ref b_182), .val (.ref t__183)] [(.int (lcmpW q2 q2))])
    refine Go.st (fun _ => XS.ifNo X_203.here hx rfl (hb hby at_187) rfl ((if0 _ _).trans (teq ((lw_eq q2 q2).mpr (rfl : q2 = q2))).2)) ?_
    show Go p e below s _ _ _ T_203 (mkF m 190 #[.val (.int k), .val (.long q0), .second, .val (.long q1), .second, .val (.long q2), .second, .val (.long q3), .second, .val (.long q4), .second, .val (.int (5 : Int32)), .val (.ref b_176), .val (.ref b_182), .val (.ref t__183)] [])
    refine Go.st (fun _ => XS.aload X_203.here hx rfl (hb hby at_190) rfl rfl) ?_
    show Go p e below s _ _ _ T_203 (mkF m 192 #[.val (.int k), .val (.long q0), .second, .val (.long q1), .second, .val (.long q2), .second, .val (.long q3), .second, .val (.long q4), .second, .val (.int (5 : Int32)), .val (.ref b_176), .val (.ref b_182), .val (.ref t__183)] [(.ref t__183)])
    refine Go.st (fun _ => XS.iconst X_203.here hx rfl (hb hby at_192)) ?_
    show Go p e below s _ _ _ T_203 (mkF m 193 #[.val (.int k), .val (.long q0), .second, .val (.long q1), .second, .val (.long q2), .second, .val (.long q3), .second, .val (.long q4), .second, .val (.int (5 : Int32)), .val (.ref b_176), .val (.ref b_182), .val (.ref t__183)] [(.int (3 : Int32)), (.ref t__183)])
    obtain ⟨cl_204, Ar_204, q_204, S_204, M_204, H_204, G_204⟩ := id p_190_0
    have hin_204 : ¬ ((3 : Int32) < 0 ∨ cl_204.slots.size ≤ ((3 : Int32)).toNatClampNeg) := inb_of S_204 ⟨by decide, by decide⟩
    have hat_204 : cl_204.slots[((3 : Int32)).toNatClampNeg]? = some (.long q1) := H_204.at hin_204 rfl
    refine Go.st (fun tG => X_203.laload hx (j := (3 : Int32)) (v := (.long q1)) (by rw [e_203]; exact Ar_204.1) (State.isArrayOf_alike hZ.alike Ar_204.2.1) Ar_204.2.2 hin_204 hat_204 (g := (mkF m 193 #[.val (.int k), .val (.long q0), .second, .val (.long q1), .second, .val (.long q2), .second, .val (.long q3), .second, .val (.long q4), .second, .val (.int (5 : Int32)), .val (.ref b_176), .val (.ref b_182), .val (.ref t__183)] [(.int (3 : Int32)), (.ref t__183)])) rfl rfl (hb hby at_193) tG) ?_
    show Go p e below s _ _ _ T_203 (mkF m 194 #[.val (.int k), .val (.long q0), .second, .val (.long q1), .second, .val (.long q2), .second, .val (.long q3), .second, .val (.long q4), .second, .val (.int (5 : Int32)), .val (.ref b_176), .val (.ref b_182), .val (.ref t__183)] [(.long q1)])
    refine Go.st (fun _ => XS.aload X_203.here hx rfl (hb hby at_194) rfl rfl) ?_
    show Go p e below s _ _ _ T_203 (mkF m 196 #[.val (.int k), .val (.long q0), .second, .val (.long q1), .second, .val (.long q2), .second, .val (.long q3), .second, .val (.long q4), .second, .val (.int (5 : Int32)), .val (.ref b_176), .val (.ref b_182), .val (.ref t__183)] [(.ref b_176), (.long q1)])
    refine Go.st (fun _ => XS.iload X_203.here hx rfl (hb hby at_196) rfl) ?_
    show Go p e below s _ _ _ T_203 (mkF m 198 #[.val (.int k), .val (.long q0), .second, .val (.long q1), .second, .val (.long q2), .second, .val (.long q3), .second, .val (.long q4), .second, .val (.int (5 : Int32)), .val (.ref b_176), .val (.ref b_182), .val (.ref t__183)] [(.int (5 : Int32)), (.ref b_176), (.long q1)])
    refine Go.st (fun _ => XS.iconst X_203.here hx rfl (hb hby at_198)) ?_
    show Go p e below s _ _ _ T_203 (mkF m 199 #[.val (.int k), .val (.long q0), .second, .val (.long q1), .second, .val (.long q2), .second, .val (.long q3), .second, .val (.long q4), .second, .val (.int (5 : Int32)), .val (.ref b_176), .val (.ref b_182), .val (.ref t__183)] [(.int (3 : Int32)), (.int (5 : Int32)), (.ref b_176), (.long q1)])
    obtain ⟨_, _, ⟨T_205, L_205, kc_205, nc_205⟩, -, X_205, ⟨Lc_205, hQ_205, l_205, y_205, z_205⟩, st_205⟩ := Jvm.LawKit.callS X_203 hx (y := (⟨"com/example/moat/moat/xpath/HandlesReversePinLaw", "exp", "([JII)J"⟩ : MethodName)) hown (mvT hZ (hw _ (List.mem_of_getElem? (i := 30) rfl))) (mvT hZ (hw _ (List.mem_of_getElem? (i := 31) rfl))) (mvT hZ (hw _ (List.mem_of_getElem? (i := 32) rfl))) (mvT hZ (hw _ (List.mem_of_getElem? (i := 33) rfl))) (by decide) (backOf (W := 2) (rmXa l Z a0 hw [] b_176 (5 : Int32) (3 : Int32) kA_176 (5 : Int32) [(.long q0), (.long q1), (.long q2), (.long q3), (.long q4)] (.long (0 : Int64)) q1 h_190 n0 z_190q f_199 (by decide) (by decide) rfl) hZ (hw _ (List.mem_of_getElem? (i := 33) rfl)) (hw _ (List.mem_of_getElem? (i := 32) rfl)) (by decide) (by decide)) (g := (mkF m 199 #[.val (.int k), .val (.long q0), .second, .val (.long q1), .second, .val (.long q2), .second, .val (.long q3), .second, .val (.long q4), .second, .val (.int (5 : Int32)), .val (.ref b_176), .val (.ref b_182), .val (.ref t__183)] [(.int (3 : Int32)), (.int (5 : Int32)), (.ref b_176), (.long q1)])) rfl (by rw [hml]; rfl) (argsL := [(.ref b_176), (.int (5 : Int32)), (.int (3 : Int32))]) (rest := [(.long q1)]) (lenOf pd_3 rfl) rfl (by show 2 * 0 + _ ≤ _; exact Nat.le_of_eq rfl) (hb hby at_199) (fun _ _ => ⟨rfl, e_203, (by decide : 3 + 0 ≤ _), (by decide : 15 + 0 ≤ _)⟩)
    dsimp only [Pt.U, Pt.locs, Pt.cells, Pt.slots] at X_205 l_205 y_205 z_205 st_205 hQ_205
    obtain rfl : kc_205 = 3 := y_205
    obtain rfl : nc_205 = 15 := z_205
    obtain ⟨h_205, e_205⟩ : ∃ hh, T_205.heap = hh := ⟨_, rfl⟩
    rw [e_205] at hQ_205
    obtain ⟨rfl, N_205q, sm_205⟩ := hQ_205
    have N_205 : Fr n0 L_205 := by rw [l_205]; exact Fr.app N_203 N_205q
    refine Go.st st_205 ?_
    rw [sm_205] at e_205
    show Go p e below s _ _ _ T_205 (mkF m 202 #[.val (.int k), .val (.long q0), .second, .val (.long q1), .second, .val (.long q2), .second, .val (.long q3), .second, .val (.long q4), .second, .val (.int (5 : Int32)), .val (.ref b_176), .val (.ref b_182), .val (.ref t__183)] [(.long q1), (.long q1)])
    refine Go.st (fun _ => XS.lcmp X_205.here hx rfl (hb hby at_202) rfl) ?_
    show Go p e below s _ _ _ T_205 (mkF m 203 #[.val (.int k), .val (.long q0), .second, .val (.long q1), .second, .val (.long q2), .second, .val (.long q3), .second, .val (.long q4), .second, .val (.int (5 : Int32)), .val (.ref b_176), .val (.ref b_182), .val (.ref t__183)] [(.int (lcmpW q1 q1))])
    refine Go.st (fun _ => XS.ifNo X_205.here hx rfl (hb hby at_203) rfl ((if0 _ _).trans (teq ((lw_eq q1 q1).mpr (rfl : q1 = q1))).2)) ?_
    show Go p e below s _ _ _ T_205 (mkF m 206 #[.val (.int k), .val (.long q0), .second, .val (.long q1), .second, .val (.long q2), .second, .val (.long q3), .second, .val (.long q4), .second, .val (.int (5 : Int32)), .val (.ref b_176), .val (.ref b_182), .val (.ref t__183)] [])
    refine Go.st (fun _ => XS.aload X_205.here hx rfl (hb hby at_206) rfl rfl) ?_
    show Go p e below s _ _ _ T_205 (mkF m 208 #[.val (.int k), .val (.long q0), .second, .val (.long q1), .second, .val (.long q2), .second, .val (.long q3), .second, .val (.long q4), .second, .val (.int (5 : Int32)), .val (.ref b_176), .val (.ref b_182), .val (.ref t__183)] [(.ref t__183)])
    refine Go.st (fun _ => XS.iconst X_205.here hx rfl (hb hby at_208)) ?_
    show Go p e below s _ _ _ T_205 (mkF m 209 #[.val (.int k), .val (.long q0), .second, .val (.long q1), .second, .val (.long q2), .second, .val (.long q3), .second, .val (.long q4), .second, .val (.int (5 : Int32)), .val (.ref b_176), .val (.ref b_182), .val (.ref t__183)] [(.int (4 : Int32)), (.ref t__183)])
    obtain ⟨cl_206, Ar_206, q_206, S_206, M_206, H_206, G_206⟩ := id p_190_0
    have hin_206 : ¬ ((4 : Int32) < 0 ∨ cl_206.slots.size ≤ ((4 : Int32)).toNatClampNeg) := inb_of S_206 ⟨by decide, by decide⟩
    have hat_206 : cl_206.slots[((4 : Int32)).toNatClampNeg]? = some (.long q0) := H_206.at hin_206 rfl
    refine Go.st (fun tG => X_205.laload hx (j := (4 : Int32)) (v := (.long q0)) (by rw [e_205]; exact Ar_206.1) (State.isArrayOf_alike hZ.alike Ar_206.2.1) Ar_206.2.2 hin_206 hat_206 (g := (mkF m 209 #[.val (.int k), .val (.long q0), .second, .val (.long q1), .second, .val (.long q2), .second, .val (.long q3), .second, .val (.long q4), .second, .val (.int (5 : Int32)), .val (.ref b_176), .val (.ref b_182), .val (.ref t__183)] [(.int (4 : Int32)), (.ref t__183)])) rfl rfl (hb hby at_209) tG) ?_
    show Go p e below s _ _ _ T_205 (mkF m 210 #[.val (.int k), .val (.long q0), .second, .val (.long q1), .second, .val (.long q2), .second, .val (.long q3), .second, .val (.long q4), .second, .val (.int (5 : Int32)), .val (.ref b_176), .val (.ref b_182), .val (.ref t__183)] [(.long q0)])
    refine Go.st (fun _ => XS.aload X_205.here hx rfl (hb hby at_210) rfl rfl) ?_
    show Go p e below s _ _ _ T_205 (mkF m 212 #[.val (.int k), .val (.long q0), .second, .val (.long q1), .second, .val (.long q2), .second, .val (.long q3), .second, .val (.long q4), .second, .val (.int (5 : Int32)), .val (.ref b_176), .val (.ref b_182), .val (.ref t__183)] [(.ref b_176), (.long q0)])
    refine Go.st (fun _ => XS.iload X_205.here hx rfl (hb hby at_212) rfl) ?_
    show Go p e below s _ _ _ T_205 (mkF m 214 #[.val (.int k), .val (.long q0), .second, .val (.long q1), .second, .val (.long q2), .second, .val (.long q3), .second, .val (.long q4), .second, .val (.int (5 : Int32)), .val (.ref b_176), .val (.ref b_182), .val (.ref t__183)] [(.int (5 : Int32)), (.ref b_176), (.long q0)])
    refine Go.st (fun _ => XS.iconst X_205.here hx rfl (hb hby at_214)) ?_
    show Go p e below s _ _ _ T_205 (mkF m 215 #[.val (.int k), .val (.long q0), .second, .val (.long q1), .second, .val (.long q2), .second, .val (.long q3), .second, .val (.long q4), .second, .val (.int (5 : Int32)), .val (.ref b_176), .val (.ref b_182), .val (.ref t__183)] [(.int (4 : Int32)), (.int (5 : Int32)), (.ref b_176), (.long q0)])
    obtain ⟨_, _, ⟨T_207, L_207, kc_207, nc_207⟩, -, X_207, ⟨Lc_207, hQ_207, l_207, y_207, z_207⟩, st_207⟩ := Jvm.LawKit.callS X_205 hx (y := (⟨"com/example/moat/moat/xpath/HandlesReversePinLaw", "exp", "([JII)J"⟩ : MethodName)) hown (mvT hZ (hw _ (List.mem_of_getElem? (i := 30) rfl))) (mvT hZ (hw _ (List.mem_of_getElem? (i := 31) rfl))) (mvT hZ (hw _ (List.mem_of_getElem? (i := 32) rfl))) (mvT hZ (hw _ (List.mem_of_getElem? (i := 33) rfl))) (by decide) (backOf (W := 2) (rmXa l Z a0 hw [] b_176 (5 : Int32) (4 : Int32) kA_176 (5 : Int32) [(.long q0), (.long q1), (.long q2), (.long q3), (.long q4)] (.long (0 : Int64)) q0 h_190 n0 z_190q f_199 (by decide) (by decide) rfl) hZ (hw _ (List.mem_of_getElem? (i := 33) rfl)) (hw _ (List.mem_of_getElem? (i := 32) rfl)) (by decide) (by decide)) (g := (mkF m 215 #[.val (.int k), .val (.long q0), .second, .val (.long q1), .second, .val (.long q2), .second, .val (.long q3), .second, .val (.long q4), .second, .val (.int (5 : Int32)), .val (.ref b_176), .val (.ref b_182), .val (.ref t__183)] [(.int (4 : Int32)), (.int (5 : Int32)), (.ref b_176), (.long q0)])) rfl (by rw [hml]; rfl) (argsL := [(.ref b_176), (.int (5 : Int32)), (.int (4 : Int32))]) (rest := [(.long q0)]) (lenOf pd_3 rfl) rfl (by show 2 * 0 + _ ≤ _; exact Nat.le_of_eq rfl) (hb hby at_215) (fun _ _ => ⟨rfl, e_205, (by decide : 3 + 0 ≤ _), (by decide : 15 + 0 ≤ _)⟩)
    dsimp only [Pt.U, Pt.locs, Pt.cells, Pt.slots] at X_207 l_207 y_207 z_207 st_207 hQ_207
    obtain rfl : kc_207 = 3 := y_207
    obtain rfl : nc_207 = 15 := z_207
    obtain ⟨h_207, e_207⟩ : ∃ hh, T_207.heap = hh := ⟨_, rfl⟩
    rw [e_207] at hQ_207
    obtain ⟨rfl, N_207q, sm_207⟩ := hQ_207
    have N_207 : Fr n0 L_207 := by rw [l_207]; exact Fr.app N_205 N_207q
    refine Go.st st_207 ?_
    rw [sm_207] at e_207
    show Go p e below s _ _ _ T_207 (mkF m 218 #[.val (.int k), .val (.long q0), .second, .val (.long q1), .second, .val (.long q2), .second, .val (.long q3), .second, .val (.long q4), .second, .val (.int (5 : Int32)), .val (.ref b_176), .val (.ref b_182), .val (.ref t__183)] [(.long q0), (.long q0)])
    refine Go.st (fun _ => XS.lcmp X_207.here hx rfl (hb hby at_218) rfl) ?_
    show Go p e below s _ _ _ T_207 (mkF m 219 #[.val (.int k), .val (.long q0), .second, .val (.long q1), .second, .val (.long q2), .second, .val (.long q3), .second, .val (.long q4), .second, .val (.int (5 : Int32)), .val (.ref b_176), .val (.ref b_182), .val (.ref t__183)] [(.int (lcmpW q0 q0))])
    refine Go.st (fun _ => XS.ifNo X_207.here hx rfl (hb hby at_219) rfl ((if0 _ _).trans (teq ((lw_eq q0 q0).mpr (rfl : q0 = q0))).2)) ?_
    show Go p e below s _ _ _ T_207 (mkF m 222 #[.val (.int k), .val (.long q0), .second, .val (.long q1), .second, .val (.long q2), .second, .val (.long q3), .second, .val (.long q4), .second, .val (.int (5 : Int32)), .val (.ref b_176), .val (.ref b_182), .val (.ref t__183)] [])
    refine Go.st (fun _ => XS.aload X_207.here hx rfl (hb hby at_222) rfl rfl) ?_
    show Go p e below s _ _ _ T_207 (mkF m 224 #[.val (.int k), .val (.long q0), .second, .val (.long q1), .second, .val (.long q2), .second, .val (.long q3), .second, .val (.long q4), .second, .val (.int (5 : Int32)), .val (.ref b_176), .val (.ref b_182), .val (.ref t__183)] [(.ref t__183)])
    refine Go.st (fun _ => XS.iconst X_207.here hx rfl (hb hby at_224)) ?_
    show Go p e below s _ _ _ T_207 (mkF m 225 #[.val (.int k), .val (.long q0), .second, .val (.long q1), .second, .val (.long q2), .second, .val (.long q3), .second, .val (.long q4), .second, .val (.int (5 : Int32)), .val (.ref b_176), .val (.ref b_182), .val (.ref t__183)] [(.int (5 : Int32)), (.ref t__183)])
    obtain ⟨cl_208, Ar_208, q_208, S_208, M_208, H_208, G_208⟩ := id p_190_0
    have hin_208 : ¬ ((5 : Int32) < 0 ∨ cl_208.slots.size ≤ ((5 : Int32)).toNatClampNeg) := inb_of S_208 ⟨by decide, by decide⟩
    have hat_208 : cl_208.slots[((5 : Int32)).toNatClampNeg]? = some (.long (0 : Int64)) := H_208.at hin_208 rfl
    refine Go.st (fun tG => X_207.laload hx (j := (5 : Int32)) (v := (.long (0 : Int64))) (by rw [e_207]; exact Ar_208.1) (State.isArrayOf_alike hZ.alike Ar_208.2.1) Ar_208.2.2 hin_208 hat_208 (g := (mkF m 225 #[.val (.int k), .val (.long q0), .second, .val (.long q1), .second, .val (.long q2), .second, .val (.long q3), .second, .val (.long q4), .second, .val (.int (5 : Int32)), .val (.ref b_176), .val (.ref b_182), .val (.ref t__183)] [(.int (5 : Int32)), (.ref t__183)])) rfl rfl (hb hby at_225) tG) ?_
    show Go p e below s _ _ _ T_207 (mkF m 226 #[.val (.int k), .val (.long q0), .second, .val (.long q1), .second, .val (.long q2), .second, .val (.long q3), .second, .val (.long q4), .second, .val (.int (5 : Int32)), .val (.ref b_176), .val (.ref b_182), .val (.ref t__183)] [(.long (0 : Int64))])
    refine Go.st (fun _ => XS.aload X_207.here hx rfl (hb hby at_226) rfl rfl) ?_
    show Go p e below s _ _ _ T_207 (mkF m 228 #[.val (.int k), .val (.long q0), .second, .val (.long q1), .second, .val (.long q2), .second, .val (.long q3), .second, .val (.long q4), .second, .val (.int (5 : Int32)), .val (.ref b_176), .val (.ref b_182), .val (.ref t__183)] [(.ref b_176), (.long (0 : Int64))])
    refine Go.st (fun _ => XS.iload X_207.here hx rfl (hb hby at_228) rfl) ?_
    show Go p e below s _ _ _ T_207 (mkF m 230 #[.val (.int k), .val (.long q0), .second, .val (.long q1), .second, .val (.long q2), .second, .val (.long q3), .second, .val (.long q4), .second, .val (.int (5 : Int32)), .val (.ref b_176), .val (.ref b_182), .val (.ref t__183)] [(.int (5 : Int32)), (.ref b_176), (.long (0 : Int64))])
    refine Go.st (fun _ => XS.iconst X_207.here hx rfl (hb hby at_230)) ?_
    show Go p e below s _ _ _ T_207 (mkF m 231 #[.val (.int k), .val (.long q0), .second, .val (.long q1), .second, .val (.long q2), .second, .val (.long q3), .second, .val (.long q4), .second, .val (.int (5 : Int32)), .val (.ref b_176), .val (.ref b_182), .val (.ref t__183)] [(.int (5 : Int32)), (.int (5 : Int32)), (.ref b_176), (.long (0 : Int64))])
    obtain ⟨_, _, ⟨T_209, L_209, kc_209, nc_209⟩, -, X_209, ⟨Lc_209, hQ_209, l_209, y_209, z_209⟩, st_209⟩ := Jvm.LawKit.callS X_207 hx (y := (⟨"com/example/moat/moat/xpath/HandlesReversePinLaw", "exp", "([JII)J"⟩ : MethodName)) hown (mvT hZ (hw _ (List.mem_of_getElem? (i := 30) rfl))) (mvT hZ (hw _ (List.mem_of_getElem? (i := 31) rfl))) (mvT hZ (hw _ (List.mem_of_getElem? (i := 32) rfl))) (mvT hZ (hw _ (List.mem_of_getElem? (i := 33) rfl))) (by decide) (backOf (W := 2) (rmXb l Z a0 hw [] b_176 (5 : Int32) (5 : Int32) h_190 n0 z_190q (by decide)) hZ (hw _ (List.mem_of_getElem? (i := 33) rfl)) (hw _ (List.mem_of_getElem? (i := 32) rfl)) (by decide) (by decide)) (g := (mkF m 231 #[.val (.int k), .val (.long q0), .second, .val (.long q1), .second, .val (.long q2), .second, .val (.long q3), .second, .val (.long q4), .second, .val (.int (5 : Int32)), .val (.ref b_176), .val (.ref b_182), .val (.ref t__183)] [(.int (5 : Int32)), (.int (5 : Int32)), (.ref b_176), (.long (0 : Int64))])) rfl (by rw [hml]; rfl) (argsL := [(.ref b_176), (.int (5 : Int32)), (.int (5 : Int32))]) (rest := [(.long (0 : Int64))]) (lenOf pd_3 rfl) rfl (by show 2 * 0 + _ ≤ _; exact Nat.le_of_eq rfl) (hb hby at_231) (fun _ _ => ⟨rfl, e_207, (by decide : 3 + 0 ≤ _), (by decide : 15 + 0 ≤ _)⟩)
    dsimp only [Pt.U, Pt.locs, Pt.cells, Pt.slots] at X_209 l_209 y_209 z_209 st_209 hQ_209
    obtain rfl : kc_209 = 3 := y_209
    obtain rfl : nc_209 = 15 := z_209
    obtain ⟨h_209, e_209⟩ : ∃ hh, T_209.heap = hh := ⟨_, rfl⟩
    rw [e_209] at hQ_209
    obtain ⟨rfl, N_209q, sm_209⟩ := hQ_209
    have N_209 : Fr n0 L_209 := by rw [l_209]; exact Fr.app N_207 N_209q
    refine Go.st st_209 ?_
    rw [sm_209] at e_209
    show Go p e below s _ _ _ T_209 (mkF m 234 #[.val (.int k), .val (.long q0), .second, .val (.long q1), .second, .val (.long q2), .second, .val (.long q3), .second, .val (.long q4), .second, .val (.int (5 : Int32)), .val (.ref b_176), .val (.ref b_182), .val (.ref t__183)] [(.long (0 : Int64)), (.long (0 : Int64))])
    refine Go.st (fun _ => XS.lcmp X_209.here hx rfl (hb hby at_234) rfl) ?_
    show Go p e below s _ _ _ T_209 (mkF m 235 #[.val (.int k), .val (.long q0), .second, .val (.long q1), .second, .val (.long q2), .second, .val (.long q3), .second, .val (.long q4), .second, .val (.int (5 : Int32)), .val (.ref b_176), .val (.ref b_182), .val (.ref t__183)] [(.int (lcmpW (0 : Int64) (0 : Int64)))])
    refine Go.st (fun _ => XS.ifNo X_209.here hx rfl (hb hby at_235) rfl ((if0 _ _).trans (teq ((lw_eq (0 : Int64) (0 : Int64)).mpr (by decide : (0 : Int64) = (0 : Int64)))).2)) ?_
    show Go p e below s _ _ _ T_209 (mkF m 238 #[.val (.int k), .val (.long q0), .second, .val (.long q1), .second, .val (.long q2), .second, .val (.long q3), .second, .val (.long q4), .second, .val (.int (5 : Int32)), .val (.ref b_176), .val (.ref b_182), .val (.ref t__183)] [])
    refine Go.st (fun _ => XS.aload X_209.here hx rfl (hb hby at_238) rfl rfl) ?_
    show Go p e below s _ _ _ T_209 (mkF m 240 #[.val (.int k), .val (.long q0), .second, .val (.long q1), .second, .val (.long q2), .second, .val (.long q3), .second, .val (.long q4), .second, .val (.int (5 : Int32)), .val (.ref b_176), .val (.ref b_182), .val (.ref t__183)] [(.ref t__183)])
    refine Go.st (fun _ => XS.bipush X_209.here hx rfl (hb hby at_240)) ?_
    show Go p e below s _ _ _ T_209 (mkF m 242 #[.val (.int k), .val (.long q0), .second, .val (.long q1), .second, .val (.long q2), .second, .val (.long q3), .second, .val (.long q4), .second, .val (.int (5 : Int32)), .val (.ref b_176), .val (.ref b_182), .val (.ref t__183)] [(.int (6 : Int32)), (.ref t__183)])
    obtain ⟨cl_210, Ar_210, q_210, S_210, M_210, H_210, G_210⟩ := id p_190_0
    have hin_210 : ¬ ((6 : Int32) < 0 ∨ cl_210.slots.size ≤ ((6 : Int32)).toNatClampNeg) := inb_of S_210 ⟨by decide, by decide⟩
    have hat_210 : cl_210.slots[((6 : Int32)).toNatClampNeg]? = some (.long (0 : Int64)) := H_210.at hin_210 rfl
    refine Go.st (fun tG => X_209.laload hx (j := (6 : Int32)) (v := (.long (0 : Int64))) (by rw [e_209]; exact Ar_210.1) (State.isArrayOf_alike hZ.alike Ar_210.2.1) Ar_210.2.2 hin_210 hat_210 (g := (mkF m 242 #[.val (.int k), .val (.long q0), .second, .val (.long q1), .second, .val (.long q2), .second, .val (.long q3), .second, .val (.long q4), .second, .val (.int (5 : Int32)), .val (.ref b_176), .val (.ref b_182), .val (.ref t__183)] [(.int (6 : Int32)), (.ref t__183)])) rfl rfl (hb hby at_242) tG) ?_
    show Go p e below s _ _ _ T_209 (mkF m 243 #[.val (.int k), .val (.long q0), .second, .val (.long q1), .second, .val (.long q2), .second, .val (.long q3), .second, .val (.long q4), .second, .val (.int (5 : Int32)), .val (.ref b_176), .val (.ref b_182), .val (.ref t__183)] [(.long (0 : Int64))])
    refine Go.st (fun _ => XS.aload X_209.here hx rfl (hb hby at_243) rfl rfl) ?_
    show Go p e below s _ _ _ T_209 (mkF m 245 #[.val (.int k), .val (.long q0), .second, .val (.long q1), .second, .val (.long q2), .second, .val (.long q3), .second, .val (.long q4), .second, .val (.int (5 : Int32)), .val (.ref b_176), .val (.ref b_182), .val (.ref t__183)] [(.ref b_176), (.long (0 : Int64))])
    refine Go.st (fun _ => XS.iload X_209.here hx rfl (hb hby at_245) rfl) ?_
    show Go p e below s _ _ _ T_209 (mkF m 247 #[.val (.int k), .val (.long q0), .second, .val (.long q1), .second, .val (.long q2), .second, .val (.long q3), .second, .val (.long q4), .second, .val (.int (5 : Int32)), .val (.ref b_176), .val (.ref b_182), .val (.ref t__183)] [(.int (5 : Int32)), (.ref b_176), (.long (0 : Int64))])
    refine Go.st (fun _ => XS.bipush X_209.here hx rfl (hb hby at_247)) ?_
    show Go p e below s _ _ _ T_209 (mkF m 249 #[.val (.int k), .val (.long q0), .second, .val (.long q1), .second, .val (.long q2), .second, .val (.long q3), .second, .val (.long q4), .second, .val (.int (5 : Int32)), .val (.ref b_176), .val (.ref b_182), .val (.ref t__183)] [(.int (6 : Int32)), (.int (5 : Int32)), (.ref b_176), (.long (0 : Int64))])
    obtain ⟨_, _, ⟨T_211, L_211, kc_211, nc_211⟩, -, X_211, ⟨Lc_211, hQ_211, l_211, y_211, z_211⟩, st_211⟩ := Jvm.LawKit.callS X_209 hx (y := (⟨"com/example/moat/moat/xpath/HandlesReversePinLaw", "exp", "([JII)J"⟩ : MethodName)) hown (mvT hZ (hw _ (List.mem_of_getElem? (i := 30) rfl))) (mvT hZ (hw _ (List.mem_of_getElem? (i := 31) rfl))) (mvT hZ (hw _ (List.mem_of_getElem? (i := 32) rfl))) (mvT hZ (hw _ (List.mem_of_getElem? (i := 33) rfl))) (by decide) (backOf (W := 2) (rmXb l Z a0 hw [] b_176 (5 : Int32) (6 : Int32) h_190 n0 z_190q (by decide)) hZ (hw _ (List.mem_of_getElem? (i := 33) rfl)) (hw _ (List.mem_of_getElem? (i := 32) rfl)) (by decide) (by decide)) (g := (mkF m 249 #[.val (.int k), .val (.long q0), .second, .val (.long q1), .second, .val (.long q2), .second, .val (.long q3), .second, .val (.long q4), .second, .val (.int (5 : Int32)), .val (.ref b_176), .val (.ref b_182), .val (.ref t__183)] [(.int (6 : Int32)), (.int (5 : Int32)), (.ref b_176), (.long (0 : Int64))])) rfl (by rw [hml]; rfl) (argsL := [(.ref b_176), (.int (5 : Int32)), (.int (6 : Int32))]) (rest := [(.long (0 : Int64))]) (lenOf pd_3 rfl) rfl (by show 2 * 0 + _ ≤ _; exact Nat.le_of_eq rfl) (hb hby at_249) (fun _ _ => ⟨rfl, e_209, (by decide : 3 + 0 ≤ _), (by decide : 15 + 0 ≤ _)⟩)
    dsimp only [Pt.U, Pt.locs, Pt.cells, Pt.slots] at X_211 l_211 y_211 z_211 st_211 hQ_211
    obtain rfl : kc_211 = 3 := y_211
    obtain rfl : nc_211 = 15 := z_211
    obtain ⟨h_211, e_211⟩ : ∃ hh, T_211.heap = hh := ⟨_, rfl⟩
    rw [e_211] at hQ_211
    obtain ⟨rfl, N_211q, sm_211⟩ := hQ_211
    have N_211 : Fr n0 L_211 := by rw [l_211]; exact Fr.app N_209 N_211q
    refine Go.st st_211 ?_
    rw [sm_211] at e_211
    show Go p e below s _ _ _ T_211 (mkF m 252 #[.val (.int k), .val (.long q0), .second, .val (.long q1), .second, .val (.long q2), .second, .val (.long q3), .second, .val (.long q4), .second, .val (.int (5 : Int32)), .val (.ref b_176), .val (.ref b_182), .val (.ref t__183)] [(.long (0 : Int64)), (.long (0 : Int64))])
    refine Go.st (fun _ => XS.lcmp X_211.here hx rfl (hb hby at_252) rfl) ?_
    show Go p e below s _ _ _ T_211 (mkF m 253 #[.val (.int k), .val (.long q0), .second, .val (.long q1), .second, .val (.long q2), .second, .val (.long q3), .second, .val (.long q4), .second, .val (.int (5 : Int32)), .val (.ref b_176), .val (.ref b_182), .val (.ref t__183)] [(.int (lcmpW (0 : Int64) (0 : Int64)))])
    refine Go.st (fun _ => XS.ifNo X_211.here hx rfl (hb hby at_253) rfl ((if0 _ _).trans (teq ((lw_eq (0 : Int64) (0 : Int64)).mpr (by decide : (0 : Int64) = (0 : Int64)))).2)) ?_
    show Go p e below s _ _ _ T_211 (mkF m 256 #[.val (.int k), .val (.long q0), .second, .val (.long q1), .second, .val (.long q2), .second, .val (.long q3), .second, .val (.long q4), .second, .val (.int (5 : Int32)), .val (.ref b_176), .val (.ref b_182), .val (.ref t__183)] [])
    refine Go.st (fun _ => XS.aload X_211.here hx rfl (hb hby at_256) rfl rfl) ?_
    show Go p e below s _ _ _ T_211 (mkF m 258 #[.val (.int k), .val (.long q0), .second, .val (.long q1), .second, .val (.long q2), .second, .val (.long q3), .second, .val (.long q4), .second, .val (.int (5 : Int32)), .val (.ref b_176), .val (.ref b_182), .val (.ref t__183)] [(.ref t__183)])
    refine Go.st (fun _ => XS.bipush X_211.here hx rfl (hb hby at_258)) ?_
    show Go p e below s _ _ _ T_211 (mkF m 260 #[.val (.int k), .val (.long q0), .second, .val (.long q1), .second, .val (.long q2), .second, .val (.long q3), .second, .val (.long q4), .second, .val (.int (5 : Int32)), .val (.ref b_176), .val (.ref b_182), .val (.ref t__183)] [(.int (7 : Int32)), (.ref t__183)])
    obtain ⟨cl_212, Ar_212, q_212, S_212, M_212, H_212, G_212⟩ := id p_190_0
    have hin_212 : ¬ ((7 : Int32) < 0 ∨ cl_212.slots.size ≤ ((7 : Int32)).toNatClampNeg) := inb_of S_212 ⟨by decide, by decide⟩
    have hat_212 : cl_212.slots[((7 : Int32)).toNatClampNeg]? = some (.long (0 : Int64)) := H_212.at hin_212 rfl
    refine Go.st (fun tG => X_211.laload hx (j := (7 : Int32)) (v := (.long (0 : Int64))) (by rw [e_211]; exact Ar_212.1) (State.isArrayOf_alike hZ.alike Ar_212.2.1) Ar_212.2.2 hin_212 hat_212 (g := (mkF m 260 #[.val (.int k), .val (.long q0), .second, .val (.long q1), .second, .val (.long q2), .second, .val (.long q3), .second, .val (.long q4), .second, .val (.int (5 : Int32)), .val (.ref b_176), .val (.ref b_182), .val (.ref t__183)] [(.int (7 : Int32)), (.ref t__183)])) rfl rfl (hb hby at_260) tG) ?_
    show Go p e below s _ _ _ T_211 (mkF m 261 #[.val (.int k), .val (.long q0), .second, .val (.long q1), .second, .val (.long q2), .second, .val (.long q3), .second, .val (.long q4), .second, .val (.int (5 : Int32)), .val (.ref b_176), .val (.ref b_182), .val (.ref t__183)] [(.long (0 : Int64))])
    refine Go.st (fun _ => XS.aload X_211.here hx rfl (hb hby at_261) rfl rfl) ?_
    show Go p e below s _ _ _ T_211 (mkF m 263 #[.val (.int k), .val (.long q0), .second, .val (.long q1), .second, .val (.long q2), .second, .val (.long q3), .second, .val (.long q4), .second, .val (.int (5 : Int32)), .val (.ref b_176), .val (.ref b_182), .val (.ref t__183)] [(.ref b_176), (.long (0 : Int64))])
    refine Go.st (fun _ => XS.iload X_211.here hx rfl (hb hby at_263) rfl) ?_
    show Go p e below s _ _ _ T_211 (mkF m 265 #[.val (.int k), .val (.long q0), .second, .val (.long q1), .second, .val (.long q2), .second, .val (.long q3), .second, .val (.long q4), .second, .val (.int (5 : Int32)), .val (.ref b_176), .val (.ref b_182), .val (.ref t__183)] [(.int (5 : Int32)), (.ref b_176), (.long (0 : Int64))])
    refine Go.st (fun _ => XS.bipush X_211.here hx rfl (hb hby at_265)) ?_
    show Go p e below s _ _ _ T_211 (mkF m 267 #[.val (.int k), .val (.long q0), .second, .val (.long q1), .second, .val (.long q2), .second, .val (.long q3), .second, .val (.long q4), .second, .val (.int (5 : Int32)), .val (.ref b_176), .val (.ref b_182), .val (.ref t__183)] [(.int (7 : Int32)), (.int (5 : Int32)), (.ref b_176), (.long (0 : Int64))])
    obtain ⟨_, _, ⟨T_213, L_213, kc_213, nc_213⟩, -, X_213, ⟨Lc_213, hQ_213, l_213, y_213, z_213⟩, st_213⟩ := Jvm.LawKit.callS X_211 hx (y := (⟨"com/example/moat/moat/xpath/HandlesReversePinLaw", "exp", "([JII)J"⟩ : MethodName)) hown (mvT hZ (hw _ (List.mem_of_getElem? (i := 30) rfl))) (mvT hZ (hw _ (List.mem_of_getElem? (i := 31) rfl))) (mvT hZ (hw _ (List.mem_of_getElem? (i := 32) rfl))) (mvT hZ (hw _ (List.mem_of_getElem? (i := 33) rfl))) (by decide) (backOf (W := 2) (rmXb l Z a0 hw [] b_176 (5 : Int32) (7 : Int32) h_190 n0 z_190q (by decide)) hZ (hw _ (List.mem_of_getElem? (i := 33) rfl)) (hw _ (List.mem_of_getElem? (i := 32) rfl)) (by decide) (by decide)) (g := (mkF m 267 #[.val (.int k), .val (.long q0), .second, .val (.long q1), .second, .val (.long q2), .second, .val (.long q3), .second, .val (.long q4), .second, .val (.int (5 : Int32)), .val (.ref b_176), .val (.ref b_182), .val (.ref t__183)] [(.int (7 : Int32)), (.int (5 : Int32)), (.ref b_176), (.long (0 : Int64))])) rfl (by rw [hml]; rfl) (argsL := [(.ref b_176), (.int (5 : Int32)), (.int (7 : Int32))]) (rest := [(.long (0 : Int64))]) (lenOf pd_3 rfl) rfl (by show 2 * 0 + _ ≤ _; exact Nat.le_of_eq rfl) (hb hby at_267) (fun _ _ => ⟨rfl, e_211, (by decide : 3 + 0 ≤ _), (by decide : 15 + 0 ≤ _)⟩)
    dsimp only [Pt.U, Pt.locs, Pt.cells, Pt.slots] at X_213 l_213 y_213 z_213 st_213 hQ_213
    obtain rfl : kc_213 = 3 := y_213
    obtain rfl : nc_213 = 15 := z_213
    obtain ⟨h_213, e_213⟩ : ∃ hh, T_213.heap = hh := ⟨_, rfl⟩
    rw [e_213] at hQ_213
    obtain ⟨rfl, N_213q, sm_213⟩ := hQ_213
    have N_213 : Fr n0 L_213 := by rw [l_213]; exact Fr.app N_211 N_213q
    refine Go.st st_213 ?_
    rw [sm_213] at e_213
    show Go p e below s _ _ _ T_213 (mkF m 270 #[.val (.int k), .val (.long q0), .second, .val (.long q1), .second, .val (.long q2), .second, .val (.long q3), .second, .val (.long q4), .second, .val (.int (5 : Int32)), .val (.ref b_176), .val (.ref b_182), .val (.ref t__183)] [(.long (0 : Int64)), (.long (0 : Int64))])
    refine Go.st (fun _ => XS.lcmp X_213.here hx rfl (hb hby at_270) rfl) ?_
    show Go p e below s _ _ _ T_213 (mkF m 271 #[.val (.int k), .val (.long q0), .second, .val (.long q1), .second, .val (.long q2), .second, .val (.long q3), .second, .val (.long q4), .second, .val (.int (5 : Int32)), .val (.ref b_176), .val (.ref b_182), .val (.ref t__183)] [(.int (lcmpW (0 : Int64) (0 : Int64)))])
    refine Go.st (fun _ => XS.ifNo X_213.here hx rfl (hb hby at_271) rfl ((if0 _ _).trans (teq ((lw_eq (0 : Int64) (0 : Int64)).mpr (by decide : (0 : Int64) = (0 : Int64)))).2)) ?_
    show Go p e below s _ _ _ T_213 (mkF m 274 #[.val (.int k), .val (.long q0), .second, .val (.long q1), .second, .val (.long q2), .second, .val (.long q3), .second, .val (.long q4), .second, .val (.int (5 : Int32)), .val (.ref b_176), .val (.ref b_182), .val (.ref t__183)] [])
    refine Go.st (fun _ => XS.iconst X_213.here hx rfl (hb hby at_274)) ?_
    show Go p e below s _ _ _ T_213 (mkF m 275 #[.val (.int k), .val (.long q0), .second, .val (.long q1), .second, .val (.long q2), .second, .val (.long q3), .second, .val (.long q4), .second, .val (.int (5 : Int32)), .val (.ref b_176), .val (.ref b_182), .val (.ref t__183)] [(.int (1 : Int32))])
    refine Go.st (fun _ => XS.goto X_213.here hx rfl (pc0 := 275) (pc' := 279) rfl (hb hby at_275) (by decide) (by decide)) ?_
    show Go p e below s _ _ _ T_213 (mkF m 279 #[.val (.int k), .val (.long q0), .second, .val (.long q1), .second, .val (.long q2), .second, .val (.long q3), .second, .val (.long q4), .second, .val (.int (5 : Int32)), .val (.ref b_176), .val (.ref b_182), .val (.ref t__183)] [(.int (1 : Int32))])
    exact Go.retZ X_213 hx hlk Bd.returns (hb hby at_279) rfl (by rw [e_213]; exact ⟨rfl, N_213⟩) (by decide) (by decide)
set_option maxRecDepth 65536 in
set_option maxHeartbeats 40000000 in
theorem comes_1 {Post : Tables → Env → Array Value → State → Outcome → State → Prop} (hpost : ∀ tb e args s v u, (limb_1_1.after args s (.returned v) u = true ∧ limb_1_2.after args s (.returned v) u = true ∧ True) → FrameEnd s (.returned v) u (Jvm.fieldLocs frame_1_writes args s ++ Jvm.arrayLocs frame_1_arrays args s ++ Jvm.staticLocs frame_1_statics s) 16 128 → Post tb e args s (.returned v) u) :
    ArmFor flags0 classFile x code maxLocals ret World_1 tables_1 room_1 Calls_1 rest_1 Pre_1 Post := by
  intro l hfl _ _ p e ha hc hk s m args below hf hA hF happ hP
  obtain ⟨hcalls, hrest, hpre⟩ := hP
  obtain ⟨-, -, -, hnamed, -, -, -, hat⟩ := (Spec.applies_iff hf).mp happ
  obtain ⟨hg, hn⟩ := and_e (Cond.before_iff.mp (show (Jvm.Cond.and given_1 narrow_1).before args s = true from hpre))
  obtain ⟨g1, g2⟩ := and_e hg
  obtain ⟨g3, g4⟩ := and_e g2
  obtain ⟨g5, g6⟩ := and_e g4
  obtain ⟨g7, g8⟩ := and_e g6
  obtain ⟨g9, g10⟩ := and_e g8
  obtain ⟨g11, g12⟩ := and_e g10
  obtain ⟨w0, w1, w2, w3, w4, w5, rfl⟩ : ∃ w0 w1 w2 w3 w4 w5 : Value, args = #[w0, w1, w2, w3, w4, w5] := by
    have hs : args.size = 6 := by simpa [Cond.value, given_1] using g1
    obtain ⟨L⟩ := args
    match L, hs with
    | [w0, w1, w2, w3, w4, w5], _ => exact ⟨w0, w1, w2, w3, w4, w5, rfl⟩
  have hw := fun d (hd : d ∈ tables_1) => atoms_spec (ws := Jvm.Cond.code x code maxLocals ret :: tables_1) hat d (List.mem_cons_of_mem _ hd)
  have hfit : Fit s := fun {y c} hc i hi => by
    obtain ⟨ha, rfl⟩ := Array.getElem?_eq_some_iff.mp hc
    have q := List.all_eq_true.mp ((Array.all_eq_true_iff_forall_mem.mp hF) _ (Array.getElem_mem ha)) i (List.mem_range.mpr hi)
    simpa [Array.getElem?_eq_getElem hi] using q
  obtain ⟨i0, ei0⟩ := is_v g3
  obtain rfl : w0 = (.int i0) := Option.some.inj ei0
  obtain ⟨i1, ei1⟩ := isL_v g5
  obtain rfl : w1 = (.long i1) := Option.some.inj ei1
  obtain ⟨i2, ei2⟩ := isL_v g7
  obtain rfl : w2 = (.long i2) := Option.some.inj ei2
  obtain ⟨i3, ei3⟩ := isL_v g9
  obtain rfl : w3 = (.long i3) := Option.some.inj ei3
  obtain ⟨i4, ei4⟩ := isL_v g11
  obtain rfl : w4 = (.long i4) := Option.some.inj ei4
  obtain ⟨i5, ei5⟩ := isL_v g12
  obtain rfl : w5 = (.long i5) := Option.some.inj ei5
  obtain ⟨n, o, h1, h2, h3, _, L, rfl, ⟨rfl, N⟩, hq⟩ := rm0 l s _ hw tables_1 i0 i1 i2 i3 i4 i5 s.heap s.heap.size (Nat.le_refl _)  p e ha hc hk s m _ below hf ((Spec.applies_iff_loose hf).mp happ).1 ⟨rfl, State.Warmed39.refl s, rfl⟩ trivial
  refine ⟨n, _, h1, h2, h3, hpost _ _ _ _ _ _ ⟨Cond.after_iff.mpr rfl, Cond.after_iff.mpr (eq_i res_at (Term.int_eval (1)) rfl), trivial⟩ ⟨hq.1, hq.2.1, (hq.2.2.sift fun y hy => Or.inr (N y hy)).mono (by decide) (by decide)⟩⟩
theorem main_1_1 : Claimed_1_1 := comes_1 fun _ _ _ _ _ _ h hF => ⟨h.1, hF⟩
theorem main_1_2 : Claimed_1_2 := comes_1 fun _ _ _ _ _ _ h hF => ⟨h.2.1, hF⟩
end Jvm.Pilot.@@N@@
namespace Jvm.Pilot.@@N@@
open Jvm Jvm.ClassFile Sem Op Lib Jvm.Free Jvm.Stand Jvm.Pilot.@@N@@.Jvm.D
/-! MADE BY PROGRAM (witnessworld.py) out of the Statement's table words and the real class files: 11 classes; the members and pool entries that the words name. The judged class is class 1, her method 2. -/
namespace start1
open Jvm.ClassFile
def u (s : String) : CpInfo := .utf8 (stringToUtf16 s)
/-- a pool by its gaps: so many unusable entries, then the entry; so many at the end -/
def gap : Nat → List CpInfo → List CpInfo
  | 0, r => r
  | n + 1, r => .unusable :: gap n r
def poolList (es : List (Nat × CpInfo)) (last : Nat) : List CpInfo := es.foldr (fun e r => gap e.1 (e.2 :: r)) (gap last [])
def pool (es : List (Nat × CpInfo)) (last : Nat) : Array CpInfo := ⟨poolList es last⟩
def fileOf (pool : Array CpInfo) (this : Nat) (attrs : Array Attribute := #[]) (ms : Array MethodInfo := #[]) (fl : Nat := 33) (sup : Nat := 0) (ifs : Array Nat := #[]) (fds : Array FieldInfo := #[]) : ClassFile where
  minorVersion := 0
  majorVersion := 65
  constantPool := pool
  accessFlags := fl
  thisClass := this
  superClass := sup
  interfaces := ifs
  fields := fds
  methods := ms
  attributes := attrs
def plain (name : String) (sup : Option ClassId) : Class where
  name := name
  kind := .ordinary
  loader := none
  accessFlags := 33
  super := sup
  interfaces := #[]
  cf := none
  fields := #[]
  methods := #[]
  instanceTypes := #[]
  staticTypes := #[]
  resolved := #[]
  callSites := []
  init := .initialized
  statics := none
  mirror := none

def pool0 : Array CpInfo := pool [(5, u "<init>"), (0, u "()V"), (1, .class_ 10), (1, u "java/lang/Object")] 113

def k0c0 : Code := { maxStack := 0, maxLocals := 1, code := object_method_1_code, exceptionTable := #[], attributes := #[] }
def k0m0 : Method := { name := "<init>", desc := "()V", sig := { parameters := [], returnType := none }, accessFlags := 1, code := some k0c0 }
/-- java/lang/Object -/
def k0 : Class := { plain "java/lang/Object" none with
  accessFlags := 33
  interfaces := #[]
  cf := some (fileOf pool0 8 #[] #[{ accessFlags := 1, nameIndex := 5, descriptorIndex := 6, attributes := #[] }] 33 0 #[] #[])
  fields := #[]
  methods := #[k0m0]
  instanceTypes := #[]
  staticTypes := #[]
  resolved := Array.replicate 124 none
  statics := none }

def pool1 : Array CpInfo := pool [(2, .class_ 4), (0, .nameAndType 5 6), (0, u "java/lang/Object"), (0, u "<init>"), (0, u "()V"), (0, .integer 2147483647), (0, .class_ 9), (0, u "com/example/moat/moat/xpath/Handles"), (0, .methodref 8 3), (0, .methodref 8 12), (0, .nameAndType 13 14), (0, u "add"), (0, u "(J)V"), (0, .methodref 8 16), (0, .nameAndType 17 6), (0, u "reverse"), (0, .methodref 8 19), (0, .nameAndType 20 21), (0, u "size"), (0, u "()I"), (0, .methodref 8 23), (0, .nameAndType 24 25), (0, u "array"), (0, u "()[J"), (0, .methodref 27 28), (0, .class_ 29), (0, .nameAndType 30 31), (0, u "com/example/moat/moat/xpath/HandlesReversePinLaw"), (0, u "exp"), (0, u "([JII)J"), (3, u "law"), (0, u "(IJJJJJ)Z")] 4

def k1m0 : Method := { name := "<init>", desc := "()V", sig := { parameters := [], returnType := none }, accessFlags := 2, code := none }
def k1c1 : Code := { maxStack := 3, maxLocals := 3, code := method_2_code, exceptionTable := #[], attributes := #[] }
def k1m1 : Method := { name := "exp", desc := "([JII)J", sig := { parameters := [(.array .long), .int, .int], returnType := some .long }, accessFlags := 10, code := some k1c1 }
def k1c2 : Code := { maxStack := 5, maxLocals := 15, code := code, exceptionTable := #[], attributes := #[] }
def k1m2 : Method := { name := "law", desc := "(IJJJJJ)Z", sig := { parameters := [.int, .long, .long, .long, .long, .long], returnType := some .boolean }, accessFlags := 9, code := some k1c2 }
/-- com/example/moat/moat/xpath/HandlesReversePinLaw -/
def k1 : Class := { plain "com/example/moat/moat/xpath/HandlesReversePinLaw" (some 0) with
  accessFlags := 49
  interfaces := #[]
  cf := some (fileOf pool1 27 #[] #[{ accessFlags := 2, nameIndex := 5, descriptorIndex := 6, attributes := #[] }, { accessFlags := 10, nameIndex := 30, descriptorIndex := 31, attributes := #[] }, { accessFlags := 9, nameIndex := 35, descriptorIndex := 36, attributes := #[] }] 49 2 #[] #[])
  fields := #[]
  methods := #[k1m0, k1m1, k1m2]
  instanceTypes := #[]
  staticTypes := #[]
  resolved := Array.replicate 41 none
  statics := none }

def pool2 : Array CpInfo := pool [(1, .methodref 2 3), (0, .class_ 4), (0, .nameAndType 5 6), (0, u "java/lang/Object"), (0, u "<init>"), (0, u "()V"), (0, .fieldref 8 9), (0, .class_ 10), (0, .nameAndType 11 12), (0, u "com/example/moat/moat/xpath/Handles"), (0, u "nodes"), (0, u "[J"), (0, .fieldref 8 14), (0, .nameAndType 15 16), (0, u "size"), (0, u "I"), (8, u "add"), (0, u "(J)V"), (4, u "()I"), (10, u "reverse"), (0, u "array"), (0, u "()[J")] 2

def k2c0 : Code := { maxStack := 2, maxLocals := 1, code := prog_52_method_1_code, exceptionTable := #[], attributes := #[] }
def k2m0 : Method := { name := "<init>", desc := "()V", sig := { parameters := [], returnType := none }, accessFlags := 0, code := some k2c0 }
def k2c1 : Code := { maxStack := 5, maxLocals := 3, code := prog_52_method_2_code, exceptionTable := #[], attributes := #[] }
def k2m1 : Method := { name := "add", desc := "(J)V", sig := { parameters := [.long], returnType := none }, accessFlags := 0, code := some k2c1 }
def k2c2 : Code := { maxStack := 1, maxLocals := 1, code := prog_52_method_6_code, exceptionTable := #[], attributes := #[] }
def k2m2 : Method := { name := "size", desc := "()I", sig := { parameters := [], returnType := some .int }, accessFlags := 0, code := some k2c2 }
def k2c3 : Code := { maxStack := 4, maxLocals := 5, code := prog_52_method_7_code, exceptionTable := #[], attributes := #[] }
def k2m3 : Method := { name := "reverse", desc := "()V", sig := { parameters := [], returnType := none }, accessFlags := 0, code := some k2c3 }
def k2c4 : Code := { maxStack := 1, maxLocals := 1, code := prog_52_method_8_code, exceptionTable := #[], attributes := #[] }
def k2m4 : Method := { name := "array", desc := "()[J", sig := { parameters := [], returnType := some (.array .long) }, accessFlags := 0, code := some k2c4 }
/-- com/example/moat/moat/xpath/Handles -/
def k2 : Class := { plain "com/example/moat/moat/xpath/Handles" (some 0) with
  accessFlags := 48
  interfaces := #[]
  cf := some (fileOf pool2 8 #[] #[{ accessFlags := 0, nameIndex := 5, descriptorIndex := 6, attributes := #[] }, { accessFlags := 0, nameIndex := 25, descriptorIndex := 26, attributes := #[] }, { accessFlags := 0, nameIndex := 15, descriptorIndex := 31, attributes := #[] }, { accessFlags := 0, nameIndex := 42, descriptorIndex := 6, attributes := #[] }, { accessFlags := 0, nameIndex := 43, descriptorIndex := 44, attributes := #[] }] 48 2 #[] #[{ accessFlags := 2, nameIndex := 11, descriptorIndex := 12, attributes := #[] }, { accessFlags := 2, nameIndex := 15, descriptorIndex := 16, attributes := #[] }])
  fields := #[{ name := "nodes", type := (.array .long), accessFlags := 2, slot := 0, constantValue := 0 }, { name := "size", type := .int, accessFlags := 2, slot := 1, constantValue := 0 }]
  methods := #[k2m0, k2m1, k2m2, k2m3, k2m4]
  instanceTypes := #[(.array .long), .int]
  staticTypes := #[]
  resolved := Array.replicate 47 none
  statics := none }

def pool3 : Array CpInfo := pool [(1, u "java/lang/Cloneable"), (0, .class_ 1), (0, u "java/lang/Object"), (0, .class_ 3)] 3

/-- java/lang/Cloneable -/
def k3 : Class := { plain "java/lang/Cloneable" (some 0) with
  accessFlags := 1537
  interfaces := #[]
  cf := some (fileOf pool3 2 #[] #[] 1537 4 #[] #[])
  fields := #[]
  methods := #[]
  instanceTypes := #[]
  staticTypes := #[]
  resolved := Array.replicate 8 none
  statics := none }

def pool4 : Array CpInfo := pool [(1, u "java/io/Serializable"), (0, .class_ 1), (0, u "java/lang/Object"), (0, .class_ 3)] 3

/-- java/io/Serializable -/
def k4 : Class := { plain "java/io/Serializable" (some 0) with
  accessFlags := 1537
  interfaces := #[]
  cf := some (fileOf pool4 2 #[] #[] 1537 4 #[] #[])
  fields := #[]
  methods := #[]
  instanceTypes := #[]
  staticTypes := #[]
  resolved := Array.replicate 8 none
  statics := none }

/-- the primitive byte -/
def k5 : Class := { plain "byte" none with kind := .primitive 'B', accessFlags := 0x411 }
/-- [B -/
def k6 : Class := { plain "[B" (some 0) with kind := .array 5 .byte, interfaces := #[3, 4], accessFlags := 1041 }

/-- the primitive int -/
def k7 : Class := { plain "int" none with kind := .primitive 'I', accessFlags := 0x411 }
/-- [I -/
def k8 : Class := { plain "[I" (some 0) with kind := .array 7 .int, interfaces := #[3, 4], accessFlags := 1041 }

/-- the primitive long -/
def k9 : Class := { plain "long" none with kind := .primitive 'J', accessFlags := 0x411 }
/-- [J -/
def k10 : Class := { plain "[J" (some 0) with kind := .array 9 .long, interfaces := #[3, 4], accessFlags := 1041 }

def heap : Heap := #[]
def classes : Array Class := #[k0, k1, k2, k3, k4, k5, k6, k7, k8, k9, k10]
def interned : List (Array UInt16 × Addr) := []
def slotsUsed : Nat := 0
def theMethod : MethodId := ⟨1, 2⟩
def args0 : Array Value := #[.int 5, .long 0, .long 1, .long 2, .long 3, .long 4]
def aboutOver (below : List Frame) : State where
  vm := { classes := classes, interned := interned.toArray }
  heap := heap
  slotsUsed := slotsUsed
  threads := #[{ frames := .invoking theMethod args0 :: below }]
def below0 : List Frame := [.native { method := ⟨0, 0⟩, args := #[] }]
def about1 : State := aboutOver below0
def p0 : Program := .bare "" "" ""
def e0 : Env := launch0.env 0 0 0
theorem w_frames : about1.frames = Frame.invoking theMethod args0 :: below0 := rfl
set_option maxRecDepth 65536 in
theorem w_args : argsFit about1.vm theMethod args0 = true := by decide +kernel
set_option maxRecDepth 65536 in
theorem w_heap : heapFits about1 = true := by decide +kernel
set_option maxRecDepth 65536 in
theorem w_runnable : about1.curStatus? = some .runnable := by decide +kernel
set_option maxRecDepth 65536 in
theorem w_alone : about1.alone = true := by decide +kernel
set_option maxRecDepth 65536 in
theorem w_named : about1.methodNamed? x = some theMethod := by decide +kernel
set_option maxRecDepth 65536 in
theorem w_hears : about1.hears theMethod below0 = true := by decide +kernel
set_option maxRecDepth 65536 in
theorem w_ripe : about1.ripe theMethod args0 below0 = true := by decide +kernel
theorem w_running : about1.status = .running := rfl
set_option maxRecDepth 65536 in
theorem w_room : about1.hasRoom e0.platform room_1 = true :=
  launch0.hasRoom_least _ room_1 (by decide +kernel) (by decide +kernel) (by decide +kernel) (by decide +kernel) (by decide +kernel) (by decide +kernel)
theorem allAtoms_all (ts : List Jvm.Cond) (a : Array Jvm.Value) (st : Jvm.State) : (allAtoms ts).before a st = ts.all (fun c => c.before a st) := by
  induction ts with
  | nil => rfl
  | cons c t ih =>
    show (Jvm.Cond.and c (allAtoms t)).before a st = _
    rw [Jvm.Cond.before_and, ih, List.all_cons]
def words1 : List Jvm.Cond := Jvm.Cond.code x code maxLocals ret :: tables_1
/-- a 'code' word, met by the world's own term for the bytes: nothing is compared byte by byte -/
theorem code_word {y : MethodName} {bytes : ByteArray} {mx : Nat} {rt : Option FieldType} {a : Array Value} {s : State} {m : MethodId} {meth : Method} {c : Code} (h1 : s.methodNamed? y = some m) (h2 : s.vm.method? m = some meth) (h3 : meth.code = some c) (h4 : c.code = bytes)
    (h5 : (c.maxLocals == mx && c.exceptionTable.isEmpty && decide (c.maxStack ≤ mostOperands) && decide (meth.sig.returnType = rt) && !meth.locks && decide (parseMethodDescriptor y.desc = some meth.sig)) = true) : (Jvm.Cond.code y bytes mx rt).before a s = true := by
  simp only [Bool.and_eq_true, beq_iff_eq, Bool.not_eq_true', decide_eq_true_eq] at h5
  obtain ⟨⟨⟨⟨⟨g1, g2⟩, g3⟩, g4⟩, g5⟩, g6⟩ := h5
  simp [Cond.before, Cond.holds, Cond.value, h1, h2, h3, h4, g1, g2, g3, g4, g5, g6]
def isCode : Jvm.Cond → Bool
  | .code _ _ _ _ => true
  | _ => false
theorem all_split {L : List Jvm.Cond} {P : Jvm.Cond → Bool} (h1 : L.all (fun c => isCode c || P c) = true) (h2 : ∀ c ∈ L.filter isCode, P c = true) : L.all P = true := by
  refine List.all_eq_true.mpr fun c hc => ?_
  have h := List.all_eq_true.mp h1 c hc
  rcases Bool.eq_false_or_eq_true (isCode c) with hi | hi
  · exact h2 c (List.mem_filter.mpr ⟨hc, hi⟩)
  · simpa [hi] using h
set_option maxRecDepth 65536 in
theorem w_c0 : (Jvm.Cond.code x code maxLocals ret).before args0 about1 = true := code_word (m := ⟨1, 2⟩) (meth := k1m2) (c := k1c2) (by decide +kernel) rfl rfl rfl (by decide +kernel)
set_option maxRecDepth 65536 in
theorem w_c1 : (Jvm.Cond.code ({ cls := "com/example/moat/moat/xpath/Handles", name := "<init>", desc := "()V" } : Jvm.MethodName) prog_52_method_1_code (1 : Nat) (Option.none : Option Jvm.ClassFile.FieldType)).before args0 about1 = true := code_word (m := ⟨2, 0⟩) (meth := k2m0) (c := k2c0) (by decide +kernel) rfl rfl rfl (by decide +kernel)
set_option maxRecDepth 65536 in
theorem w_c2 : (Jvm.Cond.code ({ cls := "java/lang/Object", name := "<init>", desc := "()V" } : Jvm.MethodName) object_method_1_code (1 : Nat) (Option.none : Option Jvm.ClassFile.FieldType)).before args0 about1 = true := code_word (m := ⟨0, 0⟩) (meth := k0m0) (c := k0c0) (by decide +kernel) rfl rfl rfl (by decide +kernel)
set_option maxRecDepth 65536 in
theorem w_c3 : (Jvm.Cond.code ({ cls := "com/example/moat/moat/xpath/Handles", name := "reverse", desc := "()V" } : Jvm.MethodName) prog_52_method_7_code (5 : Nat) (Option.none : Option Jvm.ClassFile.FieldType)).before args0 about1 = true := code_word (m := ⟨2, 3⟩) (meth := k2m3) (c := k2c3) (by decide +kernel) rfl rfl rfl (by decide +kernel)
set_option maxRecDepth 65536 in
theorem w_c4 : (Jvm.Cond.code ({ cls := "com/example/moat/moat/xpath/Handles", name := "size", desc := "()I" } : Jvm.MethodName) prog_52_method_6_code (1 : Nat) (Option.some Jvm.ClassFile.FieldType.int)).before args0 about1 = true := code_word (m := ⟨2, 2⟩) (meth := k2m2) (c := k2c2) (by decide +kernel) rfl rfl rfl (by decide +kernel)
set_option maxRecDepth 65536 in
theorem w_c5 : (Jvm.Cond.code ({ cls := "com/example/moat/moat/xpath/Handles", name := "array", desc := "()[J" } : Jvm.MethodName) prog_52_method_8_code (1 : Nat) (Option.some (Jvm.ClassFile.FieldType.array Jvm.ClassFile.FieldType.long))).before args0 about1 = true := code_word (m := ⟨2, 4⟩) (meth := k2m4) (c := k2c4) (by decide +kernel) rfl rfl rfl (by decide +kernel)
set_option maxRecDepth 65536 in
theorem w_c6 : (Jvm.Cond.code ({ cls := "com/example/moat/moat/xpath/HandlesReversePinLaw", name := "exp", desc := "([JII)J" } : Jvm.MethodName) method_2_code (3 : Nat) (Option.some Jvm.ClassFile.FieldType.long)).before args0 about1 = true := code_word (m := ⟨1, 1⟩) (meth := k1m1) (c := k1c1) (by decide +kernel) rfl rfl rfl (by decide +kernel)
set_option maxRecDepth 65536 in
theorem w_c7 : (Jvm.Cond.code ({ cls := "com/example/moat/moat/xpath/Handles", name := "add", desc := "(J)V" } : Jvm.MethodName) prog_52_method_2_code (3 : Nat) (Option.none : Option Jvm.ClassFile.FieldType)).before args0 about1 = true := code_word (m := ⟨2, 1⟩) (meth := k2m1) (c := k2c1) (by decide +kernel) rfl rfl rfl (by decide +kernel)
def codes1 : List Jvm.Cond := [Jvm.Cond.code x code maxLocals ret, Jvm.Cond.code ({ cls := "com/example/moat/moat/xpath/Handles", name := "<init>", desc := "()V" } : Jvm.MethodName) prog_52_method_1_code (1 : Nat) (Option.none : Option Jvm.ClassFile.FieldType), Jvm.Cond.code ({ cls := "java/lang/Object", name := "<init>", desc := "()V" } : Jvm.MethodName) object_method_1_code (1 : Nat) (Option.none : Option Jvm.ClassFile.FieldType), Jvm.Cond.code ({ cls := "com/example/moat/moat/xpath/Handles", name := "reverse", desc := "()V" } : Jvm.MethodName) prog_52_method_7_code (5 : Nat) (Option.none : Option Jvm.ClassFile.FieldType), Jvm.Cond.code ({ cls := "com/example/moat/moat/xpath/Handles", name := "size", desc := "()I" } : Jvm.MethodName) prog_52_method_6_code (1 : Nat) (Option.some Jvm.ClassFile.FieldType.int), Jvm.Cond.code ({ cls := "com/example/moat/moat/xpath/Handles", name := "array", desc := "()[J" } : Jvm.MethodName) prog_52_method_8_code (1 : Nat) (Option.some (Jvm.ClassFile.FieldType.array Jvm.ClassFile.FieldType.long)), Jvm.Cond.code ({ cls := "com/example/moat/moat/xpath/HandlesReversePinLaw", name := "exp", desc := "([JII)J" } : Jvm.MethodName) method_2_code (3 : Nat) (Option.some Jvm.ClassFile.FieldType.long), Jvm.Cond.code ({ cls := "com/example/moat/moat/xpath/Handles", name := "add", desc := "(J)V" } : Jvm.MethodName) prog_52_method_2_code (3 : Nat) (Option.none : Option Jvm.ClassFile.FieldType)]
set_option maxRecDepth 65536 in
theorem codes_eq : words1.filter isCode = codes1 := rfl
theorem w_codes : ∀ c ∈ words1.filter isCode, c.before args0 about1 = true := by
  rw [codes_eq]
  intro c hc
  simp only [codes1, List.mem_cons, List.not_mem_nil, or_false] at hc
  rcases hc with rfl | rfl | rfl | rfl | rfl | rfl | rfl | rfl
  · exact w_c0
  · exact w_c1
  · exact w_c2
  · exact w_c3
  · exact w_c4
  · exact w_c5
  · exact w_c6
  · exact w_c7
set_option maxRecDepth 65536 in
theorem w_t1 : (words1.take 24).all (fun c => isCode c || c.before args0 about1) = true := by decide +kernel
set_option maxRecDepth 65536 in
theorem w_t2 : (words1.drop 24).all (fun c => isCode c || c.before args0 about1) = true := by decide +kernel
theorem w_tables : (allAtoms (Jvm.Cond.code x code maxLocals ret :: tables_1)).before args0 about1 = true := by
  rw [allAtoms_all]
  show words1.all (fun c => c.before args0 about1) = true
  refine all_split ?_ w_codes
  rw [← List.take_append_drop 24 words1, List.all_append, w_t1, w_t2]
  rfl
set_option maxRecDepth 65536 in
theorem w_case : (Jvm.Cond.and given_1 narrow_1).before args0 about1 = true := by decide +kernel
theorem w_applies : (headSpec (Jvm.Cond.code x code maxLocals ret :: tables_1) room_1).applies x e0.platform about1 = true :=
  (Spec.applies_iff w_frames).mpr ⟨w_running, w_runnable, w_alone, w_named, w_hears, w_ripe, w_room, w_tables⟩
theorem atStart : AtStart classFile x code maxLocals ret World_1 tables_1 room_1 Calls_1 rest_1 Pre_1 launch0 p0 e0 about1 theMethod args0 below0 :=
  ⟨lists_1, trivial, launch0.admits_env _ _ _, launch0.least_env, fairChoices_fair.cas, fairChoices_fair.clock, w_frames, w_args, w_heap, w_applies, trivial, trivial, w_case⟩
end start1
theorem witness_1 : WitnessClaimed_1 := ⟨start1.p0, start1.e0, start1.about1, start1.theMethod, start1.args0, start1.below0, start1.atStart⟩
end Jvm.Pilot.@@N@@
