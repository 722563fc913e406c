import JvmDerived
import JvmDerived.Pilot.@@N@@Statement
import JvmDerived.Pilot.@@N@@Code
set_option linter.unusedVariables false
set_option linter.unusedSimpArgs false
namespace Jvm.OwnKit
open Sem ClassFile Op Lib Jvm.Stand Jvm.Free Jvm.LawKit Jvm.RoadKit
/-- from the frame g over T the run ends, and what it leaves is Q's -/
def Go (p : Program) (e : Env) (below : List Frame) (s : State) (Q : Option Value → Heap → List Loc → Prop) (C S : Nat) (T : State) (g : JFrame) : Prop :=
  ∃ s₂ o, Steps p.tables e below (T.setTop g) s₂ ∧ s₂.status = .running ∧ Ended s₂ below o ∧ ∃ v L, o = .returned v ∧ Q v s₂.heap L ∧ FrameEnd s o s₂ L C S
section OwnGo
variable {p : Program} {l : Launch} {e : Env} {R : Room} {s : State} {m : MethodId} {args : Array Value} {below : List Frame} {meth : Method} {c : Code} {T T' : State} {locs : List Loc} {cells slots : Nat} {Q : Option Value → Heap → List Loc → Prop} {C S : Nat} {g g' : JFrame}
theorem Go.st (h : ∀ t, Steps p.tables e below (T'.setTop g') t → Steps p.tables e below (T.setTop g) t) (k : Go p e below s Q C S T' g') : Go p e below s Q C S T g := by
  obtain ⟨s₂, o, h1, h2⟩ := k
  exact ⟨s₂, o, h _ h1, h2⟩
theorem Go.eq (q : g = g') (k : Go p e below s Q C S T g') : Go p e below s Q C S T g := q ▸ k
theorem Go.retV (X : Stand p l e R s m args below meth c T locs cells slots) (hx : p.tables.exec = Jvm.exec) (hlk : meth.locks = false) {pc : Nat} {Ls : Array Slot} {w : Value} {t : FieldType} {i : Instr} {rest : List Value} (hret : meth.sig.returnType = some t) (hn : narrow t w = w)
    (hi : (i = .ireturn ∧ (t = .int ∨ t = .boolean ∨ t = .byte ∨ t = .char ∨ t = .short) ∧ ∃ z, w = .int z) ∨ (i = .lreturn ∧ t = .long ∧ ∃ z, w = .long z) ∨ (i = .dreturn ∧ t = .double ∧ ∃ z, w = .double z) ∨ (i = .freturn ∧ t = .float ∧ ∃ z, w = .float z) ∨ (i = .areturn ∧ t.isReference = true ∧ w.isRef = true))
    (hd : decode c.code pc = .ok (i, 1)) (hQ : Q (some w) T.heap locs) (hc : cells ≤ C) (hs : slots ≤ S) : Go p e below s Q C S T (mkF m pc Ls (w :: rest)) := by
  obtain ⟨fs, hr, hrun, hended, hW, hsame⟩ := X.leave (v := some w) (fun h => by rw [hret] at h; cases h) hlk
  exact ⟨_, _, retOut X hx hret hn hi hd hr, hrun, hended, _, _, rfl, hQ, ⟨_, rfl⟩, hW, hsame.mono hc hs⟩
theorem Go.retI (X : Stand p l e R s m args below meth c T locs cells slots) (hx : p.tables.exec = Jvm.exec) (hlk : meth.locks = false) {pc : Nat} {Ls : Array Slot} {z : Int32} {rest : List Value} (hret : meth.sig.returnType = some .int) (hd : decode c.code pc = .ok (.ireturn, 1)) (hQ : Q (some (.int z)) T.heap locs) (hc : cells ≤ C) (hs : slots ≤ S) : Go p e below s Q C S T (mkF m pc Ls (.int z :: rest)) :=
  Go.retV X hx hlk hret rfl (Or.inl ⟨rfl, Or.inl rfl, _, rfl⟩) hd hQ hc hs
theorem Go.retZ (X : Stand p l e R s m args below meth c T locs cells slots) (hx : p.tables.exec = Jvm.exec) (hlk : meth.locks = false) {pc : Nat} {Ls : Array Slot} {z : Int32} {rest : List Value} (hret : meth.sig.returnType = some .boolean) (hd : decode c.code pc = .ok (.ireturn, 1)) (hn : narrow .boolean (.int z) = .int z) (hQ : Q (some (.int z)) T.heap locs) (hc : cells ≤ C) (hs : slots ≤ S) : Go p e below s Q C S T (mkF m pc Ls (.int z :: rest)) :=
  Go.retV X hx hlk hret hn (Or.inl ⟨rfl, Or.inr (Or.inl rfl), _, rfl⟩) hd hQ hc hs
theorem Go.retB (X : Stand p l e R s m args below meth c T locs cells slots) (hx : p.tables.exec = Jvm.exec) (hlk : meth.locks = false) {pc : Nat} {Ls : Array Slot} {z : Int32} {rest : List Value} (hret : meth.sig.returnType = some .byte) (hd : decode c.code pc = .ok (.ireturn, 1)) (hn : narrow .byte (.int z) = .int z) (hQ : Q (some (.int z)) T.heap locs) (hc : cells ≤ C) (hs : slots ≤ S) : Go p e below s Q C S T (mkF m pc Ls (.int z :: rest)) :=
  Go.retV X hx hlk hret hn (Or.inl ⟨rfl, Or.inr (Or.inr (Or.inl rfl)), _, rfl⟩) hd hQ hc hs
theorem Go.retC (X : Stand p l e R s m args below meth c T locs cells slots) (hx : p.tables.exec = Jvm.exec) (hlk : meth.locks = false) {pc : Nat} {Ls : Array Slot} {z : Int32} {rest : List Value} (hret : meth.sig.returnType = some .char) (hd : decode c.code pc = .ok (.ireturn, 1)) (hn : narrow .char (.int z) = .int z) (hQ : Q (some (.int z)) T.heap locs) (hc : cells ≤ C) (hs : slots ≤ S) : Go p e below s Q C S T (mkF m pc Ls (.int z :: rest)) :=
  Go.retV X hx hlk hret hn (Or.inl ⟨rfl, Or.inr (Or.inr (Or.inr (Or.inl rfl))), _, rfl⟩) hd hQ hc hs
theorem Go.retJ (X : Stand p l e R s m args below meth c T locs cells slots) (hx : p.tables.exec = Jvm.exec) (hlk : meth.locks = false) {pc : Nat} {Ls : Array Slot} {z : Int64} {rest : List Value} (hret : meth.sig.returnType = some .long) (hd : decode c.code pc = .ok (.lreturn, 1)) (hQ : Q (some (.long z)) T.heap locs) (hc : cells ≤ C) (hs : slots ≤ S) : Go p e below s Q C S T (mkF m pc Ls (.long z :: rest)) :=
  Go.retV X hx hlk hret rfl (Or.inr (Or.inl ⟨rfl, rfl, _, rfl⟩)) hd hQ hc hs
theorem own_nar_ref {t : FieldType} {w : Value} (hw : w.isRef = true) : narrow t w = w := by
  rcases ref_cases hw with rfl | ⟨_, rfl⟩ <;> cases t <;> rfl
theorem Go.retA (X : Stand p l e R s m args below meth c T locs cells slots) (hx : p.tables.exec = Jvm.exec) (hlk : meth.locks = false) {pc : Nat} {Ls : Array Slot} {w : Value} {t : FieldType} {rest : List Value} (hret : meth.sig.returnType = some t) (ht : t.isReference = true) (hw : w.isRef = true) (hd : decode c.code pc = .ok (.areturn, 1)) (hQ : Q (some w) T.heap locs) (hc : cells ≤ C) (hs : slots ≤ S) : Go p e below s Q C S T (mkF m pc Ls (w :: rest)) :=
  Go.retV X hx hlk hret (own_nar_ref hw) (Or.inr (Or.inr (Or.inr (Or.inr ⟨rfl, ht, hw⟩)))) hd hQ hc hs
theorem Go.ret0 (X : Stand p l e R s m args below meth c T locs cells slots) (hx : p.tables.exec = Jvm.exec) (hlk : meth.locks = false) {pc : Nat} {Ls : Array Slot} (hret : meth.sig.returnType = none) (hd : decode c.code pc = .ok (.return_, 1)) (hQ : Q none T.heap locs) (hc : cells ≤ C) (hs : slots ≤ S) : Go p e below s Q C S T (mkF m pc Ls []) := by
  obtain ⟨fs, hr, hrun, hended, hW, hsame⟩ := X.leave (v := none) (fun _ => rfl) hlk
  exact ⟨_, _, X.returnOut hx hret hd hr, hrun, hended, _, _, rfl, hQ, ⟨_, rfl⟩, hW, hsame.mono hc hs⟩
end OwnGo
/-- a proposition as Java's boolean -/
def b2i (P : Prop) [Decidable P] : Int32 := if P then 1 else 0
theorem b2i_pos {P : Prop} [Decidable P] (h : P) : b2i P = 1 := if_pos h
theorem b2i_neg {P : Prop} [Decidable P] (h : ¬ P) : b2i P = 0 := if_neg h
theorem b2i_ne {P : Prop} [Decidable P] (h : P) : ¬ b2i P = 0 := by rw [b2i_pos h]; decide
theorem b2i_zero {P : Prop} [Decidable P] (h : ¬ P) : b2i P = 0 := b2i_neg h
theorem own_b2i_t {P : Prop} [Decidable P] (h : P) : some (Value.int 1) = some (Value.int (b2i P)) := by rw [b2i_pos h]
theorem own_b2i_f {P : Prop} [Decidable P] (h : ¬ P) : some (Value.int 0) = some (Value.int (b2i P)) := by rw [b2i_neg h]
theorem own_nb (y : Int32) : nar .byte (y.toInt8.toInt32) = y.toInt8.toInt32 := by
  show y.toInt8.toInt32.toInt8.toInt32 = y.toInt8.toInt32
  simp
theorem own_nc (y : Int32) : nar .char (y.toUInt32.toUInt16.toUInt32.toInt32) = y.toUInt32.toUInt16.toUInt32.toInt32 := by
  show (y.toUInt32.toUInt16.toUInt32.toInt32).toUInt32.toUInt16.toUInt32.toInt32 = y.toUInt32.toUInt16.toUInt32.toInt32
  rw [UInt32.toUInt32_toInt32, UInt16.toUInt16_toUInt32]
theorem own_nbv (y : Int32) : narrow .byte (.int (y.toInt8.toInt32)) = .int (y.toInt8.toInt32) := congrArg Value.int (own_nb y)
theorem own_and1 (a : Int32) : a &&& (1 : Int32) = (0 : Int32) ∨ a &&& (1 : Int32) = (1 : Int32) := and_one a
theorem own_and3 (a : Int32) : a &&& (3 : Int32) = (0 : Int32) ∨ a &&& (3 : Int32) = (1 : Int32) ∨ a &&& (3 : Int32) = (2 : Int32) ∨ a &&& (3 : Int32) = (3 : Int32) := by
  have e := c_mask a 3 2 (by decide) (by decide)
  have h : (a &&& (3 : Int32)).toInt = 0 ∨ (a &&& (3 : Int32)).toInt = 1 ∨ (a &&& (3 : Int32)).toInt = 2 ∨ (a &&& (3 : Int32)).toInt = 3 := by omega
  rcases h with h | h | h | h
  · exact Or.inl (Int32.toInt_inj.mp (h.trans (by decide)))
  · exact Or.inr (Or.inl (Int32.toInt_inj.mp (h.trans (by decide))))
  · exact Or.inr (Or.inr (Or.inl (Int32.toInt_inj.mp (h.trans (by decide)))))
  · exact Or.inr (Or.inr (Or.inr (Int32.toInt_inj.mp (h.trans (by decide)))))
theorem own_ord {s : State} {args : Array Value} {t : Term} {a : Addr} {C n d : String} {k : Int32} (ev : t.eval args s none [] s = some (.ref a)) (h : (Jvm.Cond.eq (Term.field t C n d) (Term.int k)).value args s none s [] = some true) : Fld s s.heap a C n d (.int k) := by
  obtain ⟨u, w, hu, hw, k1, k2⟩ := cmp_v (Or.inl h)
  have hw' : (Term.int k).eval args s none [] s = some (.int k) := Term.int_eval k
  cases hw.symm.trans hw'
  obtain ⟨z, rfl⟩ : ∃ z, u = .int z := k2
  have hz : z = k := gotT (Cond.eq_ints hu hw') h
  subst hz
  exact Fld.start ((fld_at ev).symm.trans hu)
section OwnBounds
variable {c a b : Int32} {n : Int}
theorem own_i1 (h : c < a) (q : a.toInt ≤ b.toInt) : c < b := by rw [Int32.lt_iff_toInt_lt] at *; omega
theorem own_i2 (h : ¬ a < c) (q : a.toInt < b.toInt) : c < b := by rw [Int32.lt_iff_toInt_lt] at *; omega
theorem own_i3 (h : ¬ c < a) (q : b.toInt ≤ a.toInt) : ¬ c < b := by rw [Int32.lt_iff_toInt_lt] at *; omega
theorem own_i4 (h : a < c) (q : b.toInt ≤ a.toInt + 1) : ¬ c < b := by rw [Int32.lt_iff_toInt_lt] at *; omega
theorem own_j1 (h : c < a) (q : a.toInt ≤ b.toInt + 1) : ¬ b < c := by rw [Int32.lt_iff_toInt_lt] at *; omega
theorem own_j2 (h : ¬ a < c) (q : a.toInt ≤ b.toInt) : ¬ b < c := by rw [Int32.lt_iff_toInt_lt] at *; omega
theorem own_j3 (h : ¬ c < a) (q : b.toInt < a.toInt) : b < c := by rw [Int32.lt_iff_toInt_lt] at *; omega
theorem own_j4 (h : a < c) (q : b.toInt ≤ a.toInt) : b < c := by rw [Int32.lt_iff_toInt_lt] at *; omega
theorem own_k1 (h : c < a) (q : a.toInt ≤ b.toInt) : ¬ c = b := fun e => by rw [e, Int32.lt_iff_toInt_lt] at h; omega
theorem own_k2 (h : ¬ a < c) (q : a.toInt < b.toInt) : ¬ c = b := fun e => by rw [e, Int32.lt_iff_toInt_lt] at h; omega
theorem own_k3 (h : ¬ c < a) (q : b.toInt < a.toInt) : ¬ c = b := fun e => by rw [e, Int32.lt_iff_toInt_lt] at h; omega
theorem own_k4 (h : a < c) (q : b.toInt ≤ a.toInt) : ¬ c = b := fun e => by rw [e, Int32.lt_iff_toInt_lt] at h; omega
theorem own_c1 (h : c < a) (q : a.toInt = n) : c.toInt < n := by rw [Int32.lt_iff_toInt_lt] at h; omega
theorem own_c2 (h : ¬ a < c) (q : a.toInt = n) : c.toInt ≤ n := by rw [Int32.lt_iff_toInt_lt] at h; omega
theorem own_c3 (h : ¬ c < a) (q : a.toInt = n) : n ≤ c.toInt := by rw [Int32.lt_iff_toInt_lt] at h; omega
theorem own_c4 (h : a < c) (q : a.toInt = n) : n < c.toInt := by rw [Int32.lt_iff_toInt_lt] at h; omega
theorem own_c5 (h : c = a) (q : a.toInt = n) : c.toInt = n := by rw [h]; exact q
theorem own_c6 (h : ¬ c = a) (q : a.toInt = n) : ¬ c.toInt = n := fun e => h (Int32.toInt_inj.mp (e.trans q.symm))
end OwnBounds
theorem own_addc {a b c d : Int32} (h : b + c = d) : (a + b) + c = a + d := by rw [Int32.add_assoc, h]
theorem own_byte_of {v : Value} (h : fits .byte v = true) : ∃ w, v = .int w ∧ narrow .byte (.int w) = .int w := by
  cases v with
  | int w =>
    refine ⟨w, rfl, ?_⟩
    obtain ⟨h1, h2⟩ := rng_byte h
    have e := c_i2b w
    have e1 : (-128 : Int32).toInt = -128 := by decide
    have e2 : (127 : Int32).toInt = 127 := by decide
    rw [Int32.lt_iff_toInt_lt, e1] at h1
    rw [Int32.lt_iff_toInt_lt, e2] at h2
    have e3 : w.toInt8.toInt32 = w := Int32.toInt_inj.mp (by omega)
    exact congrArg Value.int e3
  | _ => simp [fits] at h
theorem own_arv_nostat {Z : State} {h : Heap} {a : Addr} {k : ClassId} {ty : FieldType} {z : Int32} {vs : List Value} {dv : Value} (F : Arv Z h a k ty z vs dv) : ∀ cell : Cell, h[a]? = some cell → cell.vm.isStatics = false := by
  obtain ⟨c, A, -⟩ := F
  intro cell hc
  cases A.1.symm.trans hc
  exact A.plain
theorem own_selP {s : State} {args args' : Array Value} {y y' : MethodName} (hsel : (Jvm.Cond.selects y'.cls y' y').before args s = true) (he : y.cls = y'.cls) (hp : s.PrivateAt y) (hi : (Jvm.Cond.instanceMethod y).before args s = true) (hy : y.cls ≠ "java/lang/invoke/MethodHandle" ∧ y.cls ≠ "java/lang/invoke/VarHandle") : (Jvm.Cond.selects y.cls y y).before args s = true := by
  obtain ⟨c2, r2, m2, -, -, q3, -, kP, hkP, hkPi⟩ := Cond.selects_spec hsel
  exact Jvm.Stand.selects_self_of_private (by rw [he]; exact findClass_of_methodNamed q3) hkP hkPi hp hi hy
theorem own_irr {a : Int32} : ¬ (a < a) := Int32.lt_irrefl
theorem own_irrL {a : Int64} : ¬ (a < a) := Int64.lt_irrefl
theorem own_sta_keep {Z : State} {h h' : Heap} {C n d : String} {v : Value} {ws : List Addr} (F : Sta Z h C n d v) (K : Keep h h' ws) (q : ∀ x ∈ ws, ∀ cell : Cell, h[x]? = some cell → cell.vm.isStatics = false) : Sta Z h' C n d v := by
  obtain ⟨cf, i, k, f, st, cell, h1, h2, h3, h4, h5, h6, h7⟩ := F
  refine ⟨cf, i, k, f, st, cell, h1, h2, h3, h4, K.2.1 _ _ h5 (fun hm => ?_), h6, h7⟩
  have := q _ hm _ h5
  rw [h6] at this
  cases this
end Jvm.OwnKit
namespace Jvm.Pilot.@@N@@
open Jvm Jvm.ClassFile Sem Op Lib Jvm.Free Jvm.Stand Jvm.LawKit Jvm.RoadKit Jvm.OwnKit Bundle Jvm.Pilot.@@N@@.Jvm.D
theorem own_dec {r : Int32} (h : ¬ r = (-2147483648 : Int32)) : ¬ ¬ ((r - (1 : Int32)) < r) := by
  rw [Int32.lt_iff_toInt_lt]
  have h2 : ¬ r.toInt = -2147483648 := fun q => h (Int32.toInt_inj.mp (q.trans (by decide)))
  have e1 := c_isub r (1 : Int32)
  have e2 := rng32 r
  have e3 := rng32 (r - (1 : Int32))
  have h1 : (1 : Int32).toInt = 1 := by decide
  rw [h1] at e1
  omega
theorem own_top (r : Int32) : ¬ ((2147483647 : Int32) < r) := by
  rw [Int32.lt_iff_toInt_lt]
  have e2 := rng32 r
  have h1 : (2147483647 : Int32).toInt = 2147483647 := by decide
  rw [h1]
  omega
theorem own_up {k g r : Int32} (h1 : ¬ k < g) (h2 : ¬ g < r) : ¬ k < r := by
  rw [Int32.lt_iff_toInt_lt] at *
  omega
theorem d1_0 : decode prog_11_method_1_code 0 = .ok (.aload_n 0, 1) := by decide +kernel
theorem d1_1 : decode prog_11_method_1_code 1 = .ok (.invokespecial 1, 3) := by decide +kernel
theorem d1_4 : decode prog_11_method_1_code 4 = .ok (.aload_n 0, 1) := by decide +kernel
theorem d1_5 : decode prog_11_method_1_code 5 = .ok (.iload_n 1, 1) := by decide +kernel
theorem d1_6 : decode prog_11_method_1_code 6 = .ok (.putfield 7, 3) := by decide +kernel
theorem d1_9 : decode prog_11_method_1_code 9 = .ok (.aload_n 0, 1) := by decide +kernel
theorem d1_10 : decode prog_11_method_1_code 10 = .ok (.iload_n 2, 1) := by decide +kernel
theorem d1_11 : decode prog_11_method_1_code 11 = .ok (.putfield 13, 3) := by decide +kernel
theorem d1_14 : decode prog_11_method_1_code 14 = .ok (.return_, 1) := by decide +kernel
theorem pn_0 : plainName "com/example/sift_sentences/siftsentences/eval/Grading" = true := by first | (simp [plainName, overriddenIn]; done) | decide +kernel
theorem ef_rm1 (m : MethodId) (a : Addr) (r : Int32) (b : Int32) : entryFrame m #[(.ref a), (.int r), (.int b)] 3 = mkF m 0 #[.val (.ref a), .val (.int r), .val (.int b)] [] := by first | (simp [entryFrame, mkF, argsToLocals, Value.category]; done) | rfl
def Qrm1 (Z : State) (a : Addr) (r : Int32) (b : Int32) (h0 : Heap) (n0 : Nat) (rV : Option Value) (hE : Heap) (LE : List Loc) : Prop := rV = none ∧ Fr n0 LE ∧ Keep h0 hE [a] ∧ Exa Z hE a "com/example/sift_sentences/siftsentences/eval/Grading" ∧ Fld Z hE a "com/example/sift_sentences/siftsentences/eval/Grading" "relevantGrade" "I" (.int r)
set_option maxRecDepth 65536 in
set_option maxHeartbeats 40000000 in
theorem rm1 (l : Launch) (Z : State) (a0 : Array Value) (hw : ∀ d ∈ tables_1, d.before a0 Z = true) (ws : List Jvm.Cond) (a : Addr) (r : Int32) (b : Int32) (h0 : Heap) (n0 : Nat) (Z0 : n0 ≤ h0.size) (E_a : Exa Z h0 a "com/example/sift_sentences/siftsentences/eval/Grading") (F_relevantGrade_a : Fld Z h0 a "com/example/sift_sentences/siftsentences/eval/Grading" "relevantGrade" "I" (.int (0 : Int32))) (F_baseGrade_a : Fld Z h0 a "com/example/sift_sentences/siftsentences/eval/Grading" "baseGrade" "I" (.int (0 : Int32))) (g_a : n0 ≤ a) :
    MetFree l (⟨"com/example/sift_sentences/siftsentences/eval/Grading", "<init>", "(II)V"⟩ : MethodName) (head1 (Jvm.Cond.code (⟨"com/example/sift_sentences/siftsentences/eval/Grading", "<init>", "(II)V"⟩ : MethodName) prog_11_method_1_code 3 none :: ws) ({ frames := 1, cells := 0, slots := 0, locals := 12 } : Room)) (fun aA UA => aA = #[(.ref a), (.int r), (.int b)] ∧ Z.Warmed39 UA.vm ∧ UA.heap = h0) (fun _ _ _ _ _ => True) (fun _ UA oA UB => ∃ rV LE, oA = .returned rV ∧ Qrm1 Z a r b h0 n0 rV UB.heap LE ∧ FrameEnd UA oA UB LE ({ frames := 1, cells := 0, slots := 0, locals := 12 } : Room).cells ({ frames := 1, cells := 0, slots := 0, locals := 12 } : Room).slots) := by
  refine MetFree.of_bodySF (plainFor_of_name pn_0) hisR ?_
  intro p e s m args below meth c s₁ Bd hml0 hP hK
  obtain ⟨rfl, hZ, hh⟩ := hP
  have hx := Bd.exec
  have hby := Bd.bytes
  have hml : c.maxLocals = 3 := hml0
  have hown : s.vm.findClass "com/example/sift_sentences/siftsentences/eval/Grading" = some m.cls := findClass_of_methodNamed Bd.named
  have hnm := (name_of_methodNamed Bd.named Bd.method).1
  have hlk := Bd.notSynchronized
  have X0 : Stand p l e ({ frames := 1, cells := 0, slots := 0, locals := 12 } : Room) s m #[(.ref a), (.int r), (.int b)] below meth c s₁ [] 0 0 := Stand.of_body Bd
  have e0 : s₁.heap = h0 := by rw [← hh, Bd.state]; rfl
  have N0 := Fr.nil n0
  show Go p e below s (Qrm1 Z a r b h0 n0) ({ frames := 1, cells := 0, slots := 0, locals := 12 } : Room).cells ({ frames := 1, cells := 0, slots := 0, locals := 12 } : Room).slots s₁ (entryFrame m #[(.ref a), (.int r), (.int b)] 3)
  refine Go.eq (ef_rm1 m a r b) ?_
  show Go p e below s _ _ _ s₁ (mkF m 0 #[.val (.ref a), .val (.int r), .val (.int b)] [])
  refine Go.st (fun _ => XS.aloadN X0.here hx rfl (hb hby d1_0) rfl rfl) ?_
  show Go p e below s _ _ _ s₁ (mkF m 1 #[.val (.ref a), .val (.int r), .val (.int b)] [(.ref a)])
  obtain ⟨T1, X1, e1, st1⟩ := initO X0 hx hZ hown (hw _ (List.mem_of_getElem? (i := 6) rfl)) (hw _ (List.mem_of_getElem? (i := 7) rfl)) (hw _ (List.mem_of_getElem? (i := 8) rfl)) e0 (g := (mkF m 1 #[.val (.ref a), .val (.int r), .val (.int b)] [(.ref a)])) rfl (by rw [hml]; rfl) rfl (hb hby d1_1) (by decide) (W := 0) (by show 2 * 0 + _ ≤ _; exact Nat.le_of_eq rfl) (by decide)
  refine Go.st st1 ?_
  show Go p e below s _ _ _ T1 (mkF m 4 #[.val (.ref a), .val (.int r), .val (.int b)] [])
  refine Go.st (fun _ => XS.aloadN X1.here hx rfl (hb hby d1_4) rfl rfl) ?_
  show Go p e below s _ _ _ T1 (mkF m 5 #[.val (.ref a), .val (.int r), .val (.int b)] [(.ref a)])
  refine Go.st (fun _ => XS.iloadN X1.here hx rfl (hb hby d1_5) rfl) ?_
  show Go p e below s _ _ _ T1 (mkF m 6 #[.val (.ref a), .val (.int r), .val (.int b)] [(.int r), (.ref a)])
  obtain ⟨T2, h2, X2, e2, W2, st2⟩ := putF X1 hx hZ hown (host := "") (Or.inl (hw _ (List.mem_of_getElem? (i := 9) rfl))) Via.refl e1 F_relevantGrade_a E_a (Or.inr ⟨(hw _ (List.mem_of_getElem? (i := 10) rfl)), rfl, hnm⟩) (hw _ (List.mem_of_getElem? (i := 1) rfl)) (ty := .int) (by decide) rfl rfl (g := (mkF m 6 #[.val (.ref a), .val (.int r), .val (.int b)] [(.int r), (.ref a)])) rfl rfl (hb hby d1_6)
  refine Go.st st2 ?_
  have N2 := Fr.snoc X2 N0 g_a
  have K2 : Keep h0 h2 [a] := (Keep.refl h0 [a]).wr W2 (Or.inl (List.mem_of_getElem? (i := 0) rfl))
  have z2 : n0 ≤ h2.size := Nat.le_trans Z0 (Nat.le_of_eq W2.size.symm)
  have Fw2 := F_relevantGrade_a.same W2
  show Go p e below s _ _ _ T2 (mkF m 9 #[.val (.ref a), .val (.int r), .val (.int b)] [])
  refine Go.st (fun _ => XS.aloadN X2.here hx rfl (hb hby d1_9) rfl rfl) ?_
  show Go p e below s _ _ _ T2 (mkF m 10 #[.val (.ref a), .val (.int r), .val (.int b)] [(.ref a)])
  refine Go.st (fun _ => XS.iloadN X2.here hx rfl (hb hby d1_10) rfl) ?_
  show Go p e below s _ _ _ T2 (mkF m 11 #[.val (.ref a), .val (.int r), .val (.int b)] [(.int b), (.ref a)])
  have f3 := (E_a.wr W2)
  have f4 := (F_baseGrade_a.other W2 (Or.inr (slot_ne (Or.inr (hw _ (List.mem_of_getElem? (i := 12) rfl))) (Or.inr (hw _ (List.mem_of_getElem? (i := 10) rfl))) (by decide) (t := .int) (t' := .int) (by decide) (by decide))))
  obtain ⟨T5, h5, X5, e5, W5, st5⟩ := putF X2 hx hZ hown (host := "") (Or.inl (hw _ (List.mem_of_getElem? (i := 11) rfl))) Via.refl e2 f4 f3 (Or.inr ⟨(hw _ (List.mem_of_getElem? (i := 12) rfl)), rfl, hnm⟩) (hw _ (List.mem_of_getElem? (i := 1) rfl)) (ty := .int) (by decide) rfl rfl (g := (mkF m 11 #[.val (.ref a), .val (.int r), .val (.int b)] [(.int b), (.ref a)])) rfl rfl (hb hby d1_11)
  refine Go.st st5 ?_
  have N5 := Fr.snoc X5 N2 g_a
  have K5 : Keep h0 h5 [a] := K2.wr W5 (Or.inl (List.mem_of_getElem? (i := 0) rfl))
  have z5 : n0 ≤ h5.size := Nat.le_trans z2 (Nat.le_of_eq W5.size.symm)
  have Fw5 := f4.same W5
  show Go p e below s _ _ _ T5 (mkF m 14 #[.val (.ref a), .val (.int r), .val (.int b)] [])
  have f6 := (f3.wr W5)
  have f7 := (Fw2.other W5 (Or.inr (slot_ne (Or.inr (hw _ (List.mem_of_getElem? (i := 10) rfl))) (Or.inr (hw _ (List.mem_of_getElem? (i := 12) rfl))) (by decide) (t := .int) (t' := .int) (by decide) (by decide))))
  exact Go.ret0 X5 hx hlk Bd.returns (hb hby d1_14) (by rw [e5]; exact ⟨rfl, N5, K5, f6, f7⟩) (by decide) (by decide)
theorem d3_0 : decode prog_11_method_3_code 0 = .ok (.iload_n 1, 1) := by decide +kernel
theorem d3_1 : decode prog_11_method_3_code 1 = .ok (.aload_n 0, 1) := by decide +kernel
theorem d3_2 : decode prog_11_method_3_code 2 = .ok (.getfield 7, 3) := by decide +kernel
theorem d3_5 : decode prog_11_method_3_code 5 = .ok (.if_icmp .lt 7, 3) := by decide +kernel
theorem d3_12 : decode prog_11_method_3_code 12 = .ok (.iconst 0, 1) := by decide +kernel
theorem d3_13 : decode prog_11_method_3_code 13 = .ok (.ireturn, 1) := by decide +kernel
theorem d3_8 : decode prog_11_method_3_code 8 = .ok (.iconst 1, 1) := by decide +kernel
theorem d3_9 : decode prog_11_method_3_code 9 = .ok (.goto 4, 3) := by decide +kernel
theorem ef_rm3 (m : MethodId) (a : Addr) (g : Int32) : entryFrame m #[(.ref a), (.int g)] 2 = mkF m 0 #[.val (.ref a), .val (.int g)] [] := by first | (simp [entryFrame, mkF, argsToLocals, Value.category]; done) | rfl
def Qrm3 (Z : State) (a : Addr) (g : Int32) (r : Int32) (h0 : Heap) (n0 : Nat) (rV : Option Value) (hE : Heap) (LE : List Loc) : Prop := rV = some (.int (b2i (¬ (g < r)))) ∧ Fr n0 LE ∧ hE = h0
set_option maxRecDepth 65536 in
set_option maxHeartbeats 40000000 in
theorem rm3 (l : Launch) (Z : State) (a0 : Array Value) (hw : ∀ d ∈ tables_1, d.before a0 Z = true) (ws : List Jvm.Cond) (a : Addr) (g : Int32) (r : Int32) (h0 : Heap) (n0 : Nat) (Z0 : n0 ≤ h0.size) (F_relevantGrade_a : Fld Z h0 a "com/example/sift_sentences/siftsentences/eval/Grading" "relevantGrade" "I" (.int r)) :
    MetFree l (⟨"com/example/sift_sentences/siftsentences/eval/Grading", "isRelevant", "(I)Z"⟩ : MethodName) (head1 (Jvm.Cond.code (⟨"com/example/sift_sentences/siftsentences/eval/Grading", "isRelevant", "(I)Z"⟩ : MethodName) prog_11_method_3_code 2 (some .boolean) :: ws) ({ frames := 0, cells := 0, slots := 0, locals := 0 } : Room)) (fun aA UA => aA = #[(.ref a), (.int g)] ∧ Z.Warmed39 UA.vm ∧ UA.heap = h0) (fun _ _ _ _ _ => True) (fun _ UA oA UB => ∃ rV LE, oA = .returned rV ∧ Qrm3 Z a g r h0 n0 rV UB.heap LE ∧ FrameEnd UA oA UB LE ({ frames := 0, cells := 0, slots := 0, locals := 0 } : Room).cells ({ frames := 0, cells := 0, slots := 0, locals := 0 } : Room).slots) := by
  refine MetFree.of_bodySF (plainFor_of_name pn_0) hisR ?_
  intro p e s m args below meth c s₁ Bd hml0 hP hK
  obtain ⟨rfl, hZ, hh⟩ := hP
  have hx := Bd.exec
  have hby := Bd.bytes
  have hml : c.maxLocals = 2 := hml0
  have hown : s.vm.findClass "com/example/sift_sentences/siftsentences/eval/Grading" = some m.cls := findClass_of_methodNamed Bd.named
  have hnm := (name_of_methodNamed Bd.named Bd.method).1
  have hlk := Bd.notSynchronized
  have X0 : Stand p l e ({ frames := 0, cells := 0, slots := 0, locals := 0 } : Room) s m #[(.ref a), (.int g)] below meth c s₁ [] 0 0 := Stand.of_body Bd
  have e0 : s₁.heap = h0 := by rw [← hh, Bd.state]; rfl
  have N0 := Fr.nil n0
  show Go p e below s (Qrm3 Z a g r h0 n0) ({ frames := 0, cells := 0, slots := 0, locals := 0 } : Room).cells ({ frames := 0, cells := 0, slots := 0, locals := 0 } : Room).slots s₁ (entryFrame m #[(.ref a), (.int g)] 2)
  refine Go.eq (ef_rm3 m a g) ?_
  show Go p e below s _ _ _ s₁ (mkF m 0 #[.val (.ref a), .val (.int g)] [])
  refine Go.st (fun _ => XS.iloadN X0.here hx rfl (hb hby d3_0) rfl) ?_
  show Go p e below s _ _ _ s₁ (mkF m 1 #[.val (.ref a), .val (.int g)] [(.int g)])
  refine Go.st (fun _ => XS.aloadN X0.here hx rfl (hb hby d3_1) rfl rfl) ?_
  show Go p e below s _ _ _ s₁ (mkF m 2 #[.val (.ref a), .val (.int g)] [(.ref a), (.int g)])
  obtain ⟨T1, X1, e1, st1⟩ := getF X0 hx hZ hown (host := "") (Or.inl (hw _ (List.mem_of_getElem? (i := 9) rfl))) Via.refl e0 F_relevantGrade_a (g := (mkF m 2 #[.val (.ref a), .val (.int g)] [(.ref a), (.int g)])) rfl rfl (hb hby d3_2)
  refine Go.st st1 ?_
  show Go p e below s _ _ _ T1 (mkF m 5 #[.val (.ref a), .val (.int g)] [(.int r), (.int g)])
  by_cases hc2 : g < r
  · refine Go.st (fun _ => XS.icmpYes X1.here hx rfl (pc0 := 5) (pc' := 12) rfl (hb hby d3_5) rfl (tlt hc2).1 (by decide) (by decide)) ?_
    show Go p e below s _ _ _ T1 (mkF m 12 #[.val (.ref a), .val (.int g)] [])
    refine Go.st (fun _ => XS.iconst X1.here hx rfl (hb hby d3_12)) ?_
    show Go p e below s _ _ _ T1 (mkF m 13 #[.val (.ref a), .val (.int g)] [(.int (0 : Int32))])
    exact Go.retZ X1 hx hlk Bd.returns (hb hby d3_13) rfl (by rw [e1]; exact ⟨(own_b2i_f (not_not_intro hc2)), N0, rfl⟩) (by decide) (by decide)
  · refine Go.st (fun _ => XS.icmpNo X1.here hx rfl (hb hby d3_5) rfl (flt hc2).1) ?_
    show Go p e below s _ _ _ T1 (mkF m 8 #[.val (.ref a), .val (.int g)] [])
    refine Go.st (fun _ => XS.iconst X1.here hx rfl (hb hby d3_8)) ?_
    show Go p e below s _ _ _ T1 (mkF m 9 #[.val (.ref a), .val (.int g)] [(.int (1 : Int32))])
    refine Go.st (fun _ => XS.goto X1.here hx rfl (pc0 := 9) (pc' := 13) rfl (hb hby d3_9) (by decide) (by decide)) ?_
    show Go p e below s _ _ _ T1 (mkF m 13 #[.val (.ref a), .val (.int g)] [(.int (1 : Int32))])
    exact Go.retZ X1 hx hlk Bd.returns (hb hby d3_13) rfl (by rw [e1]; exact ⟨(own_b2i_t hc2), N0, rfl⟩) (by decide) (by decide)
theorem pd_0 : parseMethodDescriptor "(II)V" = some ⟨[.int, .int], none⟩ := by decide +kernel
theorem pd_1 : parseMethodDescriptor "(I)Z" = some ⟨[.int], some .boolean⟩ := by decide +kernel
theorem pn_1 : plainName "com/example/sift_sentences/siftsentences/eval/GradingIsRelevantPinLaw" = true := by first | (simp [plainName, overriddenIn]; done) | decide +kernel
theorem ef_rm0 (m : MethodId) (r : Int32) (b : Int32) (g : Int32) (k : Int32) : entryFrame m #[(.int r), (.int b), (.int g), (.int k)] maxLocals = mkF m 0 #[.val (.int r), .val (.int b), .val (.int g), .val (.int k), .unset, .unset] [] := by first | (simp [entryFrame, mkF, argsToLocals, Value.category, maxLocals]; done) | rfl
def Qrm0 (Z : State) (r : Int32) (b : Int32) (g : Int32) (k : Int32) (h0 : Heap) (n0 : Nat) (rV : Option Value) (hE : Heap) (LE : List Loc) : Prop := rV = some (.int (1 : Int32)) ∧ Fr n0 LE
set_option maxRecDepth 65536 in
set_option maxHeartbeats 40000000 in
theorem rm0 (l : Launch) (Z : State) (a0 : Array Value) (hw : ∀ d ∈ tables_1, d.before a0 Z = true) (ws : List Jvm.Cond) (r : Int32) (b : Int32) (g : Int32) (k : Int32) (h0 : Heap) (n0 : Nat) (Z0 : n0 ≤ h0.size) :
    MetFree l x (head1 (Jvm.Cond.code x code maxLocals ret :: ws) room_1) (fun aA UA => aA = #[(.int r), (.int b), (.int g), (.int k)] ∧ Z.Warmed39 UA.vm ∧ UA.heap = h0) (fun _ _ _ _ _ => True) (fun _ UA oA UB => ∃ rV LE, oA = .returned rV ∧ Qrm0 Z r b g k h0 n0 rV UB.heap LE ∧ FrameEnd UA oA UB LE room_1.cells room_1.slots) := by
  refine MetFree.of_bodySF (plainFor_of_name pn_1) hisR ?_
  intro p e s m args below meth c s₁ Bd hml0 hP hK
  obtain ⟨rfl, hZ, hh⟩ := hP
  have hx := Bd.exec
  have hby := Bd.bytes
  have hml : c.maxLocals = 6 := hml0
  have hown : s.vm.findClass "com/example/sift_sentences/siftsentences/eval/GradingIsRelevantPinLaw" = some m.cls := findClass_of_methodNamed Bd.named
  have hnm := (name_of_methodNamed Bd.named Bd.method).1
  have hlk := Bd.notSynchronized
  have X0 : Stand p l e room_1 s m #[(.int r), (.int b), (.int g), (.int k)] below meth c s₁ [] 0 0 := Stand.of_body Bd
  have e0 : s₁.heap = h0 := by rw [← hh, Bd.state]; rfl
  have N0 := Fr.nil n0
  show Go p e below s (Qrm0 Z r b g k h0 n0) room_1.cells room_1.slots s₁ (entryFrame m #[(.int r), (.int b), (.int g), (.int k)] maxLocals)
  refine Go.eq (ef_rm0 m r b g k) ?_
  show Go p e below s _ _ _ s₁ (mkF m 0 #[.val (.int r), .val (.int b), .val (.int g), .val (.int k), .unset, .unset] [])
  obtain ⟨T1, h1, X1, e1, E1, A1, D1, -, st1⟩ := newO X0 hx hZ hown (hw _ (List.mem_of_getElem? (i := 0) rfl)) (hw _ (List.mem_of_getElem? (i := 1) rfl)) (hw _ (List.mem_of_getElem? (i := 2) rfl)) e0 (g := (mkF m 0 #[.val (.int r), .val (.int b), .val (.int g), .val (.int k), .unset, .unset] [])) rfl (hb hby at_0) (by decide) (by decide)
  obtain ⟨b1, g1⟩ : ∃ z, z = h0.size := ⟨_, rfl⟩
  rw [← g1] at A1 D1 st1
  refine Go.st st1 ?_
  have gg1 : n0 ≤ b1 := Nat.le_trans Z0 (Nat.le_of_eq g1.symm)
  have z1 : n0 ≤ h1.size := Nat.le_trans Z0 E1.1
  have F_relevantGrade_b1 : Fld Z h1 b1 "com/example/sift_sentences/siftsentences/eval/Grading" "relevantGrade" "I" (.int (0 : Int32)) := D1 (Or.inr (hw _ (List.mem_of_getElem? (i := 10) rfl))) (ty := .int) (by decide)
  have F_baseGrade_b1 : Fld Z h1 b1 "com/example/sift_sentences/siftsentences/eval/Grading" "baseGrade" "I" (.int (0 : Int32)) := D1 (Or.inr (hw _ (List.mem_of_getElem? (i := 12) rfl))) (ty := .int) (by decide)
  show Go p e below s _ _ _ T1 (mkF m 3 #[.val (.int r), .val (.int b), .val (.int g), .val (.int k), .unset, .unset] [(.ref b1)])
  refine Go.st (fun _ => XS.dup X1.here hx rfl (hb hby at_3) rfl rfl) ?_
  show Go p e below s _ _ _ T1 (mkF m 4 #[.val (.int r), .val (.int b), .val (.int g), .val (.int k), .unset, .unset] [(.ref b1), (.ref b1)])
  refine Go.st (fun _ => XS.iloadN X1.here hx rfl (hb hby at_4) rfl) ?_
  show Go p e below s _ _ _ T1 (mkF m 5 #[.val (.int r), .val (.int b), .val (.int g), .val (.int k), .unset, .unset] [(.int r), (.ref b1), (.ref b1)])
  refine Go.st (fun _ => XS.iloadN X1.here hx rfl (hb hby at_5) rfl) ?_
  show Go p e below s _ _ _ T1 (mkF m 6 #[.val (.int r), .val (.int b), .val (.int g), .val (.int k), .unset, .unset] [(.int b), (.int r), (.ref b1), (.ref b1)])
  obtain ⟨_, _, ⟨T2, L2, kc2, nc2⟩, -, X2, ⟨Lc2, hQ2, l2, y2, z2⟩, st2⟩ := X1.specialBack hx (y := (⟨"com/example/sift_sentences/siftsentences/eval/Grading", "<init>", "(II)V"⟩ : MethodName)) rfl hown (mvT hZ (hw _ (List.mem_of_getElem? (i := 3) rfl))) (mvT hZ (hw _ (List.mem_of_getElem? (i := 4) rfl))) (mvT hZ (hw _ (List.mem_of_getElem? (i := 5) rfl))) (by decide) (backOf (W := 1) (rm1 l Z a0 hw [] b1 r b h1 n0 z1 A1 F_relevantGrade_b1 F_baseGrade_b1 gg1) hZ (hw _ (List.mem_of_getElem? (i := 5) rfl)) (hw _ (List.mem_of_getElem? (i := 2) rfl)) (by decide) (by decide)) (g := (mkF m 6 #[.val (.int r), .val (.int b), .val (.int g), .val (.int k), .unset, .unset] [(.int b), (.int r), (.ref b1), (.ref b1)])) rfl (by rw [hml]; rfl) (Steps.refl _) (a := b1) (argsL := [(.int r), (.int b)]) (rest := [(.ref b1)]) (lenOf pd_0 rfl) rfl (by show 2 * 0 + _ ≤ _; exact Nat.le_of_eq rfl) (hb hby at_6) (fun _ _ => ⟨rfl, e1, (by decide : 1 + 0 ≤ _), (by decide : 2 + 0 ≤ _)⟩)
  dsimp only [Pt.U, Pt.locs, Pt.cells, Pt.slots] at X2 l2 y2 z2 st2 hQ2
  subst l2 y2 z2
  obtain ⟨h2, e2⟩ : ∃ hh, T2.heap = hh := ⟨_, rfl⟩
  rw [e2] at hQ2
  obtain ⟨rfl, N2q, K2, p2_0, p2_1⟩ := hQ2
  have N2 := Fr.app N0 N2q
  refine Go.st (fun _ kk => st2.trans kk) ?_
  have z2q : n0 ≤ h2.size := Nat.le_trans z1 K2.1
  show Go p e below s _ _ _ T2 (mkF m 9 #[.val (.int r), .val (.int b), .val (.int g), .val (.int k), .unset, .unset] [(.ref b1)])
  refine Go.st (fun _ => XS.astore X2.here hx rfl (hb hby at_9) rfl rfl (l' := #[.val (.int r), .val (.int b), .val (.int g), .val (.int k), .val (.ref b1), .unset]) rfl) ?_
  show Go p e below s _ _ _ T2 (mkF m 11 #[.val (.int r), .val (.int b), .val (.int g), .val (.int k), .val (.ref b1), .unset] [])
  refine Go.st (fun _ => XS.aload X2.here hx rfl (hb hby at_11) rfl rfl) ?_
  show Go p e below s _ _ _ T2 (mkF m 13 #[.val (.int r), .val (.int b), .val (.int g), .val (.int k), .val (.ref b1), .unset] [(.ref b1)])
  refine Go.st (fun _ => XS.iloadN X2.here hx rfl (hb hby at_13) rfl) ?_
  show Go p e below s _ _ _ T2 (mkF m 14 #[.val (.int r), .val (.int b), .val (.int g), .val (.int k), .val (.ref b1), .unset] [(.int g), (.ref b1)])
  obtain ⟨cq3, kq3, q3a, q3b, q3c⟩ := isOf hZ e2 p2_0
  obtain ⟨_, _, ⟨T3, L3, kc3, nc3⟩, -, X3, ⟨Lc3, hQ3, l3, y3, z3⟩, st3⟩ := X2.virtualBack hx (y := (⟨"com/example/sift_sentences/siftsentences/eval/Grading", "isRelevant", "(I)Z"⟩ : MethodName)) (z := (⟨"com/example/sift_sentences/siftsentences/eval/Grading", "isRelevant", "(I)Z"⟩ : MethodName)) hown (mvT hZ (hw _ (List.mem_of_getElem? (i := 13) rfl))) (mvT hZ (hw _ (List.mem_of_getElem? (i := 14) rfl))) (notFace_of_selects (args := #[]) (mvT hZ (hw _ (List.mem_of_getElem? (i := 16) rfl)))) (mvT hZ (hw _ (List.mem_of_getElem? (i := 16) rfl))) (mvT hZ (hw _ (List.mem_of_getElem? (i := 15) rfl))) (by decide) (backOf (W := 0) (rm3 l Z a0 hw [] b1 g r h2 n0 z2q p2_1) hZ (hw _ (List.mem_of_getElem? (i := 17) rfl)) (hw _ (List.mem_of_getElem? (i := 2) rfl)) (by decide) (by decide)) q3a q3c (g := (mkF m 14 #[.val (.int r), .val (.int b), .val (.int g), .val (.int k), .val (.ref b1), .unset] [(.int g), (.ref b1)])) rfl (by rw [hml]; rfl) (Steps.refl _) (argsL := [(.int g)]) (rest := []) (lenOf pd_1 rfl) rfl (by show 2 * 0 + _ ≤ _; exact Nat.le_of_eq rfl) (hb hby at_14) (fun _ _ => ⟨rfl, e2, (by decide : 1 + 0 ≤ _), (by decide : 2 + 0 ≤ _)⟩)
  dsimp only [Pt.U, Pt.locs, Pt.cells, Pt.slots] at X3 l3 y3 z3 st3 hQ3
  subst l3 y3 z3
  obtain ⟨h3, e3⟩ : ∃ hh, T3.heap = hh := ⟨_, rfl⟩
  rw [e3] at hQ3
  obtain ⟨rfl, N3q, s3⟩ := hQ3
  have N3 := Fr.app N2 N3q
  refine Go.st (fun _ kk => st3.trans kk) ?_
  rw [s3] at e3
  show Go p e below s _ _ _ T3 (mkF m 17 #[.val (.int r), .val (.int b), .val (.int g), .val (.int k), .val (.ref b1), .unset] [(.int (b2i (¬ (g < r))))])
  by_cases hc4 : g < r
  · rw [show (b2i (¬ (g < r))) = (0 : Int32) from b2i_neg (not_not_intro hc4)]
    show Go p e below s _ _ _ T3 (mkF m 17 #[.val (.int r), .val (.int b), .val (.int g), .val (.int k), .val (.ref b1), .unset] [(.int (0 : Int32))])
    refine Go.st (fun _ => XS.iloadN X3.here hx rfl (hb hby at_17) rfl) ?_
    show Go p e below s _ _ _ T3 (mkF m 18 #[.val (.int r), .val (.int b), .val (.int g), .val (.int k), .val (.ref b1), .unset] [(.int g), (.int (0 : Int32))])
    refine Go.st (fun _ => XS.iloadN X3.here hx rfl (hb hby at_18) rfl) ?_
    show Go p e below s _ _ _ T3 (mkF m 19 #[.val (.int r), .val (.int b), .val (.int g), .val (.int k), .val (.ref b1), .unset] [(.int r), (.int g), (.int (0 : Int32))])
    refine Go.st (fun _ => XS.icmpYes X3.here hx rfl (pc0 := 19) (pc' := 26) rfl (hb hby at_19) rfl (tlt hc4).1 (by decide) (by decide)) ?_
    show Go p e below s _ _ _ T3 (mkF m 26 #[.val (.int r), .val (.int b), .val (.int g), .val (.int k), .val (.ref b1), .unset] [(.int (0 : Int32))])
    refine Go.st (fun _ => XS.iconst X3.here hx rfl (hb hby at_26)) ?_
    show Go p e below s _ _ _ T3 (mkF m 27 #[.val (.int r), .val (.int b), .val (.int g), .val (.int k), .val (.ref b1), .unset] [(.int (0 : Int32)), (.int (0 : Int32))])
    refine Go.st (fun _ => XS.icmpNo X3.here hx rfl (hb hby at_27) rfl (teq (by decide : (0 : Int32) = (0 : Int32))).2) ?_
    show Go p e below s _ _ _ T3 (mkF m 30 #[.val (.int r), .val (.int b), .val (.int g), .val (.int k), .val (.ref b1), .unset] [])
    refine Go.st (fun _ => XS.iconst X3.here hx rfl (hb hby at_30)) ?_
    show Go p e below s _ _ _ T3 (mkF m 31 #[.val (.int r), .val (.int b), .val (.int g), .val (.int k), .val (.ref b1), .unset] [(.int (1 : Int32))])
    refine Go.st (fun _ => XS.goto X3.here hx rfl (pc0 := 31) (pc' := 35) rfl (hb hby at_31) (by decide) (by decide)) ?_
    show Go p e below s _ _ _ T3 (mkF m 35 #[.val (.int r), .val (.int b), .val (.int g), .val (.int k), .val (.ref b1), .unset] [(.int (1 : Int32))])
    refine Go.st (fun _ => XS.istore X3.here hx rfl (hb hby at_35) rfl (l' := #[.val (.int r), .val (.int b), .val (.int g), .val (.int k), .val (.ref b1), .val (.int (1 : Int32))]) rfl) ?_
    show Go p e below s _ _ _ T3 (mkF m 37 #[.val (.int r), .val (.int b), .val (.int g), .val (.int k), .val (.ref b1), .val (.int (1 : Int32))] [])
    refine Go.st (fun _ => XS.iload X3.here hx rfl (hb hby at_37) rfl) ?_
    show Go p e below s _ _ _ T3 (mkF m 39 #[.val (.int r), .val (.int b), .val (.int g), .val (.int k), .val (.ref b1), .val (.int (1 : Int32))] [(.int (1 : Int32))])
    refine Go.st (fun _ => XS.ifNo X3.here hx rfl (hb hby at_39) rfl ((if0 _ _).trans (feq (by decide : ¬ ((1 : Int32) = (0 : Int32)))).1)) ?_
    show Go p e below s _ _ _ T3 (mkF m 42 #[.val (.int r), .val (.int b), .val (.int g), .val (.int k), .val (.ref b1), .val (.int (1 : Int32))] [])
    refine Go.st (fun _ => XS.aload X3.here hx rfl (hb hby at_42) rfl rfl) ?_
    show Go p e below s _ _ _ T3 (mkF m 44 #[.val (.int r), .val (.int b), .val (.int g), .val (.int k), .val (.ref b1), .val (.int (1 : Int32))] [(.ref b1)])
    refine Go.st (fun _ => XS.iloadN X3.here hx rfl (hb hby at_44) rfl) ?_
    show Go p e below s _ _ _ T3 (mkF m 45 #[.val (.int r), .val (.int b), .val (.int g), .val (.int k), .val (.ref b1), .val (.int (1 : Int32))] [(.int r), (.ref b1)])
    obtain ⟨cq5, kq5, q5a, q5b, q5c⟩ := isOf hZ e3 p2_0
    obtain ⟨_, _, ⟨T5, L5, kc5, nc5⟩, -, X5, ⟨Lc5, hQ5, l5, y5, z5⟩, st5⟩ := X3.virtualBack hx (y := (⟨"com/example/sift_sentences/siftsentences/eval/Grading", "isRelevant", "(I)Z"⟩ : MethodName)) (z := (⟨"com/example/sift_sentences/siftsentences/eval/Grading", "isRelevant", "(I)Z"⟩ : MethodName)) hown (mvT hZ (hw _ (List.mem_of_getElem? (i := 13) rfl))) (mvT hZ (hw _ (List.mem_of_getElem? (i := 14) rfl))) (notFace_of_selects (args := #[]) (mvT hZ (hw _ (List.mem_of_getElem? (i := 16) rfl)))) (mvT hZ (hw _ (List.mem_of_getElem? (i := 16) rfl))) (mvT hZ (hw _ (List.mem_of_getElem? (i := 15) rfl))) (by decide) (backOf (W := 0) (rm3 l Z a0 hw [] b1 r r h2 n0 z2q p2_1) hZ (hw _ (List.mem_of_getElem? (i := 17) rfl)) (hw _ (List.mem_of_getElem? (i := 2) rfl)) (by decide) (by decide)) q5a q5c (g := (mkF m 45 #[.val (.int r), .val (.int b), .val (.int g), .val (.int k), .val (.ref b1), .val (.int (1 : Int32))] [(.int r), (.ref b1)])) rfl (by rw [hml]; rfl) (Steps.refl _) (argsL := [(.int r)]) (rest := []) (lenOf pd_1 rfl) rfl (by show 2 * 0 + _ ≤ _; exact Nat.le_of_eq rfl) (hb hby at_45) (fun _ _ => ⟨rfl, e3, (by decide : 1 + 0 ≤ _), (by decide : 2 + 0 ≤ _)⟩)
    dsimp only [Pt.U, Pt.locs, Pt.cells, Pt.slots] at X5 l5 y5 z5 st5 hQ5
    subst l5 y5 z5
    obtain ⟨h5, e5⟩ : ∃ hh, T5.heap = hh := ⟨_, rfl⟩
    rw [e5] at hQ5
    obtain ⟨rfl, N5q, s5⟩ := hQ5
    have N5 := Fr.app N3 N5q
    refine Go.st (fun _ kk => st5.trans kk) ?_
    rw [s5] at e5
    show Go p e below s _ _ _ T5 (mkF m 48 #[.val (.int r), .val (.int b), .val (.int g), .val (.int k), .val (.ref b1), .val (.int (1 : Int32))] [(.int (b2i (¬ (r < r))))])
    rw [show (b2i (¬ (r < r))) = (1 : Int32) from b2i_pos (own_irr : ¬ (r < r))]
    show Go p e below s _ _ _ T5 (mkF m 48 #[.val (.int r), .val (.int b), .val (.int g), .val (.int k), .val (.ref b1), .val (.int (1 : Int32))] [(.int (1 : Int32))])
    refine Go.st (fun _ => XS.ifNo X5.here hx rfl (hb hby at_48) rfl ((if0 _ _).trans (feq (by decide : ¬ ((1 : Int32) = (0 : Int32)))).1)) ?_
    show Go p e below s _ _ _ T5 (mkF m 51 #[.val (.int r), .val (.int b), .val (.int g), .val (.int k), .val (.ref b1), .val (.int (1 : Int32))] [])
    refine Go.st (fun _ => XS.iconst X5.here hx rfl (hb hby at_51)) ?_
    show Go p e below s _ _ _ T5 (mkF m 52 #[.val (.int r), .val (.int b), .val (.int g), .val (.int k), .val (.ref b1), .val (.int (1 : Int32))] [(.int (1 : Int32))])
    refine Go.st (fun _ => XS.goto X5.here hx rfl (pc0 := 52) (pc' := 56) rfl (hb hby at_52) (by decide) (by decide)) ?_
    show Go p e below s _ _ _ T5 (mkF m 56 #[.val (.int r), .val (.int b), .val (.int g), .val (.int k), .val (.ref b1), .val (.int (1 : Int32))] [(.int (1 : Int32))])
    refine Go.st (fun _ => XS.istore X5.here hx rfl (hb hby at_56) rfl (l' := #[.val (.int r), .val (.int b), .val (.int g), .val (.int k), .val (.ref b1), .val (.int (1 : Int32))]) rfl) ?_
    show Go p e below s _ _ _ T5 (mkF m 58 #[.val (.int r), .val (.int b), .val (.int g), .val (.int k), .val (.ref b1), .val (.int (1 : Int32))] [])
    refine Go.st (fun _ => XS.iloadN X5.here hx rfl (hb hby at_58) rfl) ?_
    show Go p e below s _ _ _ T5 (mkF m 59 #[.val (.int r), .val (.int b), .val (.int g), .val (.int k), .val (.ref b1), .val (.int (1 : Int32))] [(.int r)])
    refine Go.st (fun t => X5.ldcInt hx hown (mvT hZ (hw _ (List.mem_of_getElem? (i := 18) rfl))) (g := (mkF m 59 #[.val (.int r), .val (.int b), .val (.int g), .val (.int k), .val (.ref b1), .val (.int (1 : Int32))] [(.int r)])) rfl (hb hby at_59) t) ?_
    show Go p e below s _ _ _ T5 (mkF m 61 #[.val (.int r), .val (.int b), .val (.int g), .val (.int k), .val (.ref b1), .val (.int (1 : Int32))] [(.int (-2147483648 : Int32)), (.int r)])
    by_cases hc6 : r = (-2147483648 : Int32)
    · refine Go.st (fun _ => XS.icmpYes X5.here hx rfl (pc0 := 61) (pc' := 87) rfl (hb hby at_61) rfl (teq hc6).1 (by decide) (by decide)) ?_
      show Go p e below s _ _ _ T5 (mkF m 87 #[.val (.int r), .val (.int b), .val (.int g), .val (.int k), .val (.ref b1), .val (.int (1 : Int32))] [])
      refine Go.st (fun _ => XS.iload X5.here hx rfl (hb hby at_87) rfl) ?_
      show Go p e below s _ _ _ T5 (mkF m 89 #[.val (.int r), .val (.int b), .val (.int g), .val (.int k), .val (.ref b1), .val (.int (1 : Int32))] [(.int (1 : Int32))])
      refine Go.st (fun _ => XS.ifNo X5.here hx rfl (hb hby at_89) rfl ((if0 _ _).trans (feq (by decide : ¬ ((1 : Int32) = (0 : Int32)))).1)) ?_
      show Go p e below s _ _ _ T5 (mkF m 92 #[.val (.int r), .val (.int b), .val (.int g), .val (.int k), .val (.ref b1), .val (.int (1 : Int32))] [])
      refine Go.st (fun _ => XS.aload X5.here hx rfl (hb hby at_92) rfl rfl) ?_
      show Go p e below s _ _ _ T5 (mkF m 94 #[.val (.int r), .val (.int b), .val (.int g), .val (.int k), .val (.ref b1), .val (.int (1 : Int32))] [(.ref b1)])
      refine Go.st (fun t => X5.ldcInt hx hown (mvT hZ (hw _ (List.mem_of_getElem? (i := 19) rfl))) (g := (mkF m 94 #[.val (.int r), .val (.int b), .val (.int g), .val (.int k), .val (.ref b1), .val (.int (1 : Int32))] [(.ref b1)])) rfl (hb hby at_94) t) ?_
      show Go p e below s _ _ _ T5 (mkF m 96 #[.val (.int r), .val (.int b), .val (.int g), .val (.int k), .val (.ref b1), .val (.int (1 : Int32))] [(.int (2147483647 : Int32)), (.ref b1)])
      obtain ⟨cq7, kq7, q7a, q7b, q7c⟩ := isOf hZ e5 p2_0
      obtain ⟨_, _, ⟨T7, L7, kc7, nc7⟩, -, X7, ⟨Lc7, hQ7, l7, y7, z7⟩, st7⟩ := X5.virtualBack hx (y := (⟨"com/example/sift_sentences/siftsentences/eval/Grading", "isRelevant", "(I)Z"⟩ : MethodName)) (z := (⟨"com/example/sift_sentences/siftsentences/eval/Grading", "isRelevant", "(I)Z"⟩ : MethodName)) hown (mvT hZ (hw _ (List.mem_of_getElem? (i := 13) rfl))) (mvT hZ (hw _ (List.mem_of_getElem? (i := 14) rfl))) (notFace_of_selects (args := #[]) (mvT hZ (hw _ (List.mem_of_getElem? (i := 16) rfl)))) (mvT hZ (hw _ (List.mem_of_getElem? (i := 16) rfl))) (mvT hZ (hw _ (List.mem_of_getElem? (i := 15) rfl))) (by decide) (backOf (W := 0) (rm3 l Z a0 hw [] b1 (2147483647 : Int32) r h2 n0 z2q p2_1) hZ (hw _ (List.mem_of_getElem? (i := 17) rfl)) (hw _ (List.mem_of_getElem? (i := 2) rfl)) (by decide) (by decide)) q7a q7c (g := (mkF m 96 #[.val (.int r), .val (.int b), .val (.int g), .val (.int k), .val (.ref b1), .val (.int (1 : Int32))] [(.int (2147483647 : Int32)), (.ref b1)])) rfl (by rw [hml]; rfl) (Steps.refl _) (argsL := [(.int (2147483647 : Int32))]) (rest := []) (lenOf pd_1 rfl) rfl (by show 2 * 0 + _ ≤ _; exact Nat.le_of_eq rfl) (hb hby at_96) (fun _ _ => ⟨rfl, e5, (by decide : 1 + 0 ≤ _), (by decide : 2 + 0 ≤ _)⟩)
      dsimp only [Pt.U, Pt.locs, Pt.cells, Pt.slots] at X7 l7 y7 z7 st7 hQ7
      subst l7 y7 z7
      obtain ⟨h7, e7⟩ : ∃ hh, T7.heap = hh := ⟨_, rfl⟩
      rw [e7] at hQ7
      obtain ⟨rfl, N7q, s7⟩ := hQ7
      have N7 := Fr.app N5 N7q
      refine Go.st (fun _ kk => st7.trans kk) ?_
      rw [s7] at e7
      show Go p e below s _ _ _ T7 (mkF m 99 #[.val (.int r), .val (.int b), .val (.int g), .val (.int k), .val (.ref b1), .val (.int (1 : Int32))] [(.int (b2i (¬ ((2147483647 : Int32) < r))))])
      rw [show (b2i (¬ ((2147483647 : Int32) < r))) = (1 : Int32) from b2i_pos (own_top r)]
      show Go p e below s _ _ _ T7 (mkF m 99 #[.val (.int r), .val (.int b), .val (.int g), .val (.int k), .val (.ref b1), .val (.int (1 : Int32))] [(.int (1 : Int32))])
      refine Go.st (fun _ => XS.ifNo X7.here hx rfl (hb hby at_99) rfl ((if0 _ _).trans (feq (by decide : ¬ ((1 : Int32) = (0 : Int32)))).1)) ?_
      show Go p e below s _ _ _ T7 (mkF m 102 #[.val (.int r), .val (.int b), .val (.int g), .val (.int k), .val (.ref b1), .val (.int (1 : Int32))] [])
      refine Go.st (fun _ => XS.iconst X7.here hx rfl (hb hby at_102)) ?_
      show Go p e below s _ _ _ T7 (mkF m 103 #[.val (.int r), .val (.int b), .val (.int g), .val (.int k), .val (.ref b1), .val (.int (1 : Int32))] [(.int (1 : Int32))])
      refine Go.st (fun _ => XS.goto X7.here hx rfl (pc0 := 103) (pc' := 107) rfl (hb hby at_103) (by decide) (by decide)) ?_
      show Go p e below s _ _ _ T7 (mkF m 107 #[.val (.int r), .val (.int b), .val (.int g), .val (.int k), .val (.ref b1), .val (.int (1 : Int32))] [(.int (1 : Int32))])
      refine Go.st (fun _ => XS.istore X7.here hx rfl (hb hby at_107) rfl (l' := #[.val (.int r), .val (.int b), .val (.int g), .val (.int k), .val (.ref b1), .val (.int (1 : Int32))]) rfl) ?_
      show Go p e below s _ _ _ T7 (mkF m 109 #[.val (.int r), .val (.int b), .val (.int g), .val (.int k), .val (.ref b1), .val (.int (1 : Int32))] [])
      refine Go.st (fun _ => XS.iloadN X7.here hx rfl (hb hby at_109) rfl) ?_
      show Go p e below s _ _ _ T7 (mkF m 110 #[.val (.int r), .val (.int b), .val (.int g), .val (.int k), .val (.ref b1), .val (.int (1 : Int32))] [(.int g)])
      refine Go.st (fun _ => XS.iloadN X7.here hx rfl (hb hby at_110) rfl) ?_
      show Go p e below s _ _ _ T7 (mkF m 111 #[.val (.int r), .val (.int b), .val (.int g), .val (.int k), .val (.ref b1), .val (.int (1 : Int32))] [(.int k), (.int g)])
      by_cases hc8 : k < g
      · refine Go.st (fun _ => XS.icmpYes X7.here hx rfl (pc0 := 111) (pc' := 144) rfl (hb hby at_111) rfl (tlt hc8).2.2.1 (by decide) (by decide)) ?_
        show Go p e below s _ _ _ T7 (mkF m 144 #[.val (.int r), .val (.int b), .val (.int g), .val (.int k), .val (.ref b1), .val (.int (1 : Int32))] [])
        refine Go.st (fun _ => XS.iload X7.here hx rfl (hb hby at_144) rfl) ?_
        show Go p e below s _ _ _ T7 (mkF m 146 #[.val (.int r), .val (.int b), .val (.int g), .val (.int k), .val (.ref b1), .val (.int (1 : Int32))] [(.int (1 : Int32))])
        exact Go.retZ X7 hx hlk Bd.returns (hb hby at_146) rfl (by rw [e7]; exact ⟨rfl, N7⟩) (by decide) (by decide)
      · refine Go.st (fun _ => XS.icmpNo X7.here hx rfl (hb hby at_111) rfl (flt hc8).2.2.1) ?_
        show Go p e below s _ _ _ T7 (mkF m 114 #[.val (.int r), .val (.int b), .val (.int g), .val (.int k), .val (.ref b1), .val (.int (1 : Int32))] [])
        refine Go.st (fun _ => XS.aload X7.here hx rfl (hb hby at_114) rfl rfl) ?_
        show Go p e below s _ _ _ T7 (mkF m 116 #[.val (.int r), .val (.int b), .val (.int g), .val (.int k), .val (.ref b1), .val (.int (1 : Int32))] [(.ref b1)])
        refine Go.st (fun _ => XS.iloadN X7.here hx rfl (hb hby at_116) rfl) ?_
        show Go p e below s _ _ _ T7 (mkF m 117 #[.val (.int r), .val (.int b), .val (.int g), .val (.int k), .val (.ref b1), .val (.int (1 : Int32))] [(.int g), (.ref b1)])
        obtain ⟨cq9, kq9, q9a, q9b, q9c⟩ := isOf hZ e7 p2_0
        obtain ⟨_, _, ⟨T9, L9, kc9, nc9⟩, -, X9, ⟨Lc9, hQ9, l9, y9, z9⟩, st9⟩ := X7.virtualBack hx (y := (⟨"com/example/sift_sentences/siftsentences/eval/Grading", "isRelevant", "(I)Z"⟩ : MethodName)) (z := (⟨"com/example/sift_sentences/siftsentences/eval/Grading", "isRelevant", "(I)Z"⟩ : MethodName)) hown (mvT hZ (hw _ (List.mem_of_getElem? (i := 13) rfl))) (mvT hZ (hw _ (List.mem_of_getElem? (i := 14) rfl))) (notFace_of_selects (args := #[]) (mvT hZ (hw _ (List.mem_of_getElem? (i := 16) rfl)))) (mvT hZ (hw _ (List.mem_of_getElem? (i := 16) rfl))) (mvT hZ (hw _ (List.mem_of_getElem? (i := 15) rfl))) (by decide) (backOf (W := 0) (rm3 l Z a0 hw [] b1 g r h2 n0 z2q p2_1) hZ (hw _ (List.mem_of_getElem? (i := 17) rfl)) (hw _ (List.mem_of_getElem? (i := 2) rfl)) (by decide) (by decide)) q9a q9c (g := (mkF m 117 #[.val (.int r), .val (.int b), .val (.int g), .val (.int k), .val (.ref b1), .val (.int (1 : Int32))] [(.int g), (.ref b1)])) rfl (by rw [hml]; rfl) (Steps.refl _) (argsL := [(.int g)]) (rest := []) (lenOf pd_1 rfl) rfl (by show 2 * 0 + _ ≤ _; exact Nat.le_of_eq rfl) (hb hby at_117) (fun _ _ => ⟨rfl, e7, (by decide : 1 + 0 ≤ _), (by decide : 2 + 0 ≤ _)⟩)
        dsimp only [Pt.U, Pt.locs, Pt.cells, Pt.slots] at X9 l9 y9 z9 st9 hQ9
        subst l9 y9 z9
        obtain ⟨h9, e9⟩ : ∃ hh, T9.heap = hh := ⟨_, rfl⟩
        rw [e9] at hQ9
        obtain ⟨rfl, N9q, s9⟩ := hQ9
        have N9 := Fr.app N7 N9q
        refine Go.st (fun _ kk => st9.trans kk) ?_
        rw [s9] at e9
        show Go p e below s _ _ _ T9 (mkF m 120 #[.val (.int r), .val (.int b), .val (.int g), .val (.int k), .val (.ref b1), .val (.int (1 : Int32))] [(.int (b2i (¬ (g < r))))])
        rw [show (b2i (¬ (g < r))) = (0 : Int32) from b2i_neg (not_not_intro hc4)]
        show Go p e below s _ _ _ T9 (mkF m 120 #[.val (.int r), .val (.int b), .val (.int g), .val (.int k), .val (.ref b1), .val (.int (1 : Int32))] [(.int (0 : Int32))])
        refine Go.st (fun _ => XS.ifYes X9.here hx rfl (pc0 := 120) (pc' := 144) rfl (hb hby at_120) rfl ((if0 _ _).trans (teq (by decide : (0 : Int32) = (0 : Int32))).1) (by decide) (by decide)) ?_
        show Go p e below s _ _ _ T9 (mkF m 144 #[.val (.int r), .val (.int b), .val (.int g), .val (.int k), .val (.ref b1), .val (.int (1 : Int32))] [])
        refine Go.st (fun _ => XS.iload X9.here hx rfl (hb hby at_144) rfl) ?_
        show Go p e below s _ _ _ T9 (mkF m 146 #[.val (.int r), .val (.int b), .val (.int g), .val (.int k), .val (.ref b1), .val (.int (1 : Int32))] [(.int (1 : Int32))])
        exact Go.retZ X9 hx hlk Bd.returns (hb hby at_146) rfl (by rw [e9]; exact ⟨rfl, N9⟩) (by decide) (by decide)
    · refine Go.st (fun _ => XS.icmpNo X5.here hx rfl (hb hby at_61) rfl (feq hc6).1) ?_
      show Go p e below s _ _ _ T5 (mkF m 64 #[.val (.int r), .val (.int b), .val (.int g), .val (.int k), .val (.ref b1), .val (.int (1 : Int32))] [])
      refine Go.st (fun _ => XS.iload X5.here hx rfl (hb hby at_64) rfl) ?_
      show Go p e below s _ _ _ T5 (mkF m 66 #[.val (.int r), .val (.int b), .val (.int g), .val (.int k), .val (.ref b1), .val (.int (1 : Int32))] [(.int (1 : Int32))])
      refine Go.st (fun _ => XS.ifNo X5.here hx rfl (hb hby at_66) rfl ((if0 _ _).trans (feq (by decide : ¬ ((1 : Int32) = (0 : Int32)))).1)) ?_
      show Go p e below s _ _ _ T5 (mkF m 69 #[.val (.int r), .val (.int b), .val (.int g), .val (.int k), .val (.ref b1), .val (.int (1 : Int32))] [])
      refine Go.st (fun _ => XS.aload X5.here hx rfl (hb hby at_69) rfl rfl) ?_
      show Go p e below s _ _ _ T5 (mkF m 71 #[.val (.int r), .val (.int b), .val (.int g), .val (.int k), .val (.ref b1), .val (.int (1 : Int32))] [(.ref b1)])
      refine Go.st (fun _ => XS.iloadN X5.here hx rfl (hb hby at_71) rfl) ?_
      show Go p e below s _ _ _ T5 (mkF m 72 #[.val (.int r), .val (.int b), .val (.int g), .val (.int k), .val (.ref b1), .val (.int (1 : Int32))] [(.int r), (.ref b1)])
      refine Go.st (fun _ => XS.iconst X5.here hx rfl (hb hby at_72)) ?_
      show Go p e below s _ _ _ T5 (mkF m 73 #[.val (.int r), .val (.int b), .val (.int g), .val (.int k), .val (.ref b1), .val (.int (1 : Int32))] [(.int (1 : Int32)), (.int r), (.ref b1)])
      refine Go.st (fun _ => XS.isub X5.here hx rfl (hb hby at_73) rfl) ?_
      show Go p e below s _ _ _ T5 (mkF m 74 #[.val (.int r), .val (.int b), .val (.int g), .val (.int k), .val (.ref b1), .val (.int (1 : Int32))] [(.int (r - (1 : Int32))), (.ref b1)])
      obtain ⟨cq10, kq10, q10a, q10b, q10c⟩ := isOf hZ e5 p2_0
      obtain ⟨_, _, ⟨T10, L10, kc10, nc10⟩, -, X10, ⟨Lc10, hQ10, l10, y10, z10⟩, st10⟩ := X5.virtualBack hx (y := (⟨"com/example/sift_sentences/siftsentences/eval/Grading", "isRelevant", "(I)Z"⟩ : MethodName)) (z := (⟨"com/example/sift_sentences/siftsentences/eval/Grading", "isRelevant", "(I)Z"⟩ : MethodName)) hown (mvT hZ (hw _ (List.mem_of_getElem? (i := 13) rfl))) (mvT hZ (hw _ (List.mem_of_getElem? (i := 14) rfl))) (notFace_of_selects (args := #[]) (mvT hZ (hw _ (List.mem_of_getElem? (i := 16) rfl)))) (mvT hZ (hw _ (List.mem_of_getElem? (i := 16) rfl))) (mvT hZ (hw _ (List.mem_of_getElem? (i := 15) rfl))) (by decide) (backOf (W := 0) (rm3 l Z a0 hw [] b1 (r - (1 : Int32)) r h2 n0 z2q p2_1) hZ (hw _ (List.mem_of_getElem? (i := 17) rfl)) (hw _ (List.mem_of_getElem? (i := 2) rfl)) (by decide) (by decide)) q10a q10c (g := (mkF m 74 #[.val (.int r), .val (.int b), .val (.int g), .val (.int k), .val (.ref b1), .val (.int (1 : Int32))] [(.int (r - (1 : Int32))), (.ref b1)])) rfl (by rw [hml]; rfl) (Steps.refl _) (argsL := [(.int (r - (1 : Int32)))]) (rest := []) (lenOf pd_1 rfl) rfl (by show 2 * 0 + _ ≤ _; exact Nat.le_of_eq rfl) (hb hby at_74) (fun _ _ => ⟨rfl, e5, (by decide : 1 + 0 ≤ _), (by decide : 2 + 0 ≤ _)⟩)
      dsimp only [Pt.U, Pt.locs, Pt.cells, Pt.slots] at X10 l10 y10 z10 st10 hQ10
      subst l10 y10 z10
      obtain ⟨h10, e10⟩ : ∃ hh, T10.heap = hh := ⟨_, rfl⟩
      rw [e10] at hQ10
      obtain ⟨rfl, N10q, s10⟩ := hQ10
      have N10 := Fr.app N5 N10q
      refine Go.st (fun _ kk => st10.trans kk) ?_
      rw [s10] at e10
      show Go p e below s _ _ _ T10 (mkF m 77 #[.val (.int r), .val (.int b), .val (.int g), .val (.int k), .val (.ref b1), .val (.int (1 : Int32))] [(.int (b2i (¬ ((r - (1 : Int32)) < r))))])
      rw [show (b2i (¬ ((r - (1 : Int32)) < r))) = (0 : Int32) from b2i_neg (own_dec hc6)]
      show Go p e below s _ _ _ T10 (mkF m 77 #[.val (.int r), .val (.int b), .val (.int g), .val (.int k), .val (.ref b1), .val (.int (1 : Int32))] [(.int (0 : Int32))])
      refine Go.st (fun _ => XS.ifNo X10.here hx rfl (hb hby at_77) rfl ((if0 _ _).trans (teq (by decide : (0 : Int32) = (0 : Int32))).2)) ?_
      show Go p e below s _ _ _ T10 (mkF m 80 #[.val (.int r), .val (.int b), .val (.int g), .val (.int k), .val (.ref b1), .val (.int (1 : Int32))] [])
      refine Go.st (fun _ => XS.iconst X10.here hx rfl (hb hby at_80)) ?_
      show Go p e below s _ _ _ T10 (mkF m 81 #[.val (.int r), .val (.int b), .val (.int g), .val (.int k), .val (.ref b1), .val (.int (1 : Int32))] [(.int (1 : Int32))])
      refine Go.st (fun _ => XS.goto X10.here hx rfl (pc0 := 81) (pc' := 85) rfl (hb hby at_81) (by decide) (by decide)) ?_
      show Go p e below s _ _ _ T10 (mkF m 85 #[.val (.int r), .val (.int b), .val (.int g), .val (.int k), .val (.ref b1), .val (.int (1 : Int32))] [(.int (1 : Int32))])
      refine Go.st (fun _ => XS.istore X10.here hx rfl (hb hby at_85) rfl (l' := #[.val (.int r), .val (.int b), .val (.int g), .val (.int k), .val (.ref b1), .val (.int (1 : Int32))]) rfl) ?_
      show Go p e below s _ _ _ T10 (mkF m 87 #[.val (.int r), .val (.int b), .val (.int g), .val (.int k), .val (.ref b1), .val (.int (1 : Int32))] [])
      refine Go.st (fun _ => XS.iload X10.here hx rfl (hb hby at_87) rfl) ?_
      show Go p e below s _ _ _ T10 (mkF m 89 #[.val (.int r), .val (.int b), .val (.int g), .val (.int k), .val (.ref b1), .val (.int (1 : Int32))] [(.int (1 : Int32))])
      refine Go.st (fun _ => XS.ifNo X10.here hx rfl (hb hby at_89) rfl ((if0 _ _).trans (feq (by decide : ¬ ((1 : Int32) = (0 : Int32)))).1)) ?_
      show Go p e below s _ _ _ T10 (mkF m 92 #[.val (.int r), .val (.int b), .val (.int g), .val (.int k), .val (.ref b1), .val (.int (1 : Int32))] [])
      refine Go.st (fun _ => XS.aload X10.here hx rfl (hb hby at_92) rfl rfl) ?_
      show Go p e below s _ _ _ T10 (mkF m 94 #[.val (.int r), .val (.int b), .val (.int g), .val (.int k), .val (.ref b1), .val (.int (1 : Int32))] [(.ref b1)])
      refine Go.st (fun t => X10.ldcInt hx hown (mvT hZ (hw _ (List.mem_of_getElem? (i := 19) rfl))) (g := (mkF m 94 #[.val (.int r), .val (.int b), .val (.int g), .val (.int k), .val (.ref b1), .val (.int (1 : Int32))] [(.ref b1)])) rfl (hb hby at_94) t) ?_
      show Go p e below s _ _ _ T10 (mkF m 96 #[.val (.int r), .val (.int b), .val (.int g), .val (.int k), .val (.ref b1), .val (.int (1 : Int32))] [(.int (2147483647 : Int32)), (.ref b1)])
      obtain ⟨cq11, kq11, q11a, q11b, q11c⟩ := isOf hZ e10 p2_0
      obtain ⟨_, _, ⟨T11, L11, kc11, nc11⟩, -, X11, ⟨Lc11, hQ11, l11, y11, z11⟩, st11⟩ := X10.virtualBack hx (y := (⟨"com/example/sift_sentences/siftsentences/eval/Grading", "isRelevant", "(I)Z"⟩ : MethodName)) (z := (⟨"com/example/sift_sentences/siftsentences/eval/Grading", "isRelevant", "(I)Z"⟩ : MethodName)) hown (mvT hZ (hw _ (List.mem_of_getElem? (i := 13) rfl))) (mvT hZ (hw _ (List.mem_of_getElem? (i := 14) rfl))) (notFace_of_selects (args := #[]) (mvT hZ (hw _ (List.mem_of_getElem? (i := 16) rfl)))) (mvT hZ (hw _ (List.mem_of_getElem? (i := 16) rfl))) (mvT hZ (hw _ (List.mem_of_getElem? (i := 15) rfl))) (by decide) (backOf (W := 0) (rm3 l Z a0 hw [] b1 (2147483647 : Int32) r h2 n0 z2q p2_1) hZ (hw _ (List.mem_of_getElem? (i := 17) rfl)) (hw _ (List.mem_of_getElem? (i := 2) rfl)) (by decide) (by decide)) q11a q11c (g := (mkF m 96 #[.val (.int r), .val (.int b), .val (.int g), .val (.int k), .val (.ref b1), .val (.int (1 : Int32))] [(.int (2147483647 : Int32)), (.ref b1)])) rfl (by rw [hml]; rfl) (Steps.refl _) (argsL := [(.int (2147483647 : Int32))]) (rest := []) (lenOf pd_1 rfl) rfl (by show 2 * 0 + _ ≤ _; exact Nat.le_of_eq rfl) (hb hby at_96) (fun _ _ => ⟨rfl, e10, (by decide : 1 + 0 ≤ _), (by decide : 2 + 0 ≤ _)⟩)
      dsimp only [Pt.U, Pt.locs, Pt.cells, Pt.slots] at X11 l11 y11 z11 st11 hQ11
      subst l11 y11 z11
      obtain ⟨h11, e11⟩ : ∃ hh, T11.heap = hh := ⟨_, rfl⟩
      rw [e11] at hQ11
      obtain ⟨rfl, N11q, s11⟩ := hQ11
      have N11 := Fr.app N10 N11q
      refine Go.st (fun _ kk => st11.trans kk) ?_
      rw [s11] at e11
      show Go p e below s _ _ _ T11 (mkF m 99 #[.val (.int r), .val (.int b), .val (.int g), .val (.int k), .val (.ref b1), .val (.int (1 : Int32))] [(.int (b2i (¬ ((2147483647 : Int32) < r))))])
      rw [show (b2i (¬ ((2147483647 : Int32) < r))) = (1 : Int32) from b2i_pos (own_top r)]
      show Go p e below s _ _ _ T11 (mkF m 99 #[.val (.int r), .val (.int b), .val (.int g), .val (.int k), .val (.ref b1), .val (.int (1 : Int32))] [(.int (1 : Int32))])
      refine Go.st (fun _ => XS.ifNo X11.here hx rfl (hb hby at_99) rfl ((if0 _ _).trans (feq (by decide : ¬ ((1 : Int32) = (0 : Int32)))).1)) ?_
      show Go p e below s _ _ _ T11 (mkF m 102 #[.val (.int r), .val (.int b), .val (.int g), .val (.int k), .val (.ref b1), .val (.int (1 : Int32))] [])
      refine Go.st (fun _ => XS.iconst X11.here hx rfl (hb hby at_102)) ?_
      show Go p e below s _ _ _ T11 (mkF m 103 #[.val (.int r), .val (.int b), .val (.int g), .val (.int k), .val (.ref b1), .val (.int (1 : Int32))] [(.int (1 : Int32))])
      refine Go.st (fun _ => XS.goto X11.here hx rfl (pc0 := 103) (pc' := 107) rfl (hb hby at_103) (by decide) (by decide)) ?_
      show Go p e below s _ _ _ T11 (mkF m 107 #[.val (.int r), .val (.int b), .val (.int g), .val (.int k), .val (.ref b1), .val (.int (1 : Int32))] [(.int (1 : Int32))])
      refine Go.st (fun _ => XS.istore X11.here hx rfl (hb hby at_107) rfl (l' := #[.val (.int r), .val (.int b), .val (.int g), .val (.int k), .val (.ref b1), .val (.int (1 : Int32))]) rfl) ?_
      show Go p e below s _ _ _ T11 (mkF m 109 #[.val (.int r), .val (.int b), .val (.int g), .val (.int k), .val (.ref b1), .val (.int (1 : Int32))] [])
      refine Go.st (fun _ => XS.iloadN X11.here hx rfl (hb hby at_109) rfl) ?_
      show Go p e below s _ _ _ T11 (mkF m 110 #[.val (.int r), .val (.int b), .val (.int g), .val (.int k), .val (.ref b1), .val (.int (1 : Int32))] [(.int g)])
      refine Go.st (fun _ => XS.iloadN X11.here hx rfl (hb hby at_110) rfl) ?_
      show Go p e below s _ _ _ T11 (mkF m 111 #[.val (.int r), .val (.int b), .val (.int g), .val (.int k), .val (.ref b1), .val (.int (1 : Int32))] [(.int k), (.int g)])
      by_cases hc12 : k < g
      · refine Go.st (fun _ => XS.icmpYes X11.here hx rfl (pc0 := 111) (pc' := 144) rfl (hb hby at_111) rfl (tlt hc12).2.2.1 (by decide) (by decide)) ?_
        show Go p e below s _ _ _ T11 (mkF m 144 #[.val (.int r), .val (.int b), .val (.int g), .val (.int k), .val (.ref b1), .val (.int (1 : Int32))] [])
        refine Go.st (fun _ => XS.iload X11.here hx rfl (hb hby at_144) rfl) ?_
        show Go p e below s _ _ _ T11 (mkF m 146 #[.val (.int r), .val (.int b), .val (.int g), .val (.int k), .val (.ref b1), .val (.int (1 : Int32))] [(.int (1 : Int32))])
        exact Go.retZ X11 hx hlk Bd.returns (hb hby at_146) rfl (by rw [e11]; exact ⟨rfl, N11⟩) (by decide) (by decide)
      · refine Go.st (fun _ => XS.icmpNo X11.here hx rfl (hb hby at_111) rfl (flt hc12).2.2.1) ?_
        show Go p e below s _ _ _ T11 (mkF m 114 #[.val (.int r), .val (.int b), .val (.int g), .val (.int k), .val (.ref b1), .val (.int (1 : Int32))] [])
        refine Go.st (fun _ => XS.aload X11.here hx rfl (hb hby at_114) rfl rfl) ?_
        show Go p e below s _ _ _ T11 (mkF m 116 #[.val (.int r), .val (.int b), .val (.int g), .val (.int k), .val (.ref b1), .val (.int (1 : Int32))] [(.ref b1)])
        refine Go.st (fun _ => XS.iloadN X11.here hx rfl (hb hby at_116) rfl) ?_
        show Go p e below s _ _ _ T11 (mkF m 117 #[.val (.int r), .val (.int b), .val (.int g), .val (.int k), .val (.ref b1), .val (.int (1 : Int32))] [(.int g), (.ref b1)])
        obtain ⟨cq13, kq13, q13a, q13b, q13c⟩ := isOf hZ e11 p2_0
        obtain ⟨_, _, ⟨T13, L13, kc13, nc13⟩, -, X13, ⟨Lc13, hQ13, l13, y13, z13⟩, st13⟩ := X11.virtualBack hx (y := (⟨"com/example/sift_sentences/siftsentences/eval/Grading", "isRelevant", "(I)Z"⟩ : MethodName)) (z := (⟨"com/example/sift_sentences/siftsentences/eval/Grading", "isRelevant", "(I)Z"⟩ : MethodName)) hown (mvT hZ (hw _ (List.mem_of_getElem? (i := 13) rfl))) (mvT hZ (hw _ (List.mem_of_getElem? (i := 14) rfl))) (notFace_of_selects (args := #[]) (mvT hZ (hw _ (List.mem_of_getElem? (i := 16) rfl)))) (mvT hZ (hw _ (List.mem_of_getElem? (i := 16) rfl))) (mvT hZ (hw _ (List.mem_of_getElem? (i := 15) rfl))) (by decide) (backOf (W := 0) (rm3 l Z a0 hw [] b1 g r h2 n0 z2q p2_1) hZ (hw _ (List.mem_of_getElem? (i := 17) rfl)) (hw _ (List.mem_of_getElem? (i := 2) rfl)) (by decide) (by decide)) q13a q13c (g := (mkF m 117 #[.val (.int r), .val (.int b), .val (.int g), .val (.int k), .val (.ref b1), .val (.int (1 : Int32))] [(.int g), (.ref b1)])) rfl (by rw [hml]; rfl) (Steps.refl _) (argsL := [(.int g)]) (rest := []) (lenOf pd_1 rfl) rfl (by show 2 * 0 + _ ≤ _; exact Nat.le_of_eq rfl) (hb hby at_117) (fun _ _ => ⟨rfl, e11, (by decide : 1 + 0 ≤ _), (by decide : 2 + 0 ≤ _)⟩)
        dsimp only [Pt.U, Pt.locs, Pt.cells, Pt.slots] at X13 l13 y13 z13 st13 hQ13
        subst l13 y13 z13
        obtain ⟨h13, e13⟩ : ∃ hh, T13.heap = hh := ⟨_, rfl⟩
        rw [e13] at hQ13
        obtain ⟨rfl, N13q, s13⟩ := hQ13
        have N13 := Fr.app N11 N13q
        refine Go.st (fun _ kk => st13.trans kk) ?_
        rw [s13] at e13
        show Go p e below s _ _ _ T13 (mkF m 120 #[.val (.int r), .val (.int b), .val (.int g), .val (.int k), .val (.ref b1), .val (.int (1 : Int32))] [(.int (b2i (¬ (g < r))))])
        rw [show (b2i (¬ (g < r))) = (0 : Int32) from b2i_neg (not_not_intro hc4)]
        show Go p e below s _ _ _ T13 (mkF m 120 #[.val (.int r), .val (.int b), .val (.int g), .val (.int k), .val (.ref b1), .val (.int (1 : Int32))] [(.int (0 : Int32))])
        refine Go.st (fun _ => XS.ifYes X13.here hx rfl (pc0 := 120) (pc' := 144) rfl (hb hby at_120) rfl ((if0 _ _).trans (teq (by decide : (0 : Int32) = (0 : Int32))).1) (by decide) (by decide)) ?_
        show Go p e below s _ _ _ T13 (mkF m 144 #[.val (.int r), .val (.int b), .val (.int g), .val (.int k), .val (.ref b1), .val (.int (1 : Int32))] [])
        refine Go.st (fun _ => XS.iload X13.here hx rfl (hb hby at_144) rfl) ?_
        show Go p e below s _ _ _ T13 (mkF m 146 #[.val (.int r), .val (.int b), .val (.int g), .val (.int k), .val (.ref b1), .val (.int (1 : Int32))] [(.int (1 : Int32))])
        exact Go.retZ X13 hx hlk Bd.returns (hb hby at_146) rfl (by rw [e13]; exact ⟨rfl, N13⟩) (by decide) (by decide)
  · rw [show (b2i (¬ (g < r))) = (1 : Int32) from b2i_pos hc4]
    show Go p e below s _ _ _ T3 (mkF m 17 #[.val (.int r), .val (.int b), .val (.int g), .val (.int k), .val (.ref b1), .unset] [(.int (1 : Int32))])
    refine Go.st (fun _ => XS.iloadN X3.here hx rfl (hb hby at_17) rfl) ?_
    show Go p e below s _ _ _ T3 (mkF m 18 #[.val (.int r), .val (.int b), .val (.int g), .val (.int k), .val (.ref b1), .unset] [(.int g), (.int (1 : Int32))])
    refine Go.st (fun _ => XS.iloadN X3.here hx rfl (hb hby at_18) rfl) ?_
    show Go p e below s _ _ _ T3 (mkF m 19 #[.val (.int r), .val (.int b), .val (.int g), .val (.int k), .val (.ref b1), .unset] [(.int r), (.int g), (.int (1 : Int32))])
    refine Go.st (fun _ => XS.icmpNo X3.here hx rfl (hb hby at_19) rfl (flt hc4).1) ?_
    show Go p e below s _ _ _ T3 (mkF m 22 #[.val (.int r), .val (.int b), .val (.int g), .val (.int k), .val (.ref b1), .unset] [(.int (1 : Int32))])
    refine Go.st (fun _ => XS.iconst X3.here hx rfl (hb hby at_22)) ?_
    show Go p e below s _ _ _ T3 (mkF m 23 #[.val (.int r), .val (.int b), .val (.int g), .val (.int k), .val (.ref b1), .unset] [(.int (1 : Int32)), (.int (1 : Int32))])
    refine Go.st (fun _ => XS.goto X3.here hx rfl (pc0 := 23) (pc' := 27) rfl (hb hby at_23) (by decide) (by decide)) ?_
    show Go p e below s _ _ _ T3 (mkF m 27 #[.val (.int r), .val (.int b), .val (.int g), .val (.int k), .val (.ref b1), .unset] [(.int (1 : Int32)), (.int (1 : Int32))])
    refine Go.st (fun _ => XS.icmpNo X3.here hx rfl (hb hby at_27) rfl (teq (by decide : (1 : Int32) = (1 : Int32))).2) ?_
    show Go p e below s _ _ _ T3 (mkF m 30 #[.val (.int r), .val (.int b), .val (.int g), .val (.int k), .val (.ref b1), .unset] [])
    refine Go.st (fun _ => XS.iconst X3.here hx rfl (hb hby at_30)) ?_
    show Go p e below s _ _ _ T3 (mkF m 31 #[.val (.int r), .val (.int b), .val (.int g), .val (.int k), .val (.ref b1), .unset] [(.int (1 : Int32))])
    refine Go.st (fun _ => XS.goto X3.here hx rfl (pc0 := 31) (pc' := 35) rfl (hb hby at_31) (by decide) (by decide)) ?_
    show Go p e below s _ _ _ T3 (mkF m 35 #[.val (.int r), .val (.int b), .val (.int g), .val (.int k), .val (.ref b1), .unset] [(.int (1 : Int32))])
    refine Go.st (fun _ => XS.istore X3.here hx rfl (hb hby at_35) rfl (l' := #[.val (.int r), .val (.int b), .val (.int g), .val (.int k), .val (.ref b1), .val (.int (1 : Int32))]) rfl) ?_
    show Go p e below s _ _ _ T3 (mkF m 37 #[.val (.int r), .val (.int b), .val (.int g), .val (.int k), .val (.ref b1), .val (.int (1 : Int32))] [])
    refine Go.st (fun _ => XS.iload X3.here hx rfl (hb hby at_37) rfl) ?_
    show Go p e below s _ _ _ T3 (mkF m 39 #[.val (.int r), .val (.int b), .val (.int g), .val (.int k), .val (.ref b1), .val (.int (1 : Int32))] [(.int (1 : Int32))])
    refine Go.st (fun _ => XS.ifNo X3.here hx rfl (hb hby at_39) rfl ((if0 _ _).trans (feq (by decide : ¬ ((1 : Int32) = (0 : Int32)))).1)) ?_
    show Go p e below s _ _ _ T3 (mkF m 42 #[.val (.int r), .val (.int b), .val (.int g), .val (.int k), .val (.ref b1), .val (.int (1 : Int32))] [])
    refine Go.st (fun _ => XS.aload X3.here hx rfl (hb hby at_42) rfl rfl) ?_
    show Go p e below s _ _ _ T3 (mkF m 44 #[.val (.int r), .val (.int b), .val (.int g), .val (.int k), .val (.ref b1), .val (.int (1 : Int32))] [(.ref b1)])
    refine Go.st (fun _ => XS.iloadN X3.here hx rfl (hb hby at_44) rfl) ?_
    show Go p e below s _ _ _ T3 (mkF m 45 #[.val (.int r), .val (.int b), .val (.int g), .val (.int k), .val (.ref b1), .val (.int (1 : Int32))] [(.int r), (.ref b1)])
    obtain ⟨cq14, kq14, q14a, q14b, q14c⟩ := isOf hZ e3 p2_0
    obtain ⟨_, _, ⟨T14, L14, kc14, nc14⟩, -, X14, ⟨Lc14, hQ14, l14, y14, z14⟩, st14⟩ := X3.virtualBack hx (y := (⟨"com/example/sift_sentences/siftsentences/eval/Grading", "isRelevant", "(I)Z"⟩ : MethodName)) (z := (⟨"com/example/sift_sentences/siftsentences/eval/Grading", "isRelevant", "(I)Z"⟩ : MethodName)) hown (mvT hZ (hw _ (List.mem_of_getElem? (i := 13) rfl))) (mvT hZ (hw _ (List.mem_of_getElem? (i := 14) rfl))) (notFace_of_selects (args := #[]) (mvT hZ (hw _ (List.mem_of_getElem? (i := 16) rfl)))) (mvT hZ (hw _ (List.mem_of_getElem? (i := 16) rfl))) (mvT hZ (hw _ (List.mem_of_getElem? (i := 15) rfl))) (by decide) (backOf (W := 0) (rm3 l Z a0 hw [] b1 r r h2 n0 z2q p2_1) hZ (hw _ (List.mem_of_getElem? (i := 17) rfl)) (hw _ (List.mem_of_getElem? (i := 2) rfl)) (by decide) (by decide)) q14a q14c (g := (mkF m 45 #[.val (.int r), .val (.int b), .val (.int g), .val (.int k), .val (.ref b1), .val (.int (1 : Int32))] [(.int r), (.ref b1)])) rfl (by rw [hml]; rfl) (Steps.refl _) (argsL := [(.int r)]) (rest := []) (lenOf pd_1 rfl) rfl (by show 2 * 0 + _ ≤ _; exact Nat.le_of_eq rfl) (hb hby at_45) (fun _ _ => ⟨rfl, e3, (by decide : 1 + 0 ≤ _), (by decide : 2 + 0 ≤ _)⟩)
    dsimp only [Pt.U, Pt.locs, Pt.cells, Pt.slots] at X14 l14 y14 z14 st14 hQ14
    subst l14 y14 z14
    obtain ⟨h14, e14⟩ : ∃ hh, T14.heap = hh := ⟨_, rfl⟩
    rw [e14] at hQ14
    obtain ⟨rfl, N14q, s14⟩ := hQ14
    have N14 := Fr.app N3 N14q
    refine Go.st (fun _ kk => st14.trans kk) ?_
    rw [s14] at e14
    show Go p e below s _ _ _ T14 (mkF m 48 #[.val (.int r), .val (.int b), .val (.int g), .val (.int k), .val (.ref b1), .val (.int (1 : Int32))] [(.int (b2i (¬ (r < r))))])
    rw [show (b2i (¬ (r < r))) = (1 : Int32) from b2i_pos (own_irr : ¬ (r < r))]
    show Go p e below s _ _ _ T14 (mkF m 48 #[.val (.int r), .val (.int b), .val (.int g), .val (.int k), .val (.ref b1), .val (.int (1 : Int32))] [(.int (1 : Int32))])
    refine Go.st (fun _ => XS.ifNo X14.here hx rfl (hb hby at_48) rfl ((if0 _ _).trans (feq (by decide : ¬ ((1 : Int32) = (0 : Int32)))).1)) ?_
    show Go p e below s _ _ _ T14 (mkF m 51 #[.val (.int r), .val (.int b), .val (.int g), .val (.int k), .val (.ref b1), .val (.int (1 : Int32))] [])
    refine Go.st (fun _ => XS.iconst X14.here hx rfl (hb hby at_51)) ?_
    show Go p e below s _ _ _ T14 (mkF m 52 #[.val (.int r), .val (.int b), .val (.int g), .val (.int k), .val (.ref b1), .val (.int (1 : Int32))] [(.int (1 : Int32))])
    refine Go.st (fun _ => XS.goto X14.here hx rfl (pc0 := 52) (pc' := 56) rfl (hb hby at_52) (by decide) (by decide)) ?_
    show Go p e below s _ _ _ T14 (mkF m 56 #[.val (.int r), .val (.int b), .val (.int g), .val (.int k), .val (.ref b1), .val (.int (1 : Int32))] [(.int (1 : Int32))])
    refine Go.st (fun _ => XS.istore X14.here hx rfl (hb hby at_56) rfl (l' := #[.val (.int r), .val (.int b), .val (.int g), .val (.int k), .val (.ref b1), .val (.int (1 : Int32))]) rfl) ?_
    show Go p e below s _ _ _ T14 (mkF m 58 #[.val (.int r), .val (.int b), .val (.int g), .val (.int k), .val (.ref b1), .val (.int (1 : Int32))] [])
    refine Go.st (fun _ => XS.iloadN X14.here hx rfl (hb hby at_58) rfl) ?_
    show Go p e below s _ _ _ T14 (mkF m 59 #[.val (.int r), .val (.int b), .val (.int g), .val (.int k), .val (.ref b1), .val (.int (1 : Int32))] [(.int r)])
    refine Go.st (fun t => X14.ldcInt hx hown (mvT hZ (hw _ (List.mem_of_getElem? (i := 18) rfl))) (g := (mkF m 59 #[.val (.int r), .val (.int b), .val (.int g), .val (.int k), .val (.ref b1), .val (.int (1 : Int32))] [(.int r)])) rfl (hb hby at_59) t) ?_
    show Go p e below s _ _ _ T14 (mkF m 61 #[.val (.int r), .val (.int b), .val (.int g), .val (.int k), .val (.ref b1), .val (.int (1 : Int32))] [(.int (-2147483648 : Int32)), (.int r)])
    by_cases hc15 : r = (-2147483648 : Int32)
    · refine Go.st (fun _ => XS.icmpYes X14.here hx rfl (pc0 := 61) (pc' := 87) rfl (hb hby at_61) rfl (teq hc15).1 (by decide) (by decide)) ?_
      show Go p e below s _ _ _ T14 (mkF m 87 #[.val (.int r), .val (.int b), .val (.int g), .val (.int k), .val (.ref b1), .val (.int (1 : Int32))] [])
      refine Go.st (fun _ => XS.iload X14.here hx rfl (hb hby at_87) rfl) ?_
      show Go p e below s _ _ _ T14 (mkF m 89 #[.val (.int r), .val (.int b), .val (.int g), .val (.int k), .val (.ref b1), .val (.int (1 : Int32))] [(.int (1 : Int32))])
      refine Go.st (fun _ => XS.ifNo X14.here hx rfl (hb hby at_89) rfl ((if0 _ _).trans (feq (by decide : ¬ ((1 : Int32) = (0 : Int32)))).1)) ?_
      show Go p e below s _ _ _ T14 (mkF m 92 #[.val (.int r), .val (.int b), .val (.int g), .val (.int k), .val (.ref b1), .val (.int (1 : Int32))] [])
      refine Go.st (fun _ => XS.aload X14.here hx rfl (hb hby at_92) rfl rfl) ?_
      show Go p e below s _ _ _ T14 (mkF m 94 #[.val (.int r), .val (.int b), .val (.int g), .val (.int k), .val (.ref b1), .val (.int (1 : Int32))] [(.ref b1)])
      refine Go.st (fun t => X14.ldcInt hx hown (mvT hZ (hw _ (List.mem_of_getElem? (i := 19) rfl))) (g := (mkF m 94 #[.val (.int r), .val (.int b), .val (.int g), .val (.int k), .val (.ref b1), .val (.int (1 : Int32))] [(.ref b1)])) rfl (hb hby at_94) t) ?_
      show Go p e below s _ _ _ T14 (mkF m 96 #[.val (.int r), .val (.int b), .val (.int g), .val (.int k), .val (.ref b1), .val (.int (1 : Int32))] [(.int (2147483647 : Int32)), (.ref b1)])
      obtain ⟨cq16, kq16, q16a, q16b, q16c⟩ := isOf hZ e14 p2_0
      obtain ⟨_, _, ⟨T16, L16, kc16, nc16⟩, -, X16, ⟨Lc16, hQ16, l16, y16, z16⟩, st16⟩ := X14.virtualBack hx (y := (⟨"com/example/sift_sentences/siftsentences/eval/Grading", "isRelevant", "(I)Z"⟩ : MethodName)) (z := (⟨"com/example/sift_sentences/siftsentences/eval/Grading", "isRelevant", "(I)Z"⟩ : MethodName)) hown (mvT hZ (hw _ (List.mem_of_getElem? (i := 13) rfl))) (mvT hZ (hw _ (List.mem_of_getElem? (i := 14) rfl))) (notFace_of_selects (args := #[]) (mvT hZ (hw _ (List.mem_of_getElem? (i := 16) rfl)))) (mvT hZ (hw _ (List.mem_of_getElem? (i := 16) rfl))) (mvT hZ (hw _ (List.mem_of_getElem? (i := 15) rfl))) (by decide) (backOf (W := 0) (rm3 l Z a0 hw [] b1 (2147483647 : Int32) r h2 n0 z2q p2_1) hZ (hw _ (List.mem_of_getElem? (i := 17) rfl)) (hw _ (List.mem_of_getElem? (i := 2) rfl)) (by decide) (by decide)) q16a q16c (g := (mkF m 96 #[.val (.int r), .val (.int b), .val (.int g), .val (.int k), .val (.ref b1), .val (.int (1 : Int32))] [(.int (2147483647 : Int32)), (.ref b1)])) rfl (by rw [hml]; rfl) (Steps.refl _) (argsL := [(.int (2147483647 : Int32))]) (rest := []) (lenOf pd_1 rfl) rfl (by show 2 * 0 + _ ≤ _; exact Nat.le_of_eq rfl) (hb hby at_96) (fun _ _ => ⟨rfl, e14, (by decide : 1 + 0 ≤ _), (by decide : 2 + 0 ≤ _)⟩)
      dsimp only [Pt.U, Pt.locs, Pt.cells, Pt.slots] at X16 l16 y16 z16 st16 hQ16
      subst l16 y16 z16
      obtain ⟨h16, e16⟩ : ∃ hh, T16.heap = hh := ⟨_, rfl⟩
      rw [e16] at hQ16
      obtain ⟨rfl, N16q, s16⟩ := hQ16
      have N16 := Fr.app N14 N16q
      refine Go.st (fun _ kk => st16.trans kk) ?_
      rw [s16] at e16
      show Go p e below s _ _ _ T16 (mkF m 99 #[.val (.int r), .val (.int b), .val (.int g), .val (.int k), .val (.ref b1), .val (.int (1 : Int32))] [(.int (b2i (¬ ((2147483647 : Int32) < r))))])
      rw [show (b2i (¬ ((2147483647 : Int32) < r))) = (1 : Int32) from b2i_pos (own_top r)]
      show Go p e below s _ _ _ T16 (mkF m 99 #[.val (.int r), .val (.int b), .val (.int g), .val (.int k), .val (.ref b1), .val (.int (1 : Int32))] [(.int (1 : Int32))])
      refine Go.st (fun _ => XS.ifNo X16.here hx rfl (hb hby at_99) rfl ((if0 _ _).trans (feq (by decide : ¬ ((1 : Int32) = (0 : Int32)))).1)) ?_
      show Go p e below s _ _ _ T16 (mkF m 102 #[.val (.int r), .val (.int b), .val (.int g), .val (.int k), .val (.ref b1), .val (.int (1 : Int32))] [])
      refine Go.st (fun _ => XS.iconst X16.here hx rfl (hb hby at_102)) ?_
      show Go p e below s _ _ _ T16 (mkF m 103 #[.val (.int r), .val (.int b), .val (.int g), .val (.int k), .val (.ref b1), .val (.int (1 : Int32))] [(.int (1 : Int32))])
      refine Go.st (fun _ => XS.goto X16.here hx rfl (pc0 := 103) (pc' := 107) rfl (hb hby at_103) (by decide) (by decide)) ?_
      show Go p e below s _ _ _ T16 (mkF m 107 #[.val (.int r), .val (.int b), .val (.int g), .val (.int k), .val (.ref b1), .val (.int (1 : Int32))] [(.int (1 : Int32))])
      refine Go.st (fun _ => XS.istore X16.here hx rfl (hb hby at_107) rfl (l' := #[.val (.int r), .val (.int b), .val (.int g), .val (.int k), .val (.ref b1), .val (.int (1 : Int32))]) rfl) ?_
      show Go p e below s _ _ _ T16 (mkF m 109 #[.val (.int r), .val (.int b), .val (.int g), .val (.int k), .val (.ref b1), .val (.int (1 : Int32))] [])
      refine Go.st (fun _ => XS.iloadN X16.here hx rfl (hb hby at_109) rfl) ?_
      show Go p e below s _ _ _ T16 (mkF m 110 #[.val (.int r), .val (.int b), .val (.int g), .val (.int k), .val (.ref b1), .val (.int (1 : Int32))] [(.int g)])
      refine Go.st (fun _ => XS.iloadN X16.here hx rfl (hb hby at_110) rfl) ?_
      show Go p e below s _ _ _ T16 (mkF m 111 #[.val (.int r), .val (.int b), .val (.int g), .val (.int k), .val (.ref b1), .val (.int (1 : Int32))] [(.int k), (.int g)])
      by_cases hc17 : k < g
      · refine Go.st (fun _ => XS.icmpYes X16.here hx rfl (pc0 := 111) (pc' := 144) rfl (hb hby at_111) rfl (tlt hc17).2.2.1 (by decide) (by decide)) ?_
        show Go p e below s _ _ _ T16 (mkF m 144 #[.val (.int r), .val (.int b), .val (.int g), .val (.int k), .val (.ref b1), .val (.int (1 : Int32))] [])
        refine Go.st (fun _ => XS.iload X16.here hx rfl (hb hby at_144) rfl) ?_
        show Go p e below s _ _ _ T16 (mkF m 146 #[.val (.int r), .val (.int b), .val (.int g), .val (.int k), .val (.ref b1), .val (.int (1 : Int32))] [(.int (1 : Int32))])
        exact Go.retZ X16 hx hlk Bd.returns (hb hby at_146) rfl (by rw [e16]; exact ⟨rfl, N16⟩) (by decide) (by decide)
      · refine Go.st (fun _ => XS.icmpNo X16.here hx rfl (hb hby at_111) rfl (flt hc17).2.2.1) ?_
        show Go p e below s _ _ _ T16 (mkF m 114 #[.val (.int r), .val (.int b), .val (.int g), .val (.int k), .val (.ref b1), .val (.int (1 : Int32))] [])
        refine Go.st (fun _ => XS.aload X16.here hx rfl (hb hby at_114) rfl rfl) ?_
        show Go p e below s _ _ _ T16 (mkF m 116 #[.val (.int r), .val (.int b), .val (.int g), .val (.int k), .val (.ref b1), .val (.int (1 : Int32))] [(.ref b1)])
        refine Go.st (fun _ => XS.iloadN X16.here hx rfl (hb hby at_116) rfl) ?_
        show Go p e below s _ _ _ T16 (mkF m 117 #[.val (.int r), .val (.int b), .val (.int g), .val (.int k), .val (.ref b1), .val (.int (1 : Int32))] [(.int g), (.ref b1)])
        obtain ⟨cq18, kq18, q18a, q18b, q18c⟩ := isOf hZ e16 p2_0
        obtain ⟨_, _, ⟨T18, L18, kc18, nc18⟩, -, X18, ⟨Lc18, hQ18, l18, y18, z18⟩, st18⟩ := X16.virtualBack hx (y := (⟨"com/example/sift_sentences/siftsentences/eval/Grading", "isRelevant", "(I)Z"⟩ : MethodName)) (z := (⟨"com/example/sift_sentences/siftsentences/eval/Grading", "isRelevant", "(I)Z"⟩ : MethodName)) hown (mvT hZ (hw _ (List.mem_of_getElem? (i := 13) rfl))) (mvT hZ (hw _ (List.mem_of_getElem? (i := 14) rfl))) (notFace_of_selects (args := #[]) (mvT hZ (hw _ (List.mem_of_getElem? (i := 16) rfl)))) (mvT hZ (hw _ (List.mem_of_getElem? (i := 16) rfl))) (mvT hZ (hw _ (List.mem_of_getElem? (i := 15) rfl))) (by decide) (backOf (W := 0) (rm3 l Z a0 hw [] b1 g r h2 n0 z2q p2_1) hZ (hw _ (List.mem_of_getElem? (i := 17) rfl)) (hw _ (List.mem_of_getElem? (i := 2) rfl)) (by decide) (by decide)) q18a q18c (g := (mkF m 117 #[.val (.int r), .val (.int b), .val (.int g), .val (.int k), .val (.ref b1), .val (.int (1 : Int32))] [(.int g), (.ref b1)])) rfl (by rw [hml]; rfl) (Steps.refl _) (argsL := [(.int g)]) (rest := []) (lenOf pd_1 rfl) rfl (by show 2 * 0 + _ ≤ _; exact Nat.le_of_eq rfl) (hb hby at_117) (fun _ _ => ⟨rfl, e16, (by decide : 1 + 0 ≤ _), (by decide : 2 + 0 ≤ _)⟩)
        dsimp only [Pt.U, Pt.locs, Pt.cells, Pt.slots] at X18 l18 y18 z18 st18 hQ18
        subst l18 y18 z18
        obtain ⟨h18, e18⟩ : ∃ hh, T18.heap = hh := ⟨_, rfl⟩
        rw [e18] at hQ18
        obtain ⟨rfl, N18q, s18⟩ := hQ18
        have N18 := Fr.app N16 N18q
        refine Go.st (fun _ kk => st18.trans kk) ?_
        rw [s18] at e18
        show Go p e below s _ _ _ T18 (mkF m 120 #[.val (.int r), .val (.int b), .val (.int g), .val (.int k), .val (.ref b1), .val (.int (1 : Int32))] [(.int (b2i (¬ (g < r))))])
        rw [show (b2i (¬ (g < r))) = (1 : Int32) from b2i_pos hc4]
        show Go p e below s _ _ _ T18 (mkF m 120 #[.val (.int r), .val (.int b), .val (.int g), .val (.int k), .val (.ref b1), .val (.int (1 : Int32))] [(.int (1 : Int32))])
        refine Go.st (fun _ => XS.ifNo X18.here hx rfl (hb hby at_120) rfl ((if0 _ _).trans (feq (by decide : ¬ ((1 : Int32) = (0 : Int32)))).1)) ?_
        show Go p e below s _ _ _ T18 (mkF m 123 #[.val (.int r), .val (.int b), .val (.int g), .val (.int k), .val (.ref b1), .val (.int (1 : Int32))] [])
        refine Go.st (fun _ => XS.iload X18.here hx rfl (hb hby at_123) rfl) ?_
        show Go p e below s _ _ _ T18 (mkF m 125 #[.val (.int r), .val (.int b), .val (.int g), .val (.int k), .val (.ref b1), .val (.int (1 : Int32))] [(.int (1 : Int32))])
        refine Go.st (fun _ => XS.ifNo X18.here hx rfl (hb hby at_125) rfl ((if0 _ _).trans (feq (by decide : ¬ ((1 : Int32) = (0 : Int32)))).1)) ?_
        show Go p e below s _ _ _ T18 (mkF m 128 #[.val (.int r), .val (.int b), .val (.int g), .val (.int k), .val (.ref b1), .val (.int (1 : Int32))] [])
        refine Go.st (fun _ => XS.aload X18.here hx rfl (hb hby at_128) rfl rfl) ?_
        show Go p e below s _ _ _ T18 (mkF m 130 #[.val (.int r), .val (.int b), .val (.int g), .val (.int k), .val (.ref b1), .val (.int (1 : Int32))] [(.ref b1)])
        refine Go.st (fun _ => XS.iloadN X18.here hx rfl (hb hby at_130) rfl) ?_
        show Go p e below s _ _ _ T18 (mkF m 131 #[.val (.int r), .val (.int b), .val (.int g), .val (.int k), .val (.ref b1), .val (.int (1 : Int32))] [(.int k), (.ref b1)])
        obtain ⟨cq19, kq19, q19a, q19b, q19c⟩ := isOf hZ e18 p2_0
        obtain ⟨_, _, ⟨T19, L19, kc19, nc19⟩, -, X19, ⟨Lc19, hQ19, l19, y19, z19⟩, st19⟩ := X18.virtualBack hx (y := (⟨"com/example/sift_sentences/siftsentences/eval/Grading", "isRelevant", "(I)Z"⟩ : MethodName)) (z := (⟨"com/example/sift_sentences/siftsentences/eval/Grading", "isRelevant", "(I)Z"⟩ : MethodName)) hown (mvT hZ (hw _ (List.mem_of_getElem? (i := 13) rfl))) (mvT hZ (hw _ (List.mem_of_getElem? (i := 14) rfl))) (notFace_of_selects (args := #[]) (mvT hZ (hw _ (List.mem_of_getElem? (i := 16) rfl)))) (mvT hZ (hw _ (List.mem_of_getElem? (i := 16) rfl))) (mvT hZ (hw _ (List.mem_of_getElem? (i := 15) rfl))) (by decide) (backOf (W := 0) (rm3 l Z a0 hw [] b1 k r h2 n0 z2q p2_1) hZ (hw _ (List.mem_of_getElem? (i := 17) rfl)) (hw _ (List.mem_of_getElem? (i := 2) rfl)) (by decide) (by decide)) q19a q19c (g := (mkF m 131 #[.val (.int r), .val (.int b), .val (.int g), .val (.int k), .val (.ref b1), .val (.int (1 : Int32))] [(.int k), (.ref b1)])) rfl (by rw [hml]; rfl) (Steps.refl _) (argsL := [(.int k)]) (rest := []) (lenOf pd_1 rfl) rfl (by show 2 * 0 + _ ≤ _; exact Nat.le_of_eq rfl) (hb hby at_131) (fun _ _ => ⟨rfl, e18, (by decide : 1 + 0 ≤ _), (by decide : 2 + 0 ≤ _)⟩)
        dsimp only [Pt.U, Pt.locs, Pt.cells, Pt.slots] at X19 l19 y19 z19 st19 hQ19
        subst l19 y19 z19
        obtain ⟨h19, e19⟩ : ∃ hh, T19.heap = hh := ⟨_, rfl⟩
        rw [e19] at hQ19
        obtain ⟨rfl, N19q, s19⟩ := hQ19
        have N19 := Fr.app N18 N19q
        refine Go.st (fun _ kk => st19.trans kk) ?_
        rw [s19] at e19
        show Go p e below s _ _ _ T19 (mkF m 134 #[.val (.int r), .val (.int b), .val (.int g), .val (.int k), .val (.ref b1), .val (.int (1 : Int32))] [(.int (b2i (¬ (k < r))))])
        rw [show (b2i (¬ (k < r))) = (1 : Int32) from b2i_pos (own_up hc17 hc4)]
        show Go p e below s _ _ _ T19 (mkF m 134 #[.val (.int r), .val (.int b), .val (.int g), .val (.int k), .val (.ref b1), .val (.int (1 : Int32))] [(.int (1 : Int32))])
        refine Go.st (fun _ => XS.ifNo X19.here hx rfl (hb hby at_134) rfl ((if0 _ _).trans (feq (by decide : ¬ ((1 : Int32) = (0 : Int32)))).1)) ?_
        show Go p e below s _ _ _ T19 (mkF m 137 #[.val (.int r), .val (.int b), .val (.int g), .val (.int k), .val (.ref b1), .val (.int (1 : Int32))] [])
        refine Go.st (fun _ => XS.iconst X19.here hx rfl (hb hby at_137)) ?_
        show Go p e below s _ _ _ T19 (mkF m 138 #[.val (.int r), .val (.int b), .val (.int g), .val (.int k), .val (.ref b1), .val (.int (1 : Int32))] [(.int (1 : Int32))])
        refine Go.st (fun _ => XS.goto X19.here hx rfl (pc0 := 138) (pc' := 142) rfl (hb hby at_138) (by decide) (by decide)) ?_
        show Go p e below s _ _ _ T19 (mkF m 142 #[.val (.int r), .val (.int b), .val (.int g), .val (.int k), .val (.ref b1), .val (.int (1 : Int32))] [(.int (1 : Int32))])
        refine Go.st (fun _ => XS.istore X19.here hx rfl (hb hby at_142) rfl (l' := #[.val (.int r), .val (.int b), .val (.int g), .val (.int k), .val (.ref b1), .val (.int (1 : Int32))]) rfl) ?_
        show Go p e below s _ _ _ T19 (mkF m 144 #[.val (.int r), .val (.int b), .val (.int g), .val (.int k), .val (.ref b1), .val (.int (1 : Int32))] [])
        refine Go.st (fun _ => XS.iload X19.here hx rfl (hb hby at_144) rfl) ?_
        show Go p e below s _ _ _ T19 (mkF m 146 #[.val (.int r), .val (.int b), .val (.int g), .val (.int k), .val (.ref b1), .val (.int (1 : Int32))] [(.int (1 : Int32))])
        exact Go.retZ X19 hx hlk Bd.returns (hb hby at_146) rfl (by rw [e19]; exact ⟨rfl, N19⟩) (by decide) (by decide)
    · refine Go.st (fun _ => XS.icmpNo X14.here hx rfl (hb hby at_61) rfl (feq hc15).1) ?_
      show Go p e below s _ _ _ T14 (mkF m 64 #[.val (.int r), .val (.int b), .val (.int g), .val (.int k), .val (.ref b1), .val (.int (1 : Int32))] [])
      refine Go.st (fun _ => XS.iload X14.here hx rfl (hb hby at_64) rfl) ?_
      show Go p e below s _ _ _ T14 (mkF m 66 #[.val (.int r), .val (.int b), .val (.int g), .val (.int k), .val (.ref b1), .val (.int (1 : Int32))] [(.int (1 : Int32))])
      refine Go.st (fun _ => XS.ifNo X14.here hx rfl (hb hby at_66) rfl ((if0 _ _).trans (feq (by decide : ¬ ((1 : Int32) = (0 : Int32)))).1)) ?_
      show Go p e below s _ _ _ T14 (mkF m 69 #[.val (.int r), .val (.int b), .val (.int g), .val (.int k), .val (.ref b1), .val (.int (1 : Int32))] [])
      refine Go.st (fun _ => XS.aload X14.here hx rfl (hb hby at_69) rfl rfl) ?_
      show Go p e below s _ _ _ T14 (mkF m 71 #[.val (.int r), .val (.int b), .val (.int g), .val (.int k), .val (.ref b1), .val (.int (1 : Int32))] [(.ref b1)])
      refine Go.st (fun _ => XS.iloadN X14.here hx rfl (hb hby at_71) rfl) ?_
      show Go p e below s _ _ _ T14 (mkF m 72 #[.val (.int r), .val (.int b), .val (.int g), .val (.int k), .val (.ref b1), .val (.int (1 : Int32))] [(.int r), (.ref b1)])
      refine Go.st (fun _ => XS.iconst X14.here hx rfl (hb hby at_72)) ?_
      show Go p e below s _ _ _ T14 (mkF m 73 #[.val (.int r), .val (.int b), .val (.int g), .val (.int k), .val (.ref b1), .val (.int (1 : Int32))] [(.int (1 : Int32)), (.int r), (.ref b1)])
      refine Go.st (fun _ => XS.isub X14.here hx rfl (hb hby at_73) rfl) ?_
      show Go p e below s _ _ _ T14 (mkF m 74 #[.val (.int r), .val (.int b), .val (.int g), .val (.int k), .val (.ref b1), .val (.int (1 : Int32))] [(.int (r - (1 : Int32))), (.ref b1)])
      obtain ⟨cq20, kq20, q20a, q20b, q20c⟩ := isOf hZ e14 p2_0
      obtain ⟨_, _, ⟨T20, L20, kc20, nc20⟩, -, X20, ⟨Lc20, hQ20, l20, y20, z20⟩, st20⟩ := X14.virtualBack hx (y := (⟨"com/example/sift_sentences/siftsentences/eval/Grading", "isRelevant", "(I)Z"⟩ : MethodName)) (z := (⟨"com/example/sift_sentences/siftsentences/eval/Grading", "isRelevant", "(I)Z"⟩ : MethodName)) hown (mvT hZ (hw _ (List.mem_of_getElem? (i := 13) rfl))) (mvT hZ (hw _ (List.mem_of_getElem? (i := 14) rfl))) (notFace_of_selects (args := #[]) (mvT hZ (hw _ (List.mem_of_getElem? (i := 16) rfl)))) (mvT hZ (hw _ (List.mem_of_getElem? (i := 16) rfl))) (mvT hZ (hw _ (List.mem_of_getElem? (i := 15) rfl))) (by decide) (backOf (W := 0) (rm3 l Z a0 hw [] b1 (r - (1 : Int32)) r h2 n0 z2q p2_1) hZ (hw _ (List.mem_of_getElem? (i := 17) rfl)) (hw _ (List.mem_of_getElem? (i := 2) rfl)) (by decide) (by decide)) q20a q20c (g := (mkF m 74 #[.val (.int r), .val (.int b), .val (.int g), .val (.int k), .val (.ref b1), .val (.int (1 : Int32))] [(.int (r - (1 : Int32))), (.ref b1)])) rfl (by rw [hml]; rfl) (Steps.refl _) (argsL := [(.int (r - (1 : Int32)))]) (rest := []) (lenOf pd_1 rfl) rfl (by show 2 * 0 + _ ≤ _; exact Nat.le_of_eq rfl) (hb hby at_74) (fun _ _ => ⟨rfl, e14, (by decide : 1 + 0 ≤ _), (by decide : 2 + 0 ≤ _)⟩)
      dsimp only [Pt.U, Pt.locs, Pt.cells, Pt.slots] at X20 l20 y20 z20 st20 hQ20
      subst l20 y20 z20
      obtain ⟨h20, e20⟩ : ∃ hh, T20.heap = hh := ⟨_, rfl⟩
      rw [e20] at hQ20
      obtain ⟨rfl, N20q, s20⟩ := hQ20
      have N20 := Fr.app N14 N20q
      refine Go.st (fun _ kk => st20.trans kk) ?_
      rw [s20] at e20
      show Go p e below s _ _ _ T20 (mkF m 77 #[.val (.int r), .val (.int b), .val (.int g), .val (.int k), .val (.ref b1), .val (.int (1 : Int32))] [(.int (b2i (¬ ((r - (1 : Int32)) < r))))])
      rw [show (b2i (¬ ((r - (1 : Int32)) < r))) = (0 : Int32) from b2i_neg (own_dec hc15)]
      show Go p e below s _ _ _ T20 (mkF m 77 #[.val (.int r), .val (.int b), .val (.int g), .val (.int k), .val (.ref b1), .val (.int (1 : Int32))] [(.int (0 : Int32))])
      refine Go.st (fun _ => XS.ifNo X20.here hx rfl (hb hby at_77) rfl ((if0 _ _).trans (teq (by decide : (0 : Int32) = (0 : Int32))).2)) ?_
      show Go p e below s _ _ _ T20 (mkF m 80 #[.val (.int r), .val (.int b), .val (.int g), .val (.int k), .val (.ref b1), .val (.int (1 : Int32))] [])
      refine Go.st (fun _ => XS.iconst X20.here hx rfl (hb hby at_80)) ?_
      show Go p e below s _ _ _ T20 (mkF m 81 #[.val (.int r), .val (.int b), .val (.int g), .val (.int k), .val (.ref b1), .val (.int (1 : Int32))] [(.int (1 : Int32))])
      refine Go.st (fun _ => XS.goto X20.here hx rfl (pc0 := 81) (pc' := 85) rfl (hb hby at_81) (by decide) (by decide)) ?_
      show Go p e below s _ _ _ T20 (mkF m 85 #[.val (.int r), .val (.int b), .val (.int g), .val (.int k), .val (.ref b1), .val (.int (1 : Int32))] [(.int (1 : Int32))])
      refine Go.st (fun _ => XS.istore X20.here hx rfl (hb hby at_85) rfl (l' := #[.val (.int r), .val (.int b), .val (.int g), .val (.int k), .val (.ref b1), .val (.int (1 : Int32))]) rfl) ?_
      show Go p e below s _ _ _ T20 (mkF m 87 #[.val (.int r), .val (.int b), .val (.int g), .val (.int k), .val (.ref b1), .val (.int (1 : Int32))] [])
      refine Go.st (fun _ => XS.iload X20.here hx rfl (hb hby at_87) rfl) ?_
      show Go p e below s _ _ _ T20 (mkF m 89 #[.val (.int r), .val (.int b), .val (.int g), .val (.int k), .val (.ref b1), .val (.int (1 : Int32))] [(.int (1 : Int32))])
      refine Go.st (fun _ => XS.ifNo X20.here hx rfl (hb hby at_89) rfl ((if0 _ _).trans (feq (by decide : ¬ ((1 : Int32) = (0 : Int32)))).1)) ?_
      show Go p e below s _ _ _ T20 (mkF m 92 #[.val (.int r), .val (.int b), .val (.int g), .val (.int k), .val (.ref b1), .val (.int (1 : Int32))] [])
      refine Go.st (fun _ => XS.aload X20.here hx rfl (hb hby at_92) rfl rfl) ?_
      show Go p e below s _ _ _ T20 (mkF m 94 #[.val (.int r), .val (.int b), .val (.int g), .val (.int k), .val (.ref b1), .val (.int (1 : Int32))] [(.ref b1)])
      refine Go.st (fun t => X20.ldcInt hx hown (mvT hZ (hw _ (List.mem_of_getElem? (i := 19) rfl))) (g := (mkF m 94 #[.val (.int r), .val (.int b), .val (.int g), .val (.int k), .val (.ref b1), .val (.int (1 : Int32))] [(.ref b1)])) rfl (hb hby at_94) t) ?_
      show Go p e below s _ _ _ T20 (mkF m 96 #[.val (.int r), .val (.int b), .val (.int g), .val (.int k), .val (.ref b1), .val (.int (1 : Int32))] [(.int (2147483647 : Int32)), (.ref b1)])
      obtain ⟨cq21, kq21, q21a, q21b, q21c⟩ := isOf hZ e20 p2_0
      obtain ⟨_, _, ⟨T21, L21, kc21, nc21⟩, -, X21, ⟨Lc21, hQ21, l21, y21, z21⟩, st21⟩ := X20.virtualBack hx (y := (⟨"com/example/sift_sentences/siftsentences/eval/Grading", "isRelevant", "(I)Z"⟩ : MethodName)) (z := (⟨"com/example/sift_sentences/siftsentences/eval/Grading", "isRelevant", "(I)Z"⟩ : MethodName)) hown (mvT hZ (hw _ (List.mem_of_getElem? (i := 13) rfl))) (mvT hZ (hw _ (List.mem_of_getElem? (i := 14) rfl))) (notFace_of_selects (args := #[]) (mvT hZ (hw _ (List.mem_of_getElem? (i := 16) rfl)))) (mvT hZ (hw _ (List.mem_of_getElem? (i := 16) rfl))) (mvT hZ (hw _ (List.mem_of_getElem? (i := 15) rfl))) (by decide) (backOf (W := 0) (rm3 l Z a0 hw [] b1 (2147483647 : Int32) r h2 n0 z2q p2_1) hZ (hw _ (List.mem_of_getElem? (i := 17) rfl)) (hw _ (List.mem_of_getElem? (i := 2) rfl)) (by decide) (by decide)) q21a q21c (g := (mkF m 96 #[.val (.int r), .val (.int b), .val (.int g), .val (.int k), .val (.ref b1), .val (.int (1 : Int32))] [(.int (2147483647 : Int32)), (.ref b1)])) rfl (by rw [hml]; rfl) (Steps.refl _) (argsL := [(.int (2147483647 : Int32))]) (rest := []) (lenOf pd_1 rfl) rfl (by show 2 * 0 + _ ≤ _; exact Nat.le_of_eq rfl) (hb hby at_96) (fun _ _ => ⟨rfl, e20, (by decide : 1 + 0 ≤ _), (by decide : 2 + 0 ≤ _)⟩)
      dsimp only [Pt.U, Pt.locs, Pt.cells, Pt.slots] at X21 l21 y21 z21 st21 hQ21
      subst l21 y21 z21
      obtain ⟨h21, e21⟩ : ∃ hh, T21.heap = hh := ⟨_, rfl⟩
      rw [e21] at hQ21
      obtain ⟨rfl, N21q, s21⟩ := hQ21
      have N21 := Fr.app N20 N21q
      refine Go.st (fun _ kk => st21.trans kk) ?_
      rw [s21] at e21
      show Go p e below s _ _ _ T21 (mkF m 99 #[.val (.int r), .val (.int b), .val (.int g), .val (.int k), .val (.ref b1), .val (.int (1 : Int32))] [(.int (b2i (¬ ((2147483647 : Int32) < r))))])
      rw [show (b2i (¬ ((2147483647 : Int32) < r))) = (1 : Int32) from b2i_pos (own_top r)]
      show Go p e below s _ _ _ T21 (mkF m 99 #[.val (.int r), .val (.int b), .val (.int g), .val (.int k), .val (.ref b1), .val (.int (1 : Int32))] [(.int (1 : Int32))])
      refine Go.st (fun _ => XS.ifNo X21.here hx rfl (hb hby at_99) rfl ((if0 _ _).trans (feq (by decide : ¬ ((1 : Int32) = (0 : Int32)))).1)) ?_
      show Go p e below s _ _ _ T21 (mkF m 102 #[.val (.int r), .val (.int b), .val (.int g), .val (.int k), .val (.ref b1), .val (.int (1 : Int32))] [])
      refine Go.st (fun _ => XS.iconst X21.here hx rfl (hb hby at_102)) ?_
      show Go p e below s _ _ _ T21 (mkF m 103 #[.val (.int r), .val (.int b), .val (.int g), .val (.int k), .val (.ref b1), .val (.int (1 : Int32))] [(.int (1 : Int32))])
      refine Go.st (fun _ => XS.goto X21.here hx rfl (pc0 := 103) (pc' := 107) rfl (hb hby at_103) (by decide) (by decide)) ?_
      show Go p e below s _ _ _ T21 (mkF m 107 #[.val (.int r), .val (.int b), .val (.int g), .val (.int k), .val (.ref b1), .val (.int (1 : Int32))] [(.int (1 : Int32))])
      refine Go.st (fun _ => XS.istore X21.here hx rfl (hb hby at_107) rfl (l' := #[.val (.int r), .val (.int b), .val (.int g), .val (.int k), .val (.ref b1), .val (.int (1 : Int32))]) rfl) ?_
      show Go p e below s _ _ _ T21 (mkF m 109 #[.val (.int r), .val (.int b), .val (.int g), .val (.int k), .val (.ref b1), .val (.int (1 : Int32))] [])
      refine Go.st (fun _ => XS.iloadN X21.here hx rfl (hb hby at_109) rfl) ?_
      show Go p e below s _ _ _ T21 (mkF m 110 #[.val (.int r), .val (.int b), .val (.int g), .val (.int k), .val (.ref b1), .val (.int (1 : Int32))] [(.int g)])
      refine Go.st (fun _ => XS.iloadN X21.here hx rfl (hb hby at_110) rfl) ?_
      show Go p e below s _ _ _ T21 (mkF m 111 #[.val (.int r), .val (.int b), .val (.int g), .val (.int k), .val (.ref b1), .val (.int (1 : Int32))] [(.int k), (.int g)])
      by_cases hc22 : k < g
      · refine Go.st (fun _ => XS.icmpYes X21.here hx rfl (pc0 := 111) (pc' := 144) rfl (hb hby at_111) rfl (tlt hc22).2.2.1 (by decide) (by decide)) ?_
        show Go p e below s _ _ _ T21 (mkF m 144 #[.val (.int r), .val (.int b), .val (.int g), .val (.int k), .val (.ref b1), .val (.int (1 : Int32))] [])
        refine Go.st (fun _ => XS.iload X21.here hx rfl (hb hby at_144) rfl) ?_
        show Go p e below s _ _ _ T21 (mkF m 146 #[.val (.int r), .val (.int b), .val (.int g), .val (.int k), .val (.ref b1), .val (.int (1 : Int32))] [(.int (1 : Int32))])
        exact Go.retZ X21 hx hlk Bd.returns (hb hby at_146) rfl (by rw [e21]; exact ⟨rfl, N21⟩) (by decide) (by decide)
      · refine Go.st (fun _ => XS.icmpNo X21.here hx rfl (hb hby at_111) rfl (flt hc22).2.2.1) ?_
        show Go p e below s _ _ _ T21 (mkF m 114 #[.val (.int r), .val (.int b), .val (.int g), .val (.int k), .val (.ref b1), .val (.int (1 : Int32))] [])
        refine Go.st (fun _ => XS.aload X21.here hx rfl (hb hby at_114) rfl rfl) ?_
        show Go p e below s _ _ _ T21 (mkF m 116 #[.val (.int r), .val (.int b), .val (.int g), .val (.int k), .val (.ref b1), .val (.int (1 : Int32))] [(.ref b1)])
        refine Go.st (fun _ => XS.iloadN X21.here hx rfl (hb hby at_116) rfl) ?_
        show Go p e below s _ _ _ T21 (mkF m 117 #[.val (.int r), .val (.int b), .val (.int g), .val (.int k), .val (.ref b1), .val (.int (1 : Int32))] [(.int g), (.ref b1)])
        obtain ⟨cq23, kq23, q23a, q23b, q23c⟩ := isOf hZ e21 p2_0
        obtain ⟨_, _, ⟨T23, L23, kc23, nc23⟩, -, X23, ⟨Lc23, hQ23, l23, y23, z23⟩, st23⟩ := X21.virtualBack hx (y := (⟨"com/example/sift_sentences/siftsentences/eval/Grading", "isRelevant", "(I)Z"⟩ : MethodName)) (z := (⟨"com/example/sift_sentences/siftsentences/eval/Grading", "isRelevant", "(I)Z"⟩ : MethodName)) hown (mvT hZ (hw _ (List.mem_of_getElem? (i := 13) rfl))) (mvT hZ (hw _ (List.mem_of_getElem? (i := 14) rfl))) (notFace_of_selects (args := #[]) (mvT hZ (hw _ (List.mem_of_getElem? (i := 16) rfl)))) (mvT hZ (hw _ (List.mem_of_getElem? (i := 16) rfl))) (mvT hZ (hw _ (List.mem_of_getElem? (i := 15) rfl))) (by decide) (backOf (W := 0) (rm3 l Z a0 hw [] b1 g r h2 n0 z2q p2_1) hZ (hw _ (List.mem_of_getElem? (i := 17) rfl)) (hw _ (List.mem_of_getElem? (i := 2) rfl)) (by decide) (by decide)) q23a q23c (g := (mkF m 117 #[.val (.int r), .val (.int b), .val (.int g), .val (.int k), .val (.ref b1), .val (.int (1 : Int32))] [(.int g), (.ref b1)])) rfl (by rw [hml]; rfl) (Steps.refl _) (argsL := [(.int g)]) (rest := []) (lenOf pd_1 rfl) rfl (by show 2 * 0 + _ ≤ _; exact Nat.le_of_eq rfl) (hb hby at_117) (fun _ _ => ⟨rfl, e21, (by decide : 1 + 0 ≤ _), (by decide : 2 + 0 ≤ _)⟩)
        dsimp only [Pt.U, Pt.locs, Pt.cells, Pt.slots] at X23 l23 y23 z23 st23 hQ23
        subst l23 y23 z23
        obtain ⟨h23, e23⟩ : ∃ hh, T23.heap = hh := ⟨_, rfl⟩
        rw [e23] at hQ23
        obtain ⟨rfl, N23q, s23⟩ := hQ23
        have N23 := Fr.app N21 N23q
        refine Go.st (fun _ kk => st23.trans kk) ?_
        rw [s23] at e23
        show Go p e below s _ _ _ T23 (mkF m 120 #[.val (.int r), .val (.int b), .val (.int g), .val (.int k), .val (.ref b1), .val (.int (1 : Int32))] [(.int (b2i (¬ (g < r))))])
        rw [show (b2i (¬ (g < r))) = (1 : Int32) from b2i_pos hc4]
        show Go p e below s _ _ _ T23 (mkF m 120 #[.val (.int r), .val (.int b), .val (.int g), .val (.int k), .val (.ref b1), .val (.int (1 : Int32))] [(.int (1 : Int32))])
        refine Go.st (fun _ => XS.ifNo X23.here hx rfl (hb hby at_120) rfl ((if0 _ _).trans (feq (by decide : ¬ ((1 : Int32) = (0 : Int32)))).1)) ?_
        show Go p e below s _ _ _ T23 (mkF m 123 #[.val (.int r), .val (.int b), .val (.int g), .val (.int k), .val (.ref b1), .val (.int (1 : Int32))] [])
        refine Go.st (fun _ => XS.iload X23.here hx rfl (hb hby at_123) rfl) ?_
        show Go p e below s _ _ _ T23 (mkF m 125 #[.val (.int r), .val (.int b), .val (.int g), .val (.int k), .val (.ref b1), .val (.int (1 : Int32))] [(.int (1 : Int32))])
        refine Go.st (fun _ => XS.ifNo X23.here hx rfl (hb hby at_125) rfl ((if0 _ _).trans (feq (by decide : ¬ ((1 : Int32) = (0 : Int32)))).1)) ?_
        show Go p e below s _ _ _ T23 (mkF m 128 #[.val (.int r), .val (.int b), .val (.int g), .val (.int k), .val (.ref b1), .val (.int (1 : Int32))] [])
        refine Go.st (fun _ => XS.aload X23.here hx rfl (hb hby at_128) rfl rfl) ?_
        show Go p e below s _ _ _ T23 (mkF m 130 #[.val (.int r), .val (.int b), .val (.int g), .val (.int k), .val (.ref b1), .val (.int (1 : Int32))] [(.ref b1)])
        refine Go.st (fun _ => XS.iloadN X23.here hx rfl (hb hby at_130) rfl) ?_
        show Go p e below s _ _ _ T23 (mkF m 131 #[.val (.int r), .val (.int b), .val (.int g), .val (.int k), .val (.ref b1), .val (.int (1 : Int32))] [(.int k), (.ref b1)])
        obtain ⟨cq24, kq24, q24a, q24b, q24c⟩ := isOf hZ e23 p2_0
        obtain ⟨_, _, ⟨T24, L24, kc24, nc24⟩, -, X24, ⟨Lc24, hQ24, l24, y24, z24⟩, st24⟩ := X23.virtualBack hx (y := (⟨"com/example/sift_sentences/siftsentences/eval/Grading", "isRelevant", "(I)Z"⟩ : MethodName)) (z := (⟨"com/example/sift_sentences/siftsentences/eval/Grading", "isRelevant", "(I)Z"⟩ : MethodName)) hown (mvT hZ (hw _ (List.mem_of_getElem? (i := 13) rfl))) (mvT hZ (hw _ (List.mem_of_getElem? (i := 14) rfl))) (notFace_of_selects (args := #[]) (mvT hZ (hw _ (List.mem_of_getElem? (i := 16) rfl)))) (mvT hZ (hw _ (List.mem_of_getElem? (i := 16) rfl))) (mvT hZ (hw _ (List.mem_of_getElem? (i := 15) rfl))) (by decide) (backOf (W := 0) (rm3 l Z a0 hw [] b1 k r h2 n0 z2q p2_1) hZ (hw _ (List.mem_of_getElem? (i := 17) rfl)) (hw _ (List.mem_of_getElem? (i := 2) rfl)) (by decide) (by decide)) q24a q24c (g := (mkF m 131 #[.val (.int r), .val (.int b), .val (.int g), .val (.int k), .val (.ref b1), .val (.int (1 : Int32))] [(.int k), (.ref b1)])) rfl (by rw [hml]; rfl) (Steps.refl _) (argsL := [(.int k)]) (rest := []) (lenOf pd_1 rfl) rfl (by show 2 * 0 + _ ≤ _; exact Nat.le_of_eq rfl) (hb hby at_131) (fun _ _ => ⟨rfl, e23, (by decide : 1 + 0 ≤ _), (by decide : 2 + 0 ≤ _)⟩)
        dsimp only [Pt.U, Pt.locs, Pt.cells, Pt.slots] at X24 l24 y24 z24 st24 hQ24
        subst l24 y24 z24
        obtain ⟨h24, e24⟩ : ∃ hh, T24.heap = hh := ⟨_, rfl⟩
        rw [e24] at hQ24
        obtain ⟨rfl, N24q, s24⟩ := hQ24
        have N24 := Fr.app N23 N24q
        refine Go.st (fun _ kk => st24.trans kk) ?_
        rw [s24] at e24
        show Go p e below s _ _ _ T24 (mkF m 134 #[.val (.int r), .val (.int b), .val (.int g), .val (.int k), .val (.ref b1), .val (.int (1 : Int32))] [(.int (b2i (¬ (k < r))))])
        rw [show (b2i (¬ (k < r))) = (1 : Int32) from b2i_pos (own_up hc22 hc4)]
        show Go p e below s _ _ _ T24 (mkF m 134 #[.val (.int r), .val (.int b), .val (.int g), .val (.int k), .val (.ref b1), .val (.int (1 : Int32))] [(.int (1 : Int32))])
        refine Go.st (fun _ => XS.ifNo X24.here hx rfl (hb hby at_134) rfl ((if0 _ _).trans (feq (by decide : ¬ ((1 : Int32) = (0 : Int32)))).1)) ?_
        show Go p e below s _ _ _ T24 (mkF m 137 #[.val (.int r), .val (.int b), .val (.int g), .val (.int k), .val (.ref b1), .val (.int (1 : Int32))] [])
        refine Go.st (fun _ => XS.iconst X24.here hx rfl (hb hby at_137)) ?_
        show Go p e below s _ _ _ T24 (mkF m 138 #[.val (.int r), .val (.int b), .val (.int g), .val (.int k), .val (.ref b1), .val (.int (1 : Int32))] [(.int (1 : Int32))])
        refine Go.st (fun _ => XS.goto X24.here hx rfl (pc0 := 138) (pc' := 142) rfl (hb hby at_138) (by decide) (by decide)) ?_
        show Go p e below s _ _ _ T24 (mkF m 142 #[.val (.int r), .val (.int b), .val (.int g), .val (.int k), .val (.ref b1), .val (.int (1 : Int32))] [(.int (1 : Int32))])
        refine Go.st (fun _ => XS.istore X24.here hx rfl (hb hby at_142) rfl (l' := #[.val (.int r), .val (.int b), .val (.int g), .val (.int k), .val (.ref b1), .val (.int (1 : Int32))]) rfl) ?_
        show Go p e below s _ _ _ T24 (mkF m 144 #[.val (.int r), .val (.int b), .val (.int g), .val (.int k), .val (.ref b1), .val (.int (1 : Int32))] [])
        refine Go.st (fun _ => XS.iload X24.here hx rfl (hb hby at_144) rfl) ?_
        show Go p e below s _ _ _ T24 (mkF m 146 #[.val (.int r), .val (.int b), .val (.int g), .val (.int k), .val (.ref b1), .val (.int (1 : Int32))] [(.int (1 : Int32))])
        exact Go.retZ X24 hx hlk Bd.returns (hb hby at_146) rfl (by rw [e24]; exact ⟨rfl, N24⟩) (by decide) (by decide)
set_option maxRecDepth 65536 in
set_option maxHeartbeats 40000000 in
theorem comes_1 {Post : Tables → Env → Array Value → State → Outcome → State → Prop} (hpost : ∀ tb e args s v u, (limb_1_1.after args s (.returned v) u = true ∧ limb_1_2.after args s (.returned v) u = true ∧ True) → FrameEnd s (.returned v) u (Jvm.fieldLocs frame_1_writes args s ++ Jvm.arrayLocs frame_1_arrays args s ++ Jvm.staticLocs frame_1_statics s) 16 128 → Post tb e args s (.returned v) u) :
    ArmFor flags0 classFile x code maxLocals ret World_1 tables_1 room_1 Calls_1 rest_1 Pre_1 Post := by
  intro l hfl _ _ p e ha hc hk s m args below hf hA hF happ hP
  obtain ⟨hcalls, hrest, hpre⟩ := hP
  obtain ⟨-, -, -, hnamed, -, -, -, hat⟩ := (Spec.applies_iff hf).mp happ
  obtain ⟨hg, hn⟩ := and_e (Cond.before_iff.mp (show (Jvm.Cond.and given_1 narrow_1).before args s = true from hpre))
  obtain ⟨g1, g2⟩ := and_e hg
  obtain ⟨g3, g4⟩ := and_e g2
  obtain ⟨g5, g6⟩ := and_e g4
  obtain ⟨g7, g8⟩ := and_e g6
  obtain ⟨w0, w1, w2, w3, rfl⟩ : ∃ w0 w1 w2 w3 : Value, args = #[w0, w1, w2, w3] := by
    have hs : args.size = 4 := by simpa [Cond.value, given_1] using g1
    obtain ⟨L⟩ := args
    match L, hs with
    | [w0, w1, w2, w3], _ => exact ⟨w0, w1, w2, w3, rfl⟩
  have hw := fun d (hd : d ∈ tables_1) => atoms_spec (ws := Jvm.Cond.code x code maxLocals ret :: tables_1) hat d (List.mem_cons_of_mem _ hd)
  have hfit : Fit s := fun {y c} hc i hi => by
    obtain ⟨ha, rfl⟩ := Array.getElem?_eq_some_iff.mp hc
    have q := List.all_eq_true.mp ((Array.all_eq_true_iff_forall_mem.mp hF) _ (Array.getElem_mem ha)) i (List.mem_range.mpr hi)
    simpa [Array.getElem?_eq_getElem hi] using q
  obtain ⟨i0, ei0⟩ := is_v g3
  obtain rfl : w0 = (.int i0) := Option.some.inj ei0
  obtain ⟨i1, ei1⟩ := is_v g5
  obtain rfl : w1 = (.int i1) := Option.some.inj ei1
  obtain ⟨i2, ei2⟩ := is_v g7
  obtain rfl : w2 = (.int i2) := Option.some.inj ei2
  obtain ⟨i3, ei3⟩ := is_v g8
  obtain rfl : w3 = (.int i3) := Option.some.inj ei3
  obtain ⟨n, o, h1, h2, h3, _, L, rfl, ⟨rfl, N⟩, hq⟩ := rm0 l s _ hw tables_1 i0 i1 i2 i3 s.heap s.heap.size (Nat.le_refl _)  p e ha hc hk s m _ below hf ((Spec.applies_iff_loose hf).mp happ).1 ⟨rfl, State.Warmed39.refl s, rfl⟩ trivial
  refine ⟨n, _, h1, h2, h3, hpost _ _ _ _ _ _ ⟨Cond.after_iff.mpr rfl, Cond.after_iff.mpr (eq_i res_at (Term.int_eval (1)) rfl), trivial⟩ ⟨hq.1, hq.2.1, (hq.2.2.sift fun y hy => Or.inr (N y hy)).mono (by decide) (by decide)⟩⟩
theorem main_1_1 : Claimed_1_1 := comes_1 fun _ _ _ _ _ _ h hF => ⟨h.1, hF⟩
theorem main_1_2 : Claimed_1_2 := comes_1 fun _ _ _ _ _ _ h hF => ⟨h.2.1, hF⟩
end Jvm.Pilot.@@N@@
namespace Jvm.Pilot.@@N@@
open Jvm Jvm.ClassFile Sem Op Lib Jvm.Free Jvm.Stand Jvm.Pilot.@@N@@.Jvm.D
/-! MADE BY PROGRAM (witnessworld.py) out of the Statement's table words and the real class files: 9 classes; the members and pool entries that the words name. The judged class is class 1, her method 1. -/
namespace start1
open Jvm.ClassFile
def u (s : String) : CpInfo := .utf8 (stringToUtf16 s)
/-- a pool by its gaps: so many unusable entries, then the entry; so many at the end -/
def gap : Nat → List CpInfo → List CpInfo
  | 0, r => r
  | n + 1, r => .unusable :: gap n r
def poolList (es : List (Nat × CpInfo)) (last : Nat) : List CpInfo := es.foldr (fun e r => gap e.1 (e.2 :: r)) (gap last [])
def pool (es : List (Nat × CpInfo)) (last : Nat) : Array CpInfo := ⟨poolList es last⟩
def fileOf (pool : Array CpInfo) (this : Nat) (attrs : Array Attribute := #[]) (ms : Array MethodInfo := #[]) (fl : Nat := 33) (sup : Nat := 0) (ifs : Array Nat := #[]) (fds : Array FieldInfo := #[]) : ClassFile where
  minorVersion := 0
  majorVersion := 65
  constantPool := pool
  accessFlags := fl
  thisClass := this
  superClass := sup
  interfaces := ifs
  fields := fds
  methods := ms
  attributes := attrs
def plain (name : String) (sup : Option ClassId) : Class where
  name := name
  kind := .ordinary
  loader := none
  accessFlags := 33
  super := sup
  interfaces := #[]
  cf := none
  fields := #[]
  methods := #[]
  instanceTypes := #[]
  staticTypes := #[]
  resolved := #[]
  callSites := []
  init := .initialized
  statics := none
  mirror := none

def pool0 : Array CpInfo := pool [(5, u "<init>"), (0, u "()V"), (1, .class_ 10), (1, u "java/lang/Object")] 113

def k0c0 : Code := { maxStack := 0, maxLocals := 1, code := object_method_1_code, exceptionTable := #[], attributes := #[] }
def k0m0 : Method := { name := "<init>", desc := "()V", sig := { parameters := [], returnType := none }, accessFlags := 1, code := some k0c0 }
/-- java/lang/Object -/
def k0 : Class := { plain "java/lang/Object" none with
  accessFlags := 33
  interfaces := #[]
  cf := some (fileOf pool0 8 #[] #[{ accessFlags := 1, nameIndex := 5, descriptorIndex := 6, attributes := #[] }] 33 0 #[] #[])
  fields := #[]
  methods := #[k0m0]
  instanceTypes := #[]
  staticTypes := #[]
  resolved := Array.replicate 124 none
  statics := none }

def pool1 : Array CpInfo := pool [(2, .class_ 4), (1, u "java/lang/Object"), (0, u "<init>"), (0, u "()V"), (0, .class_ 8), (0, u "com/example/sift_sentences/siftsentences/eval/Grading"), (0, .methodref 7 10), (0, .nameAndType 5 11), (0, u "(II)V"), (0, .methodref 7 13), (0, .nameAndType 14 15), (0, u "isRelevant"), (0, u "(I)Z"), (2, .integer 2147483648), (0, .integer 2147483647), (0, .class_ 21), (0, u "com/example/sift_sentences/siftsentences/eval/GradingIsRelevantPinLaw"), (2, u "law"), (0, u "(IIII)Z")] 3

def k1m0 : Method := { name := "<init>", desc := "()V", sig := { parameters := [], returnType := none }, accessFlags := 1, code := none }
def k1c1 : Code := { maxStack := 4, maxLocals := 6, code := code, exceptionTable := #[], attributes := #[] }
def k1m1 : Method := { name := "law", desc := "(IIII)Z", sig := { parameters := [.int, .int, .int, .int], returnType := some .boolean }, accessFlags := 9, code := some k1c1 }
/-- com/example/sift_sentences/siftsentences/eval/GradingIsRelevantPinLaw -/
def k1 : Class := { plain "com/example/sift_sentences/siftsentences/eval/GradingIsRelevantPinLaw" (some 0) with
  accessFlags := 49
  interfaces := #[]
  cf := some (fileOf pool1 20 #[] #[{ accessFlags := 1, nameIndex := 5, descriptorIndex := 6, attributes := #[] }, { accessFlags := 9, nameIndex := 24, descriptorIndex := 25, attributes := #[] }] 49 2 #[] #[])
  fields := #[]
  methods := #[k1m0, k1m1]
  instanceTypes := #[]
  staticTypes := #[]
  resolved := Array.replicate 29 none
  statics := none }

def pool2 : Array CpInfo := pool [(1, .methodref 2 3), (0, .class_ 4), (0, .nameAndType 5 6), (0, u "java/lang/Object"), (0, u "<init>"), (0, u "()V"), (0, .fieldref 8 9), (0, .class_ 10), (0, .nameAndType 11 12), (0, u "com/example/sift_sentences/siftsentences/eval/Grading"), (0, u "relevantGrade"), (0, u "I"), (0, .fieldref 8 14), (0, .nameAndType 15 12), (0, u "baseGrade"), (20, u "DEFAULT_RELEVANT_GRADE"), (2, u "DEFAULT_BASE_GRADE"), (1, u "LEAST_EXPONENT"), (1, u "(II)V"), (4, u "isRelevant"), (0, u "(I)Z")] 5

def k2c0 : Code := { maxStack := 2, maxLocals := 3, code := prog_11_method_1_code, exceptionTable := #[], attributes := #[] }
def k2m0 : Method := { name := "<init>", desc := "(II)V", sig := { parameters := [.int, .int], returnType := none }, accessFlags := 1, code := some k2c0 }
def k2c1 : Code := { maxStack := 2, maxLocals := 2, code := prog_11_method_3_code, exceptionTable := #[], attributes := #[] }
def k2m1 : Method := { name := "isRelevant", desc := "(I)Z", sig := { parameters := [.int], returnType := some .boolean }, accessFlags := 1, code := some k2c1 }
/-- com/example/sift_sentences/siftsentences/eval/Grading -/
def k2 : Class := { plain "com/example/sift_sentences/siftsentences/eval/Grading" (some 0) with
  accessFlags := 33
  interfaces := #[]
  cf := some (fileOf pool2 8 #[] #[{ accessFlags := 1, nameIndex := 5, descriptorIndex := 43, attributes := #[] }, { accessFlags := 1, nameIndex := 48, descriptorIndex := 49, attributes := #[] }] 33 2 #[] #[{ accessFlags := 25, nameIndex := 36, descriptorIndex := 12, attributes := #[] }, { accessFlags := 25, nameIndex := 39, descriptorIndex := 12, attributes := #[] }, { accessFlags := 26, nameIndex := 41, descriptorIndex := 12, attributes := #[] }, { accessFlags := 18, nameIndex := 11, descriptorIndex := 12, attributes := #[] }, { accessFlags := 18, nameIndex := 15, descriptorIndex := 12, attributes := #[] }])
  fields := #[{ name := "DEFAULT_RELEVANT_GRADE", type := .int, accessFlags := 25, slot := 0, constantValue := 0 }, { name := "DEFAULT_BASE_GRADE", type := .int, accessFlags := 25, slot := 1, constantValue := 0 }, { name := "LEAST_EXPONENT", type := .int, accessFlags := 26, slot := 2, constantValue := 0 }, { name := "relevantGrade", type := .int, accessFlags := 18, slot := 0, constantValue := 0 }, { name := "baseGrade", type := .int, accessFlags := 18, slot := 1, constantValue := 0 }]
  methods := #[k2m0, k2m1]
  instanceTypes := #[.int, .int]
  staticTypes := #[.int, .int, .int]
  resolved := Array.replicate 55 none
  statics := none }

def pool3 : Array CpInfo := pool [(1, u "java/lang/Cloneable"), (0, .class_ 1), (0, u "java/lang/Object"), (0, .class_ 3)] 3

/-- java/lang/Cloneable -/
def k3 : Class := { plain "java/lang/Cloneable" (some 0) with
  accessFlags := 1537
  interfaces := #[]
  cf := some (fileOf pool3 2 #[] #[] 1537 4 #[] #[])
  fields := #[]
  methods := #[]
  instanceTypes := #[]
  staticTypes := #[]
  resolved := Array.replicate 8 none
  statics := none }

def pool4 : Array CpInfo := pool [(1, u "java/io/Serializable"), (0, .class_ 1), (0, u "java/lang/Object"), (0, .class_ 3)] 3

/-- java/io/Serializable -/
def k4 : Class := { plain "java/io/Serializable" (some 0) with
  accessFlags := 1537
  interfaces := #[]
  cf := some (fileOf pool4 2 #[] #[] 1537 4 #[] #[])
  fields := #[]
  methods := #[]
  instanceTypes := #[]
  staticTypes := #[]
  resolved := Array.replicate 8 none
  statics := none }

/-- the primitive byte -/
def k5 : Class := { plain "byte" none with kind := .primitive 'B', accessFlags := 0x411 }
/-- [B -/
def k6 : Class := { plain "[B" (some 0) with kind := .array 5 .byte, interfaces := #[3, 4], accessFlags := 1041 }

/-- the primitive int -/
def k7 : Class := { plain "int" none with kind := .primitive 'I', accessFlags := 0x411 }
/-- [I -/
def k8 : Class := { plain "[I" (some 0) with kind := .array 7 .int, interfaces := #[3, 4], accessFlags := 1041 }

def heap : Heap := #[]
def classes : Array Class := #[k0, k1, k2, k3, k4, k5, k6, k7, k8]
def interned : List (Array UInt16 × Addr) := []
def slotsUsed : Nat := 0
def theMethod : MethodId := ⟨1, 1⟩
def args0 : Array Value := #[.int 5, .int 6, .int 7, .int 8]
def aboutOver (below : List Frame) : State where
  vm := { classes := classes, interned := interned.toArray }
  heap := heap
  slotsUsed := slotsUsed
  threads := #[{ frames := .invoking theMethod args0 :: below }]
def below0 : List Frame := [.native { method := ⟨0, 0⟩, args := #[] }]
def about1 : State := aboutOver below0
def p0 : Program := .bare "" "" ""
def e0 : Env := launch0.env 0 0 0
theorem w_frames : about1.frames = Frame.invoking theMethod args0 :: below0 := rfl
set_option maxRecDepth 65536 in
theorem w_args : argsFit about1.vm theMethod args0 = true := by decide +kernel
set_option maxRecDepth 65536 in
theorem w_heap : heapFits about1 = true := by decide +kernel
set_option maxRecDepth 65536 in
theorem w_runnable : about1.curStatus? = some .runnable := by decide +kernel
set_option maxRecDepth 65536 in
theorem w_alone : about1.alone = true := by decide +kernel
set_option maxRecDepth 65536 in
theorem w_named : about1.methodNamed? x = some theMethod := by decide +kernel
set_option maxRecDepth 65536 in
theorem w_hears : about1.hears theMethod below0 = true := by decide +kernel
set_option maxRecDepth 65536 in
theorem w_ripe : about1.ripe theMethod args0 below0 = true := by decide +kernel
theorem w_running : about1.status = .running := rfl
set_option maxRecDepth 65536 in
theorem w_room : about1.hasRoom e0.platform room_1 = true :=
  launch0.hasRoom_least _ room_1 (by decide +kernel) (by decide +kernel) (by decide +kernel) (by decide +kernel) (by decide +kernel) (by decide +kernel)
theorem allAtoms_all (ts : List Jvm.Cond) (a : Array Jvm.Value) (st : Jvm.State) : (allAtoms ts).before a st = ts.all (fun c => c.before a st) := by
  induction ts with
  | nil => rfl
  | cons c t ih =>
    show (Jvm.Cond.and c (allAtoms t)).before a st = _
    rw [Jvm.Cond.before_and, ih, List.all_cons]
def words1 : List Jvm.Cond := Jvm.Cond.code x code maxLocals ret :: tables_1
/-- a 'code' word, met by the world's own term for the bytes: nothing is compared byte by byte -/
theorem code_word {y : MethodName} {bytes : ByteArray} {mx : Nat} {rt : Option FieldType} {a : Array Value} {s : State} {m : MethodId} {meth : Method} {c : Code} (h1 : s.methodNamed? y = some m) (h2 : s.vm.method? m = some meth) (h3 : meth.code = some c) (h4 : c.code = bytes)
    (h5 : (c.maxLocals == mx && c.exceptionTable.isEmpty && decide (c.maxStack ≤ mostOperands) && decide (meth.sig.returnType = rt) && !meth.locks && decide (parseMethodDescriptor y.desc = some meth.sig)) = true) : (Jvm.Cond.code y bytes mx rt).before a s = true := by
  simp only [Bool.and_eq_true, beq_iff_eq, Bool.not_eq_true', decide_eq_true_eq] at h5
  obtain ⟨⟨⟨⟨⟨g1, g2⟩, g3⟩, g4⟩, g5⟩, g6⟩ := h5
  simp [Cond.before, Cond.holds, Cond.value, h1, h2, h3, h4, g1, g2, g3, g4, g5, g6]
def isCode : Jvm.Cond → Bool
  | .code _ _ _ _ => true
  | _ => false
theorem all_split {L : List Jvm.Cond} {P : Jvm.Cond → Bool} (h1 : L.all (fun c => isCode c || P c) = true) (h2 : ∀ c ∈ L.filter isCode, P c = true) : L.all P = true := by
  refine List.all_eq_true.mpr fun c hc => ?_
  have h := List.all_eq_true.mp h1 c hc
  rcases Bool.eq_false_or_eq_true (isCode c) with hi | hi
  · exact h2 c (List.mem_filter.mpr ⟨hc, hi⟩)
  · simpa [hi] using h
set_option maxRecDepth 65536 in
theorem w_c0 : (Jvm.Cond.code x code maxLocals ret).before args0 about1 = true := code_word (m := ⟨1, 1⟩) (meth := k1m1) (c := k1c1) (by decide +kernel) rfl rfl rfl (by decide +kernel)
set_option maxRecDepth 65536 in
theorem w_c1 : (Jvm.Cond.code ({ cls := "com/example/sift_sentences/siftsentences/eval/Grading", name := "<init>", desc := "(II)V" } : Jvm.MethodName) prog_11_method_1_code (3 : Nat) (Option.none : Option Jvm.ClassFile.FieldType)).before args0 about1 = true := code_word (m := ⟨2, 0⟩) (meth := k2m0) (c := k2c0) (by decide +kernel) rfl rfl rfl (by decide +kernel)
set_option maxRecDepth 65536 in
theorem w_c2 : (Jvm.Cond.code ({ cls := "java/lang/Object", name := "<init>", desc := "()V" } : Jvm.MethodName) object_method_1_code (1 : Nat) (Option.none : Option Jvm.ClassFile.FieldType)).before args0 about1 = true := code_word (m := ⟨0, 0⟩) (meth := k0m0) (c := k0c0) (by decide +kernel) rfl rfl rfl (by decide +kernel)
set_option maxRecDepth 65536 in
theorem w_c3 : (Jvm.Cond.code ({ cls := "com/example/sift_sentences/siftsentences/eval/Grading", name := "isRelevant", desc := "(I)Z" } : Jvm.MethodName) prog_11_method_3_code (2 : Nat) (Option.some Jvm.ClassFile.FieldType.boolean)).before args0 about1 = true := code_word (m := ⟨2, 1⟩) (meth := k2m1) (c := k2c1) (by decide +kernel) rfl rfl rfl (by decide +kernel)
def codes1 : List Jvm.Cond := [Jvm.Cond.code x code maxLocals ret, Jvm.Cond.code ({ cls := "com/example/sift_sentences/siftsentences/eval/Grading", name := "<init>", desc := "(II)V" } : Jvm.MethodName) prog_11_method_1_code (3 : Nat) (Option.none : Option Jvm.ClassFile.FieldType), Jvm.Cond.code ({ cls := "java/lang/Object", name := "<init>", desc := "()V" } : Jvm.MethodName) object_method_1_code (1 : Nat) (Option.none : Option Jvm.ClassFile.FieldType), Jvm.Cond.code ({ cls := "com/example/sift_sentences/siftsentences/eval/Grading", name := "isRelevant", desc := "(I)Z" } : Jvm.MethodName) prog_11_method_3_code (2 : Nat) (Option.some Jvm.ClassFile.FieldType.boolean)]
set_option maxRecDepth 65536 in
theorem codes_eq : words1.filter isCode = codes1 := rfl
theorem w_codes : ∀ c ∈ words1.filter isCode, c.before args0 about1 = true := by
  rw [codes_eq]
  intro c hc
  simp only [codes1, List.mem_cons, List.not_mem_nil, or_false] at hc
  rcases hc with rfl | rfl | rfl | rfl
  · exact w_c0
  · exact w_c1
  · exact w_c2
  · exact w_c3
set_option maxRecDepth 65536 in
theorem w_t1 : words1.all (fun c => isCode c || c.before args0 about1) = true := by decide +kernel
theorem w_tables : (allAtoms (Jvm.Cond.code x code maxLocals ret :: tables_1)).before args0 about1 = true := by
  rw [allAtoms_all]
  show words1.all (fun c => c.before args0 about1) = true
  refine all_split ?_ w_codes
  rw [w_t1]
set_option maxRecDepth 65536 in
theorem w_case : (Jvm.Cond.and given_1 narrow_1).before args0 about1 = true := by decide +kernel
theorem w_applies : (headSpec (Jvm.Cond.code x code maxLocals ret :: tables_1) room_1).applies x e0.platform about1 = true :=
  (Spec.applies_iff w_frames).mpr ⟨w_running, w_runnable, w_alone, w_named, w_hears, w_ripe, w_room, w_tables⟩
theorem atStart : AtStart classFile x code maxLocals ret World_1 tables_1 room_1 Calls_1 rest_1 Pre_1 launch0 p0 e0 about1 theMethod args0 below0 :=
  ⟨lists_1, trivial, launch0.admits_env _ _ _, launch0.least_env, fairChoices_fair.cas, fairChoices_fair.clock, w_frames, w_args, w_heap, w_applies, trivial, trivial, w_case⟩
end start1
theorem witness_1 : WitnessClaimed_1 := ⟨start1.p0, start1.e0, start1.about1, start1.theMethod, start1.args0, start1.below0, start1.atStart⟩
end Jvm.Pilot.@@N@@
